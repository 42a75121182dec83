import JvmDerived
import JvmDerived.Pilot.@@N@@Statement
import JvmDerived.Pilot.@@N@@Code
set_option linter.unusedVariables false
set_option linter.unusedSimpArgs false
namespace Jvm.Pilot.@@N@@
open Jvm Jvm.ClassFile Sem Op Lib Jvm.Free Jvm.Stand Jvm.LawKit Jvm.RoadKit Bundle Jvm.Pilot.@@N@@.Jvm.D
/-! ## A small program logic over 'Stand': oGo says that from here the method comes to its end and Q holds there. -/
def oDok (Z : State) (EL : List (String × Nat)) (vm : Vm) (h : Heap) (D : List Addr) : Prop := ∀ x ∈ D, Z.heap.size ≤ x ∧ x < h.size ∧ Safe Z EL vm h x
def oInv (l : Launch) (Z : State) (a0 : Array Value) (EL : List (String × Nat)) (wd : Prop) (p : Program) (e : Env) (s : State) (m : MethodId) (args : Array Value) (below : List Frame) (meth : Method) (c : Code) (R : Room) (own : String) (bytes : ByteArray) (mx : Nat) (rt : Option FieldType) (nm : String)
    (D : List Addr) (h : Heap) (k n : Nat) (T : State) (locs : List Loc) (vm0 : Vm) (k0 : Nat) : Prop :=
  (p.tables.exec = Jvm.exec ∧ c.code = bytes ∧ c.maxLocals = mx ∧ meth.sig.returnType = rt ∧ meth.locks = false ∧ meth.name = nm ∧ EW Z a0 EL) ∧
  T.heap = h ∧ Ext Z.heap h ∧ Fr Z.heap.size locs ∧ Stand p l e R (s.setVm vm0) m args below meth c T locs k n ∧ s.Since vm0 k0 ∧ k0 ≤ h.size ∧ Z.Warmed39 vm0 ∧ vm0.findClass own = some m.cls ∧ CHr Z EL s.vm s.heap vm0 h ∧ (wd ∨ s.WarmedH vm0) ∧ oDok Z EL vm0 h D
def oRes (Z : State) (EL : List (String × Nat)) (wd : Prop) (p : Program) (e : Env) (s : State) (below : List Frame) (R : Room) (Q : Option Value → Heap → Prop) (O : Option Value → Heap → Addr → Prop) (t : State) : Prop :=
  ∃ (V : State) (v : Option Value) (L : List Loc), Steps p.tables e below t V ∧ V.status = .running ∧ Ended V below (.returned v) ∧ (Q v V.heap ∧ ∀ x, O v V.heap x → Z.heap.size ≤ x ∧ x < V.heap.size ∧ Safe Z EL V.vm V.heap x) ∧ Fr Z.heap.size L ∧ Ext Z.heap V.heap ∧ CHr Z EL s.vm s.heap V.vm V.heap ∧ (wd ∨ s.WarmedH V.vm) ∧ ReturnedEndW s (.returned v) V L R.cells R.slots
def oGo (l : Launch) (Z : State) (a0 : Array Value) (EL : List (String × Nat)) (wd : Prop) (p : Program) (e : Env) (s : State) (m : MethodId) (args : Array Value) (below : List Frame) (meth : Method) (c : Code) (R : Room) (own : String) (bytes : ByteArray) (mx : Nat) (rt : Option FieldType) (nm : String)
    (Q : Option Value → Heap → Prop) (O : Option Value → Heap → Addr → Prop) (D : List Addr) (h : Heap) (k n : Nat) (pc : Nat) (Ls : Array Slot) (st : List Value) : Prop :=
  ∀ T locs vm0 k0, oInv l Z a0 EL wd p e s m args below meth c R own bytes mx rt nm D h k n T locs vm0 k0 → oRes Z EL wd p e s below R Q O (T.setTop (mkF m pc Ls st))
def oCtr (ws : List Jvm.Cond) (l : Launch) (Z : State) (a0 : Array Value) (EL : List (String × Nat)) (wd : Prop) (y : MethodName) (bytes : ByteArray) (mx : Nat) (rt : Option FieldType) (rm : Room) (as' : Array Value) (D : List Addr) (h : Heap) (Q : Option Value → Heap → Prop) (O : Option Value → Heap → Addr → Prop) : Prop :=
  MetFree l y (head1 (Cond.code y bytes mx rt :: ws) rm) (fun a U => a = as' ∧ Z.Warmed39 U.vm ∧ U.heap = h ∧ Ext Z.heap h ∧ CHv Z EL U.vm h ∧ oDok Z EL U.vm h D) (fun _ _ _ _ _ => True)
    (fun _ U o U' => ∃ v L, o = .returned v ∧ (Q v U'.heap ∧ ∀ x, O v U'.heap x → Z.heap.size ≤ x ∧ x < U'.heap.size ∧ Safe Z EL U'.vm U'.heap x) ∧ Fr Z.heap.size L ∧ Ext Z.heap U'.heap ∧ CHr Z EL U.vm U.heap U'.vm U'.heap ∧ (wd ∨ U.WarmedH U'.vm) ∧ ReturnedEndW U o U' L rm.cells rm.slots)
abbrev oRet : Option Value → Heap → Addr → Prop := fun v _ x => v = some (.ref x)
abbrev oNo : Option Value → Heap → Addr → Prop := fun _ _ _ => False
section Logic
variable {l : Launch} {Z : State} {a0 : Array Value} {EL : List (String × Nat)} {wd : Prop} {p : Program} {e : Env} {s : State} {m : MethodId} {args : Array Value} {below : List Frame} {meth : Method} {c : Code} {R : Room} {own : String} {bytes : ByteArray} {mx : Nat} {rt : Option FieldType} {nm : String}
  {Q : Option Value → Heap → Prop} {O : Option Value → Heap → Addr → Prop} {D : List Addr} {h : Heap} {k n : Nat} {pc pc' pc1 pc2 : Nat} {Ls Ls' : Array Slot} {st st' : List Value}
theorem oDok.ext {vm : Vm} {h' : Heap} (E : Ext h h') (H : CHv Z EL vm h) (q : oDok Z EL vm h D) : oDok Z EL vm h' D := fun x hx => ⟨(q x hx).1, Nat.lt_of_lt_of_le (q x hx).2.1 E.1, (q x hx).2.2.ext E H⟩
theorem oDok.wr {vm : Vm} {h' : Heap} {a : Addr} {sl : Nat} {v : Value} (W : Wr h h' a sl v) (S : Safe Z EL vm h a) (H : CHv Z EL vm h) (q : oDok Z EL vm h D) : oDok Z EL vm h' D := fun x hx => ⟨(q x hx).1, by rw [W.size]; exact (q x hx).2.1, Safe.wr W S H (q x hx).2.2⟩
theorem oDok.chr {vm vm1 : Vm} {h' : Heap} (A : CHr Z EL vm h vm1 h') (q : oDok Z EL vm h D) : oDok Z EL vm1 h' D := fun x hx => ⟨(q x hx).1, Nat.lt_of_lt_of_le (q x hx).2.1 A.2.1, A.safe (q x hx).2.1 (q x hx).2.2⟩
theorem oDok.sub {vm : Vm} {D' : List Addr} (q : oDok Z EL vm h D) (hs : ∀ x ∈ D', x ∈ D) : oDok Z EL vm h D' := fun x hx => q x (hs x hx)
theorem ext_refl (h : Heap) : Ext h h := ⟨Nat.le_refl _, fun _ _ q => q⟩
theorem ext_trans {h h' h2 : Heap} (A : Ext h h') (B : Ext h' h2) : Ext h h2 := ⟨Nat.le_trans A.1 B.1, fun a c q => B.2 a c (A.2 a c q)⟩
theorem ext_wr {h0 h h' : Heap} {a : Addr} {sl : Nat} {v : Value} (E : Ext h0 h) (W : Wr h h' a sl v) (q : h0.size ≤ a) : Ext h0 h' := by
  refine ⟨by rw [W.size]; exact E.1, fun b cb hb => ?_⟩
  obtain ⟨cb', h1, -, -, -, h5, -⟩ := wr_at W (E.2 b cb hb)
  rw [← h5 (fun e1 => by subst e1; exact absurd (Array.getElem?_eq_some_iff.mp hb).1 (Nat.not_lt.mpr q))]; exact h1
/-- entering -/
theorem oCtr.enter {ws : List Jvm.Cond} {y : MethodName} {rm : Room} {as' : Array Value} (pn : plainFor y = true) (hEW : EW Z a0 EL) (ef : ∀ m, entryFrame m as' mx = mkF m 0 Ls [])
    (g : ∀ (p : Program) (e : Env) (s : State) (m : MethodId) (below : List Frame) (meth : Method) (c : Code), oGo l Z a0 EL wd p e s m as' below meth c rm y.cls bytes mx rt y.name Q O D h 0 0 0 Ls []) : oCtr ws l Z a0 EL wd y bytes mx rt rm as' D h Q O := by
  refine MetFree.of_bodySF pn hisR ?_
  intro p e s m args below meth c s₁ Bd hml0 hP hK
  obtain ⟨rfl, hZ, hh, hE, hC, hD⟩ := hP
  have X0 : Stand p l e rm s m args below meth c s₁ [] 0 0 := Stand.of_body Bd
  have e0 : s₁.heap = h := by rw [← hh, Bd.state]; rfl
  have hown : s.vm.findClass y.cls = some m.cls := findClass_of_methodNamed Bd.named
  have hnm := (name_of_methodNamed Bd.named Bd.method).1
  obtain ⟨V, v, L, h1, h2, h3, h4, h5, h6, h7, h8, h9⟩ := g p e s m below meth c s₁ [] s.vm s.heap.size ⟨⟨Bd.exec, Bd.bytes, hml0, Bd.returns, Bd.notSynchronized, hnm, hEW⟩, e0, hE, Fr.nil _, X0, (State.WarmedH.refl s).since _, by rw [hh]; exact Nat.le_refl _, hZ, hown, by rw [hh]; exact CHr.refl hC, Or.inr (State.WarmedH.refl s), hD⟩
  exact ⟨V, .returned v, by rw [ef]; exact h1, h2, h3, v, L, rfl, h4, h5, h6, h7, h8, h9⟩
/-- steps that touch neither heap nor tables -/
theorem oGo.pure (H : ∀ T : State, At T m c below → c.code = bytes → p.tables.exec = Jvm.exec → ∀ t, Steps p.tables e below (T.setTop (mkF m pc' Ls' st')) t → Steps p.tables e below (T.setTop (mkF m pc Ls st)) t)
    (g : oGo l Z a0 EL wd p e s m args below meth c R own bytes mx rt nm Q O D h k n pc' Ls' st') : oGo l Z a0 EL wd p e s m args below meth c R own bytes mx rt nm Q O D h k n pc Ls st := by
  intro T locs vm0 k0 I
  obtain ⟨V, v, L, hs, r⟩ := g T locs vm0 k0 I
  obtain ⟨⟨hx, hb, -⟩, -, -, -, X, -⟩ := I
  exact ⟨V, v, L, H T X.here hb hx V hs, r⟩
def oSl (o : Slot) : Prop := o = .unset ∨ ∃ w : Value, o = .val w ∧ w.category = 1
theorem oGo.aload {i : Nat} {v : Value} (hd : decode bytes pc = .ok (.aload i, 2)) (hp : pc + 2 = pc') (hl : Ls[i]? = some (.val v)) (hv : v.isRef = true) (g : oGo l Z a0 EL wd p e s m args below meth c R own bytes mx rt nm Q O D h k n pc' Ls (v :: st)) : oGo l Z a0 EL wd p e s m args below meth c R own bytes mx rt nm Q O D h k n pc Ls (st) := by
  subst hp; exact oGo.pure (fun T hA hb hx t hr => XS.aload hA hx rfl (by rw [hb]; exact hd) hl hv hr) g
theorem oGo.aload_n {i : Fin 4} {v : Value} (hd : decode bytes pc = .ok (.aload_n i, 1)) (hp : pc + 1 = pc') (hl : Ls[i.val]? = some (.val v)) (hv : v.isRef = true) (g : oGo l Z a0 EL wd p e s m args below meth c R own bytes mx rt nm Q O D h k n pc' Ls (v :: st)) : oGo l Z a0 EL wd p e s m args below meth c R own bytes mx rt nm Q O D h k n pc Ls (st) := by
  subst hp; exact oGo.pure (fun T hA hb hx t hr => XS.aloadN hA hx rfl (by rw [hb]; exact hd) hl hv hr) g
theorem oGo.iload {i : Nat} {v : Int32} (hd : decode bytes pc = .ok (.iload i, 2)) (hp : pc + 2 = pc') (hl : Ls[i]? = some (.val (.int v))) (g : oGo l Z a0 EL wd p e s m args below meth c R own bytes mx rt nm Q O D h k n pc' Ls (.int v :: st)) : oGo l Z a0 EL wd p e s m args below meth c R own bytes mx rt nm Q O D h k n pc Ls (st) := by
  subst hp; exact oGo.pure (fun T hA hb hx t hr => XS.iload hA hx rfl (by rw [hb]; exact hd) hl hr) g
theorem oGo.iload_n {i : Fin 4} {v : Int32} (hd : decode bytes pc = .ok (.iload_n i, 1)) (hp : pc + 1 = pc') (hl : Ls[i.val]? = some (.val (.int v))) (g : oGo l Z a0 EL wd p e s m args below meth c R own bytes mx rt nm Q O D h k n pc' Ls (.int v :: st)) : oGo l Z a0 EL wd p e s m args below meth c R own bytes mx rt nm Q O D h k n pc Ls (st) := by
  subst hp; exact oGo.pure (fun T hA hb hx t hr => XS.iloadN hA hx rfl (by rw [hb]; exact hd) hl hr) g
theorem oGo.istore {i : Nat} {v : Int32} (hd : decode bytes pc = .ok (.istore i, 2)) (hp : pc + 2 = pc') (hl : storeLocals Ls i (.int v) = some Ls') (g : oGo l Z a0 EL wd p e s m args below meth c R own bytes mx rt nm Q O D h k n pc' Ls' (st)) : oGo l Z a0 EL wd p e s m args below meth c R own bytes mx rt nm Q O D h k n pc Ls (.int v :: st) := by
  subst hp; exact oGo.pure (fun T hA hb hx t hr => XS.istore hA hx rfl (by rw [hb]; exact hd) rfl hl hr) g
theorem oGo.istore_n {i : Fin 4} {v : Int32} (hd : decode bytes pc = .ok (.istore_n i, 1)) (hp : pc + 1 = pc') (hl : storeLocals Ls i.val (.int v) = some Ls') (g : oGo l Z a0 EL wd p e s m args below meth c R own bytes mx rt nm Q O D h k n pc' Ls' (st)) : oGo l Z a0 EL wd p e s m args below meth c R own bytes mx rt nm Q O D h k n pc Ls (.int v :: st) := by
  subst hp; exact oGo.pure (fun T hA hb hx t hr => XS.istoreN hA hx rfl (by rw [hb]; exact hd) rfl hl hr) g
theorem oGo.lload {i : Nat} {v : Int64} (hd : decode bytes pc = .ok (.lload i, 2)) (hp : pc + 2 = pc') (hl : Ls[i]? = some (.val (.long v))) (g : oGo l Z a0 EL wd p e s m args below meth c R own bytes mx rt nm Q O D h k n pc' Ls (.long v :: st)) : oGo l Z a0 EL wd p e s m args below meth c R own bytes mx rt nm Q O D h k n pc Ls (st) := by
  subst hp; exact oGo.pure (fun T hA hb hx t hr => XT.lload hA hx rfl (by rw [hb]; exact hd) hl hr) g
theorem oGo.lload_n {i : Fin 4} {v : Int64} (hd : decode bytes pc = .ok (.lload_n i, 1)) (hp : pc + 1 = pc') (hl : Ls[i.val]? = some (.val (.long v))) (g : oGo l Z a0 EL wd p e s m args below meth c R own bytes mx rt nm Q O D h k n pc' Ls (.long v :: st)) : oGo l Z a0 EL wd p e s m args below meth c R own bytes mx rt nm Q O D h k n pc Ls (st) := by
  subst hp; exact oGo.pure (fun T hA hb hx t hr => XT.lloadN hA hx rfl (by rw [hb]; exact hd) hl hr) g
theorem oGo.lstore {i : Nat} {v : Int64} (hd : decode bytes pc = .ok (.lstore i, 2)) (hp : pc + 2 = pc') (hl : storeLocals Ls i (.long v) = some Ls') (g : oGo l Z a0 EL wd p e s m args below meth c R own bytes mx rt nm Q O D h k n pc' Ls' (st)) : oGo l Z a0 EL wd p e s m args below meth c R own bytes mx rt nm Q O D h k n pc Ls (.long v :: st) := by
  subst hp; exact oGo.pure (fun T hA hb hx t hr => XT.lstore hA hx rfl (by rw [hb]; exact hd) rfl hl hr) g
theorem oGo.lstore_n {i : Fin 4} {v : Int64} (hd : decode bytes pc = .ok (.lstore_n i, 1)) (hp : pc + 1 = pc') (hl : storeLocals Ls i.val (.long v) = some Ls') (g : oGo l Z a0 EL wd p e s m args below meth c R own bytes mx rt nm Q O D h k n pc' Ls' (st)) : oGo l Z a0 EL wd p e s m args below meth c R own bytes mx rt nm Q O D h k n pc Ls (.long v :: st) := by
  subst hp; exact oGo.pure (fun T hA hb hx t hr => XT.lstoreN hA hx rfl (by rw [hb]; exact hd) rfl hl hr) g
theorem oGo.astore {i : Nat} {v : Value} (hd : decode bytes pc = .ok (.astore i, 2)) (hp : pc + 2 = pc') (hv : v.isRef = true) (hl : storeLocals Ls i v = some Ls') (g : oGo l Z a0 EL wd p e s m args below meth c R own bytes mx rt nm Q O D h k n pc' Ls' (st)) : oGo l Z a0 EL wd p e s m args below meth c R own bytes mx rt nm Q O D h k n pc Ls (v :: st) := by
  subst hp; exact oGo.pure (fun T hA hb hx t hr => XS.astore hA hx rfl (by rw [hb]; exact hd) rfl hv hl hr) g
theorem oGo.astore_n {i : Fin 4} {v : Value} (hd : decode bytes pc = .ok (.astore_n i, 1)) (hp : pc + 1 = pc') (hv : v.isRef = true) (hl : storeLocals Ls i.val v = some Ls') (g : oGo l Z a0 EL wd p e s m args below meth c R own bytes mx rt nm Q O D h k n pc' Ls' (st)) : oGo l Z a0 EL wd p e s m args below meth c R own bytes mx rt nm Q O D h k n pc Ls (v :: st) := by
  subst hp; exact oGo.pure (fun T hA hb hx t hr => XS.astoreN hA hx rfl (by rw [hb]; exact hd) rfl hv hl hr) g
theorem oGo.istoreS {i : Nat} {v : Int32} {o : Slot} (hd : decode bytes pc = .ok (.istore i, 2)) (hp : pc + 2 = pc') (ho : oSl o) (hold : Ls[i]? = some o) (hl : Ls.setIfInBounds i (.val (.int v)) = Ls') (g : oGo l Z a0 EL wd p e s m args below meth c R own bytes mx rt nm Q O D h k n pc' Ls' st) : oGo l Z a0 EL wd p e s m args below meth c R own bytes mx rt nm Q O D h k n pc Ls (.int v :: st) := by
  subst hp hl; exact oGo.pure (fun T hA hb hx t hr => XS.istore hA hx rfl (by rw [hb]; exact hd) rfl (XS.store1 hold ho rfl) hr) g
theorem oGo.istore_nS {i : Fin 4} {v : Int32} {o : Slot} (hd : decode bytes pc = .ok (.istore_n i, 1)) (hp : pc + 1 = pc') (ho : oSl o) (hold : Ls[i.val]? = some o) (hl : Ls.setIfInBounds i.val (.val (.int v)) = Ls') (g : oGo l Z a0 EL wd p e s m args below meth c R own bytes mx rt nm Q O D h k n pc' Ls' st) : oGo l Z a0 EL wd p e s m args below meth c R own bytes mx rt nm Q O D h k n pc Ls (.int v :: st) := by
  subst hp hl; exact oGo.pure (fun T hA hb hx t hr => XS.istoreN hA hx rfl (by rw [hb]; exact hd) rfl (XS.store1 hold ho rfl) hr) g
theorem oGo.astoreS {i : Nat} {v : Value} {o : Slot} (hd : decode bytes pc = .ok (.astore i, 2)) (hp : pc + 2 = pc') (hv : v.isRef = true) (hc : v.category = 1) (ho : oSl o) (hold : Ls[i]? = some o) (hl : Ls.setIfInBounds i (.val (v)) = Ls') (g : oGo l Z a0 EL wd p e s m args below meth c R own bytes mx rt nm Q O D h k n pc' Ls' st) : oGo l Z a0 EL wd p e s m args below meth c R own bytes mx rt nm Q O D h k n pc Ls (v :: st) := by
  subst hp hl; exact oGo.pure (fun T hA hb hx t hr => XS.astore hA hx rfl (by rw [hb]; exact hd) rfl hv (XS.store1 hold ho hc) hr) g
theorem oGo.astore_nS {i : Fin 4} {v : Value} {o : Slot} (hd : decode bytes pc = .ok (.astore_n i, 1)) (hp : pc + 1 = pc') (hv : v.isRef = true) (hc : v.category = 1) (ho : oSl o) (hold : Ls[i.val]? = some o) (hl : Ls.setIfInBounds i.val (.val (v)) = Ls') (g : oGo l Z a0 EL wd p e s m args below meth c R own bytes mx rt nm Q O D h k n pc' Ls' st) : oGo l Z a0 EL wd p e s m args below meth c R own bytes mx rt nm Q O D h k n pc Ls (v :: st) := by
  subst hp hl; exact oGo.pure (fun T hA hb hx t hr => XS.astoreN hA hx rfl (by rw [hb]; exact hd) rfl hv (XS.store1 hold ho hc) hr) g
theorem oGo.iconst {i : Int} {v : Int32} (hd : decode bytes pc = .ok (.iconst i, 1)) (hp : pc + 1 = pc') (hv : Int32.ofInt i = v) (g : oGo l Z a0 EL wd p e s m args below meth c R own bytes mx rt nm Q O D h k n pc' Ls (.int v :: st)) : oGo l Z a0 EL wd p e s m args below meth c R own bytes mx rt nm Q O D h k n pc Ls (st) := by
  subst hp; subst hv; exact oGo.pure (fun T hA hb hx t hr => XS.iconst hA hx rfl (by rw [hb]; exact hd)  hr) g
theorem oGo.bipush {i : Int} {v : Int32} (hd : decode bytes pc = .ok (.bipush i, 2)) (hp : pc + 2 = pc') (hv : (Int8.ofInt i).toInt32 = v) (g : oGo l Z a0 EL wd p e s m args below meth c R own bytes mx rt nm Q O D h k n pc' Ls (.int v :: st)) : oGo l Z a0 EL wd p e s m args below meth c R own bytes mx rt nm Q O D h k n pc Ls (st) := by
  subst hp; subst hv; exact oGo.pure (fun T hA hb hx t hr => XS.bipush hA hx rfl (by rw [hb]; exact hd)  hr) g
theorem oGo.sipush {i : Int} {v : Int32} (hd : decode bytes pc = .ok (.sipush i, 3)) (hp : pc + 3 = pc') (hv : (Int16.ofInt i).toInt32 = v) (g : oGo l Z a0 EL wd p e s m args below meth c R own bytes mx rt nm Q O D h k n pc' Ls (.int v :: st)) : oGo l Z a0 EL wd p e s m args below meth c R own bytes mx rt nm Q O D h k n pc Ls (st) := by
  subst hp; subst hv; exact oGo.pure (fun T hA hb hx t hr => XS.sipush hA hx rfl (by rw [hb]; exact hd)  hr) g
theorem oGo.lconst {i : Fin 2} {v : Int64} (hd : decode bytes pc = .ok (.lconst i, 1)) (hp : pc + 1 = pc') (hv : Int64.ofNat i = v) (g : oGo l Z a0 EL wd p e s m args below meth c R own bytes mx rt nm Q O D h k n pc' Ls (.long v :: st)) : oGo l Z a0 EL wd p e s m args below meth c R own bytes mx rt nm Q O D h k n pc Ls (st) := by
  subst hp; subst hv; exact oGo.pure (fun T hA hb hx t hr => XT.lconst hA hx rfl (by rw [hb]; exact hd)  hr) g
theorem oGo.aconst_null  (hd : decode bytes pc = .ok (.aconst_null, 1)) (hp : pc + 1 = pc') (g : oGo l Z a0 EL wd p e s m args below meth c R own bytes mx rt nm Q O D h k n pc' Ls (.null :: st)) : oGo l Z a0 EL wd p e s m args below meth c R own bytes mx rt nm Q O D h k n pc Ls (st) := by
  subst hp; exact oGo.pure (fun T hA hb hx t hr => XS.aconstNull hA hx rfl (by rw [hb]; exact hd)  hr) g
theorem oGo.iadd {x y : Int32} (hd : decode bytes pc = .ok (.iadd, 1)) (hp : pc + 1 = pc') (g : oGo l Z a0 EL wd p e s m args below meth c R own bytes mx rt nm Q O D h k n pc' Ls (.int (x + y) :: st)) : oGo l Z a0 EL wd p e s m args below meth c R own bytes mx rt nm Q O D h k n pc Ls (.int y :: .int x :: st) := by
  subst hp; exact oGo.pure (fun T hA hb hx t hr => XS.iadd hA hx rfl (by rw [hb]; exact hd) rfl hr) g
theorem oGo.ladd {x y : Int64} (hd : decode bytes pc = .ok (.ladd, 1)) (hp : pc + 1 = pc') (g : oGo l Z a0 EL wd p e s m args below meth c R own bytes mx rt nm Q O D h k n pc' Ls (.long (x + y) :: st)) : oGo l Z a0 EL wd p e s m args below meth c R own bytes mx rt nm Q O D h k n pc Ls (.long y :: .long x :: st) := by
  subst hp; exact oGo.pure (fun T hA hb hx t hr => XT.ladd hA hx rfl (by rw [hb]; exact hd) rfl hr) g
theorem oGo.isub {x y : Int32} (hd : decode bytes pc = .ok (.isub, 1)) (hp : pc + 1 = pc') (g : oGo l Z a0 EL wd p e s m args below meth c R own bytes mx rt nm Q O D h k n pc' Ls (.int (x - y) :: st)) : oGo l Z a0 EL wd p e s m args below meth c R own bytes mx rt nm Q O D h k n pc Ls (.int y :: .int x :: st) := by
  subst hp; exact oGo.pure (fun T hA hb hx t hr => XS.isub hA hx rfl (by rw [hb]; exact hd) rfl hr) g
theorem oGo.lsub {x y : Int64} (hd : decode bytes pc = .ok (.lsub, 1)) (hp : pc + 1 = pc') (g : oGo l Z a0 EL wd p e s m args below meth c R own bytes mx rt nm Q O D h k n pc' Ls (.long (x - y) :: st)) : oGo l Z a0 EL wd p e s m args below meth c R own bytes mx rt nm Q O D h k n pc Ls (.long y :: .long x :: st) := by
  subst hp; exact oGo.pure (fun T hA hb hx t hr => XT.lsub hA hx rfl (by rw [hb]; exact hd) rfl hr) g
theorem oGo.imul {x y : Int32} (hd : decode bytes pc = .ok (.imul, 1)) (hp : pc + 1 = pc') (g : oGo l Z a0 EL wd p e s m args below meth c R own bytes mx rt nm Q O D h k n pc' Ls (.int (x * y) :: st)) : oGo l Z a0 EL wd p e s m args below meth c R own bytes mx rt nm Q O D h k n pc Ls (.int y :: .int x :: st) := by
  subst hp; exact oGo.pure (fun T hA hb hx t hr => XS.imul hA hx rfl (by rw [hb]; exact hd) rfl hr) g
theorem oGo.lmul {x y : Int64} (hd : decode bytes pc = .ok (.lmul, 1)) (hp : pc + 1 = pc') (g : oGo l Z a0 EL wd p e s m args below meth c R own bytes mx rt nm Q O D h k n pc' Ls (.long (x * y) :: st)) : oGo l Z a0 EL wd p e s m args below meth c R own bytes mx rt nm Q O D h k n pc Ls (.long y :: .long x :: st) := by
  subst hp; exact oGo.pure (fun T hA hb hx t hr => XT.lmul hA hx rfl (by rw [hb]; exact hd) rfl hr) g
theorem oGo.iand {x y : Int32} (hd : decode bytes pc = .ok (.iand, 1)) (hp : pc + 1 = pc') (g : oGo l Z a0 EL wd p e s m args below meth c R own bytes mx rt nm Q O D h k n pc' Ls (.int (x &&& y) :: st)) : oGo l Z a0 EL wd p e s m args below meth c R own bytes mx rt nm Q O D h k n pc Ls (.int y :: .int x :: st) := by
  subst hp; exact oGo.pure (fun T hA hb hx t hr => XS.iand hA hx rfl (by rw [hb]; exact hd) rfl hr) g
theorem oGo.land {x y : Int64} (hd : decode bytes pc = .ok (.land, 1)) (hp : pc + 1 = pc') (g : oGo l Z a0 EL wd p e s m args below meth c R own bytes mx rt nm Q O D h k n pc' Ls (.long (x &&& y) :: st)) : oGo l Z a0 EL wd p e s m args below meth c R own bytes mx rt nm Q O D h k n pc Ls (.long y :: .long x :: st) := by
  subst hp; exact oGo.pure (fun T hA hb hx t hr => XT.land hA hx rfl (by rw [hb]; exact hd) rfl hr) g
theorem oGo.ior {x y : Int32} (hd : decode bytes pc = .ok (.ior, 1)) (hp : pc + 1 = pc') (g : oGo l Z a0 EL wd p e s m args below meth c R own bytes mx rt nm Q O D h k n pc' Ls (.int (x ||| y) :: st)) : oGo l Z a0 EL wd p e s m args below meth c R own bytes mx rt nm Q O D h k n pc Ls (.int y :: .int x :: st) := by
  subst hp; exact oGo.pure (fun T hA hb hx t hr => XT.ior hA hx rfl (by rw [hb]; exact hd) rfl hr) g
theorem oGo.lor {x y : Int64} (hd : decode bytes pc = .ok (.lor, 1)) (hp : pc + 1 = pc') (g : oGo l Z a0 EL wd p e s m args below meth c R own bytes mx rt nm Q O D h k n pc' Ls (.long (x ||| y) :: st)) : oGo l Z a0 EL wd p e s m args below meth c R own bytes mx rt nm Q O D h k n pc Ls (.long y :: .long x :: st) := by
  subst hp; exact oGo.pure (fun T hA hb hx t hr => XT.lor hA hx rfl (by rw [hb]; exact hd) rfl hr) g
theorem oGo.ixor {x y : Int32} (hd : decode bytes pc = .ok (.ixor, 1)) (hp : pc + 1 = pc') (g : oGo l Z a0 EL wd p e s m args below meth c R own bytes mx rt nm Q O D h k n pc' Ls (.int (x ^^^ y) :: st)) : oGo l Z a0 EL wd p e s m args below meth c R own bytes mx rt nm Q O D h k n pc Ls (.int y :: .int x :: st) := by
  subst hp; exact oGo.pure (fun T hA hb hx t hr => XT.ixor hA hx rfl (by rw [hb]; exact hd) rfl hr) g
theorem oGo.lxor {x y : Int64} (hd : decode bytes pc = .ok (.lxor, 1)) (hp : pc + 1 = pc') (g : oGo l Z a0 EL wd p e s m args below meth c R own bytes mx rt nm Q O D h k n pc' Ls (.long (x ^^^ y) :: st)) : oGo l Z a0 EL wd p e s m args below meth c R own bytes mx rt nm Q O D h k n pc Ls (.long y :: .long x :: st) := by
  subst hp; exact oGo.pure (fun T hA hb hx t hr => XT.lxor hA hx rfl (by rw [hb]; exact hd) rfl hr) g
theorem oGo.ishl {x y : Int32} (hd : decode bytes pc = .ok (.ishl, 1)) (hp : pc + 1 = pc') (g : oGo l Z a0 EL wd p e s m args below meth c R own bytes mx rt nm Q O D h k n pc' Ls (.int (x <<< (y &&& 31)) :: st)) : oGo l Z a0 EL wd p e s m args below meth c R own bytes mx rt nm Q O D h k n pc Ls (.int y :: .int x :: st) := by
  subst hp; exact oGo.pure (fun T hA hb hx t hr => XT.ishl hA hx rfl (by rw [hb]; exact hd) rfl hr) g
theorem oGo.ishr {x y : Int32} (hd : decode bytes pc = .ok (.ishr, 1)) (hp : pc + 1 = pc') (g : oGo l Z a0 EL wd p e s m args below meth c R own bytes mx rt nm Q O D h k n pc' Ls (.int (x >>> (y &&& 31)) :: st)) : oGo l Z a0 EL wd p e s m args below meth c R own bytes mx rt nm Q O D h k n pc Ls (.int y :: .int x :: st) := by
  subst hp; exact oGo.pure (fun T hA hb hx t hr => XT.ishr hA hx rfl (by rw [hb]; exact hd) rfl hr) g
theorem oGo.iushr {x y : Int32} (hd : decode bytes pc = .ok (.iushr, 1)) (hp : pc + 1 = pc') (g : oGo l Z a0 EL wd p e s m args below meth c R own bytes mx rt nm Q O D h k n pc' Ls (.int (XT.ushr x y) :: st)) : oGo l Z a0 EL wd p e s m args below meth c R own bytes mx rt nm Q O D h k n pc Ls (.int y :: .int x :: st) := by
  subst hp; exact oGo.pure (fun T hA hb hx t hr => XT.iushr hA hx rfl (by rw [hb]; exact hd) rfl hr) g
theorem oGo.idiv {x y : Int32} (hd : decode bytes pc = .ok (.idiv, 1)) (hp : pc + 1 = pc') (hy : y ≠ 0) (g : oGo l Z a0 EL wd p e s m args below meth c R own bytes mx rt nm Q O D h k n pc' Ls (.int (x / y) :: st)) : oGo l Z a0 EL wd p e s m args below meth c R own bytes mx rt nm Q O D h k n pc Ls (.int y :: .int x :: st) := by
  subst hp; exact oGo.pure (fun T hA hb hx t hr => XS.idiv hA hx rfl (by rw [hb]; exact hd) rfl hy hr) g
theorem oGo.ldiv {x y : Int64} (hd : decode bytes pc = .ok (.ldiv, 1)) (hp : pc + 1 = pc') (hy : y ≠ 0) (g : oGo l Z a0 EL wd p e s m args below meth c R own bytes mx rt nm Q O D h k n pc' Ls (.long (x / y) :: st)) : oGo l Z a0 EL wd p e s m args below meth c R own bytes mx rt nm Q O D h k n pc Ls (.long y :: .long x :: st) := by
  subst hp; exact oGo.pure (fun T hA hb hx t hr => XT.ldiv hA hx rfl (by rw [hb]; exact hd) rfl hy hr) g
theorem oGo.irem {x y : Int32} (hd : decode bytes pc = .ok (.irem, 1)) (hp : pc + 1 = pc') (hy : y ≠ 0) (g : oGo l Z a0 EL wd p e s m args below meth c R own bytes mx rt nm Q O D h k n pc' Ls (.int (x % y) :: st)) : oGo l Z a0 EL wd p e s m args below meth c R own bytes mx rt nm Q O D h k n pc Ls (.int y :: .int x :: st) := by
  subst hp; rw [← irem_eq_mod] at g; exact oGo.pure (fun T hA hb hx t hr => XS.irem hA hx rfl (by rw [hb]; exact hd) rfl hy hr) g
theorem oGo.lrem {x y : Int64} (hd : decode bytes pc = .ok (.lrem, 1)) (hp : pc + 1 = pc') (hy : y ≠ 0) (g : oGo l Z a0 EL wd p e s m args below meth c R own bytes mx rt nm Q O D h k n pc' Ls (.long (x - x / y * y) :: st)) : oGo l Z a0 EL wd p e s m args below meth c R own bytes mx rt nm Q O D h k n pc Ls (.long y :: .long x :: st) := by
  subst hp; exact oGo.pure (fun T hA hb hx t hr => XT.lrem hA hx rfl (by rw [hb]; exact hd) rfl hy hr) g
theorem oGo.ineg {x : Int32} (hd : decode bytes pc = .ok (.ineg, 1)) (hp : pc + 1 = pc') (g : oGo l Z a0 EL wd p e s m args below meth c R own bytes mx rt nm Q O D h k n pc' Ls (.int (-x) :: st)) : oGo l Z a0 EL wd p e s m args below meth c R own bytes mx rt nm Q O D h k n pc Ls (.int x :: st) := by
  subst hp; exact oGo.pure (fun T hA hb hx t hr => XS.ineg hA hx rfl (by rw [hb]; exact hd) rfl hr) g
theorem oGo.lneg {x : Int64} (hd : decode bytes pc = .ok (.lneg, 1)) (hp : pc + 1 = pc') (g : oGo l Z a0 EL wd p e s m args below meth c R own bytes mx rt nm Q O D h k n pc' Ls (.long (-x) :: st)) : oGo l Z a0 EL wd p e s m args below meth c R own bytes mx rt nm Q O D h k n pc Ls (.long x :: st) := by
  subst hp; exact oGo.pure (fun T hA hb hx t hr => XT.lneg hA hx rfl (by rw [hb]; exact hd) rfl hr) g
theorem oGo.i2l {x : Int32} (hd : decode bytes pc = .ok (.i2l, 1)) (hp : pc + 1 = pc') (g : oGo l Z a0 EL wd p e s m args below meth c R own bytes mx rt nm Q O D h k n pc' Ls (.long x.toInt64 :: st)) : oGo l Z a0 EL wd p e s m args below meth c R own bytes mx rt nm Q O D h k n pc Ls (.int x :: st) := by
  subst hp; exact oGo.pure (fun T hA hb hx t hr => XT.i2l hA hx rfl (by rw [hb]; exact hd) rfl hr) g
theorem oGo.l2i {x : Int64} (hd : decode bytes pc = .ok (.l2i, 1)) (hp : pc + 1 = pc') (g : oGo l Z a0 EL wd p e s m args below meth c R own bytes mx rt nm Q O D h k n pc' Ls (.int x.toInt32 :: st)) : oGo l Z a0 EL wd p e s m args below meth c R own bytes mx rt nm Q O D h k n pc Ls (.long x :: st) := by
  subst hp; exact oGo.pure (fun T hA hb hx t hr => XT.l2i hA hx rfl (by rw [hb]; exact hd) rfl hr) g
theorem oGo.i2b {x : Int32} (hd : decode bytes pc = .ok (.i2b, 1)) (hp : pc + 1 = pc') (g : oGo l Z a0 EL wd p e s m args below meth c R own bytes mx rt nm Q O D h k n pc' Ls (.int x.toInt8.toInt32 :: st)) : oGo l Z a0 EL wd p e s m args below meth c R own bytes mx rt nm Q O D h k n pc Ls (.int x :: st) := by
  subst hp; exact oGo.pure (fun T hA hb hx t hr => XT.i2b hA hx rfl (by rw [hb]; exact hd) rfl hr) g
theorem oGo.i2c {x : Int32} (hd : decode bytes pc = .ok (.i2c, 1)) (hp : pc + 1 = pc') (g : oGo l Z a0 EL wd p e s m args below meth c R own bytes mx rt nm Q O D h k n pc' Ls (.int x.toUInt32.toUInt16.toUInt32.toInt32 :: st)) : oGo l Z a0 EL wd p e s m args below meth c R own bytes mx rt nm Q O D h k n pc Ls (.int x :: st) := by
  subst hp; exact oGo.pure (fun T hA hb hx t hr => XT.i2c hA hx rfl (by rw [hb]; exact hd) rfl hr) g
theorem oGo.lcmp {x y : Int64} (hd : decode bytes pc = .ok (.lcmp, 1)) (hp : pc + 1 = pc') (g : oGo l Z a0 EL wd p e s m args below meth c R own bytes mx rt nm Q O D h k n pc' Ls (.int (XT.cmpL x y) :: st)) : oGo l Z a0 EL wd p e s m args below meth c R own bytes mx rt nm Q O D h k n pc Ls (.long y :: .long x :: st) := by
  subst hp; exact oGo.pure (fun T hA hb hx t hr => XT.lcmp hA hx rfl (by rw [hb]; exact hd) rfl hr) g
theorem oGo.iinc {i : Nat} {d : Int} {x y : Int32} (hd : decode bytes pc = .ok (.iinc i d, 3)) (hp : pc + 3 = pc') (hl : Ls[i]? = some (.val (.int x))) (hv : Int32.ofInt d = y) (hl' : storeLocals Ls i (.int (x + y)) = some Ls') (g : oGo l Z a0 EL wd p e s m args below meth c R own bytes mx rt nm Q O D h k n pc' Ls' (st)) : oGo l Z a0 EL wd p e s m args below meth c R own bytes mx rt nm Q O D h k n pc Ls (st) := by
  subst hp; exact oGo.pure (fun T hA hb hx t hr => XS.iinc hA hx rfl (by rw [hb]; exact hd) hl (by rw [hv]; exact hl') hr) g
theorem oGo.dup {v : Value} (hd : decode bytes pc = .ok (.dup, 1)) (hp : pc + 1 = pc') (hc : v.category = 1) (g : oGo l Z a0 EL wd p e s m args below meth c R own bytes mx rt nm Q O D h k n pc' Ls (v :: v :: st)) : oGo l Z a0 EL wd p e s m args below meth c R own bytes mx rt nm Q O D h k n pc Ls (v :: st) := by
  subst hp; exact oGo.pure (fun T hA hb hx t hr => XS.dup hA hx rfl (by rw [hb]; exact hd) rfl hc hr) g
theorem oGo.pop {v : Value} (hd : decode bytes pc = .ok (.pop, 1)) (hp : pc + 1 = pc') (hc : v.category = 1) (g : oGo l Z a0 EL wd p e s m args below meth c R own bytes mx rt nm Q O D h k n pc' Ls (st)) : oGo l Z a0 EL wd p e s m args below meth c R own bytes mx rt nm Q O D h k n pc Ls (v :: st) := by
  subst hp; exact oGo.pure (fun T hA hb hx t hr => XT.pop hA hx rfl (by rw [hb]; exact hd) rfl hc hr) g
theorem oGo.dup_x1 {v w : Value} (hd : decode bytes pc = .ok (.dup_x1, 1)) (hp : pc + 1 = pc') (hc : v.category = 1) (hc' : w.category = 1) (g : oGo l Z a0 EL wd p e s m args below meth c R own bytes mx rt nm Q O D h k n pc' Ls (v :: w :: v :: st)) : oGo l Z a0 EL wd p e s m args below meth c R own bytes mx rt nm Q O D h k n pc Ls (v :: w :: st) := by
  subst hp; exact oGo.pure (fun T hA hb hx t hr => XT.dupX1 hA hx rfl (by rw [hb]; exact hd) rfl hc hc' hr) g
theorem oGo.dup2 {v w : Value} (hd : decode bytes pc = .ok (.dup2, 1)) (hp : pc + 1 = pc') (hc : v.category = 1) (hc' : w.category = 1) (g : oGo l Z a0 EL wd p e s m args below meth c R own bytes mx rt nm Q O D h k n pc' Ls (v :: w :: v :: w :: st)) : oGo l Z a0 EL wd p e s m args below meth c R own bytes mx rt nm Q O D h k n pc Ls (v :: w :: st) := by
  subst hp; exact oGo.pure (fun T hA hb hx t hr => XT.dup2 hA hx rfl (by rw [hb]; exact hd) rfl hc hc' hr) g
theorem oGo.goto {o : Int} (hd : decode bytes pc = .ok (.goto o, 3)) (ho : (pc : Int) + o = (pc' : Int)) (g : oGo l Z a0 EL wd p e s m args below meth c R own bytes mx rt nm Q O D h k n pc' Ls st) : oGo l Z a0 EL wd p e s m args below meth c R own bytes mx rt nm Q O D h k n pc Ls st :=
  oGo.pure (fun T hA hb hx t hr => XS.goto hA hx rfl (pc0 := pc) (pc' := pc') rfl (by rw [hb]; exact hd) (by omega) (by omega) hr) g
theorem own_icmp_eq {x y : Int32} : if_icmp.holds .eq x y = true ↔ x = y := by simp [if_icmp.holds, Int32.not_lt]
theorem own_icmp_eqN {x y : Int32} : if_icmp.holds .eq x y = false ↔ ¬ x = y := by simp [if_icmp.holds, Int32.not_lt]
theorem oGo.icmp_eq {x y : Int32} {o : Int} (hd : decode bytes pc = .ok (.if_icmp .eq o, 3)) (hp : pc + 3 = pc1) (ho : (pc : Int) + o = (pc2 : Int)) (gy : x = y → oGo l Z a0 EL wd p e s m args below meth c R own bytes mx rt nm Q O D h k n pc2 Ls st) (gn : ¬ x = y → oGo l Z a0 EL wd p e s m args below meth c R own bytes mx rt nm Q O D h k n pc1 Ls st) : oGo l Z a0 EL wd p e s m args below meth c R own bytes mx rt nm Q O D h k n pc Ls (.int y :: .int x :: st) := by
  subst hp
  by_cases q : x = y
  · exact oGo.pure (fun T hA hb hx t hr => XS.icmpYes hA hx rfl (pc0 := pc) (pc' := pc2) rfl (by rw [hb]; exact hd) rfl (own_icmp_eq.2 q) (by omega) (by omega) hr) (gy q)
  · exact oGo.pure (fun T hA hb hx t hr => XS.icmpNo hA hx rfl (by rw [hb]; exact hd) rfl (own_icmp_eqN.2 q) hr) (gn q)
theorem own_icmp_ne {x y : Int32} : if_icmp.holds .ne x y = true ↔ ¬ x = y := by simp [if_icmp.holds, Int32.not_lt]
theorem own_icmp_neN {x y : Int32} : if_icmp.holds .ne x y = false ↔ x = y := by simp [if_icmp.holds, Int32.not_lt]
theorem oGo.icmp_ne {x y : Int32} {o : Int} (hd : decode bytes pc = .ok (.if_icmp .ne o, 3)) (hp : pc + 3 = pc1) (ho : (pc : Int) + o = (pc2 : Int)) (gy : ¬ x = y → oGo l Z a0 EL wd p e s m args below meth c R own bytes mx rt nm Q O D h k n pc2 Ls st) (gn : x = y → oGo l Z a0 EL wd p e s m args below meth c R own bytes mx rt nm Q O D h k n pc1 Ls st) : oGo l Z a0 EL wd p e s m args below meth c R own bytes mx rt nm Q O D h k n pc Ls (.int y :: .int x :: st) := by
  subst hp
  by_cases q : x = y
  · exact oGo.pure (fun T hA hb hx t hr => XS.icmpNo hA hx rfl (by rw [hb]; exact hd) rfl (own_icmp_neN.2 q) hr) (gn q)
  · exact oGo.pure (fun T hA hb hx t hr => XS.icmpYes hA hx rfl (pc0 := pc) (pc' := pc2) rfl (by rw [hb]; exact hd) rfl (own_icmp_ne.2 q) (by omega) (by omega) hr) (gy q)
theorem own_icmp_lt {x y : Int32} : if_icmp.holds .lt x y = true ↔ x < y := by simp [if_icmp.holds, Int32.not_lt]
theorem own_icmp_ltN {x y : Int32} : if_icmp.holds .lt x y = false ↔ ¬ x < y := by simp [if_icmp.holds, Int32.not_lt]
theorem oGo.icmp_lt {x y : Int32} {o : Int} (hd : decode bytes pc = .ok (.if_icmp .lt o, 3)) (hp : pc + 3 = pc1) (ho : (pc : Int) + o = (pc2 : Int)) (gy : x < y → oGo l Z a0 EL wd p e s m args below meth c R own bytes mx rt nm Q O D h k n pc2 Ls st) (gn : ¬ x < y → oGo l Z a0 EL wd p e s m args below meth c R own bytes mx rt nm Q O D h k n pc1 Ls st) : oGo l Z a0 EL wd p e s m args below meth c R own bytes mx rt nm Q O D h k n pc Ls (.int y :: .int x :: st) := by
  subst hp
  by_cases q : x < y
  · exact oGo.pure (fun T hA hb hx t hr => XS.icmpYes hA hx rfl (pc0 := pc) (pc' := pc2) rfl (by rw [hb]; exact hd) rfl (own_icmp_lt.2 q) (by omega) (by omega) hr) (gy q)
  · exact oGo.pure (fun T hA hb hx t hr => XS.icmpNo hA hx rfl (by rw [hb]; exact hd) rfl (own_icmp_ltN.2 q) hr) (gn q)
theorem own_icmp_ge {x y : Int32} : if_icmp.holds .ge x y = true ↔ ¬ x < y := by simp [if_icmp.holds, Int32.not_lt]
theorem own_icmp_geN {x y : Int32} : if_icmp.holds .ge x y = false ↔ x < y := by simp [if_icmp.holds, Int32.not_lt]
theorem oGo.icmp_ge {x y : Int32} {o : Int} (hd : decode bytes pc = .ok (.if_icmp .ge o, 3)) (hp : pc + 3 = pc1) (ho : (pc : Int) + o = (pc2 : Int)) (gy : ¬ x < y → oGo l Z a0 EL wd p e s m args below meth c R own bytes mx rt nm Q O D h k n pc2 Ls st) (gn : x < y → oGo l Z a0 EL wd p e s m args below meth c R own bytes mx rt nm Q O D h k n pc1 Ls st) : oGo l Z a0 EL wd p e s m args below meth c R own bytes mx rt nm Q O D h k n pc Ls (.int y :: .int x :: st) := by
  subst hp
  by_cases q : x < y
  · exact oGo.pure (fun T hA hb hx t hr => XS.icmpNo hA hx rfl (by rw [hb]; exact hd) rfl (own_icmp_geN.2 q) hr) (gn q)
  · exact oGo.pure (fun T hA hb hx t hr => XS.icmpYes hA hx rfl (pc0 := pc) (pc' := pc2) rfl (by rw [hb]; exact hd) rfl (own_icmp_ge.2 q) (by omega) (by omega) hr) (gy q)
theorem own_icmp_gt {x y : Int32} : if_icmp.holds .gt x y = true ↔ y < x := by simp [if_icmp.holds, Int32.not_lt]
theorem own_icmp_gtN {x y : Int32} : if_icmp.holds .gt x y = false ↔ ¬ y < x := by simp [if_icmp.holds, Int32.not_lt]
theorem oGo.icmp_gt {x y : Int32} {o : Int} (hd : decode bytes pc = .ok (.if_icmp .gt o, 3)) (hp : pc + 3 = pc1) (ho : (pc : Int) + o = (pc2 : Int)) (gy : y < x → oGo l Z a0 EL wd p e s m args below meth c R own bytes mx rt nm Q O D h k n pc2 Ls st) (gn : ¬ y < x → oGo l Z a0 EL wd p e s m args below meth c R own bytes mx rt nm Q O D h k n pc1 Ls st) : oGo l Z a0 EL wd p e s m args below meth c R own bytes mx rt nm Q O D h k n pc Ls (.int y :: .int x :: st) := by
  subst hp
  by_cases q : y < x
  · exact oGo.pure (fun T hA hb hx t hr => XS.icmpYes hA hx rfl (pc0 := pc) (pc' := pc2) rfl (by rw [hb]; exact hd) rfl (own_icmp_gt.2 q) (by omega) (by omega) hr) (gy q)
  · exact oGo.pure (fun T hA hb hx t hr => XS.icmpNo hA hx rfl (by rw [hb]; exact hd) rfl (own_icmp_gtN.2 q) hr) (gn q)
theorem own_icmp_le {x y : Int32} : if_icmp.holds .le x y = true ↔ ¬ y < x := by simp [if_icmp.holds, Int32.not_lt]
theorem own_icmp_leN {x y : Int32} : if_icmp.holds .le x y = false ↔ y < x := by simp [if_icmp.holds, Int32.not_lt]
theorem oGo.icmp_le {x y : Int32} {o : Int} (hd : decode bytes pc = .ok (.if_icmp .le o, 3)) (hp : pc + 3 = pc1) (ho : (pc : Int) + o = (pc2 : Int)) (gy : ¬ y < x → oGo l Z a0 EL wd p e s m args below meth c R own bytes mx rt nm Q O D h k n pc2 Ls st) (gn : y < x → oGo l Z a0 EL wd p e s m args below meth c R own bytes mx rt nm Q O D h k n pc1 Ls st) : oGo l Z a0 EL wd p e s m args below meth c R own bytes mx rt nm Q O D h k n pc Ls (.int y :: .int x :: st) := by
  subst hp
  by_cases q : y < x
  · exact oGo.pure (fun T hA hb hx t hr => XS.icmpNo hA hx rfl (by rw [hb]; exact hd) rfl (own_icmp_leN.2 q) hr) (gn q)
  · exact oGo.pure (fun T hA hb hx t hr => XS.icmpYes hA hx rfl (pc0 := pc) (pc' := pc2) rfl (by rw [hb]; exact hd) rfl (own_icmp_le.2 q) (by omega) (by omega) hr) (gy q)
theorem own_if_eq {x : Int32} : ifCond.holds .eq x = true ↔ x = 0 := by simp [ifCond.holds, Int32.not_lt]
theorem own_if_eqN {x : Int32} : ifCond.holds .eq x = false ↔ ¬ x = 0 := by simp [ifCond.holds, Int32.not_lt]
theorem oGo.if_eq {x : Int32} {o : Int} (hd : decode bytes pc = .ok (.ifCond .eq o, 3)) (hp : pc + 3 = pc1) (ho : (pc : Int) + o = (pc2 : Int)) (gy : x = 0 → oGo l Z a0 EL wd p e s m args below meth c R own bytes mx rt nm Q O D h k n pc2 Ls st) (gn : ¬ x = 0 → oGo l Z a0 EL wd p e s m args below meth c R own bytes mx rt nm Q O D h k n pc1 Ls st) : oGo l Z a0 EL wd p e s m args below meth c R own bytes mx rt nm Q O D h k n pc Ls (.int x :: st) := by
  subst hp
  by_cases q : x = 0
  · exact oGo.pure (fun T hA hb hx t hr => XS.ifYes hA hx rfl (pc0 := pc) (pc' := pc2) rfl (by rw [hb]; exact hd) rfl (own_if_eq.2 q) (by omega) (by omega) hr) (gy q)
  · exact oGo.pure (fun T hA hb hx t hr => XS.ifNo hA hx rfl (by rw [hb]; exact hd) rfl (own_if_eqN.2 q) hr) (gn q)
theorem own_if_ne {x : Int32} : ifCond.holds .ne x = true ↔ ¬ x = 0 := by simp [ifCond.holds, Int32.not_lt]
theorem own_if_neN {x : Int32} : ifCond.holds .ne x = false ↔ x = 0 := by simp [ifCond.holds, Int32.not_lt]
theorem oGo.if_ne {x : Int32} {o : Int} (hd : decode bytes pc = .ok (.ifCond .ne o, 3)) (hp : pc + 3 = pc1) (ho : (pc : Int) + o = (pc2 : Int)) (gy : ¬ x = 0 → oGo l Z a0 EL wd p e s m args below meth c R own bytes mx rt nm Q O D h k n pc2 Ls st) (gn : x = 0 → oGo l Z a0 EL wd p e s m args below meth c R own bytes mx rt nm Q O D h k n pc1 Ls st) : oGo l Z a0 EL wd p e s m args below meth c R own bytes mx rt nm Q O D h k n pc Ls (.int x :: st) := by
  subst hp
  by_cases q : x = 0
  · exact oGo.pure (fun T hA hb hx t hr => XS.ifNo hA hx rfl (by rw [hb]; exact hd) rfl (own_if_neN.2 q) hr) (gn q)
  · exact oGo.pure (fun T hA hb hx t hr => XS.ifYes hA hx rfl (pc0 := pc) (pc' := pc2) rfl (by rw [hb]; exact hd) rfl (own_if_ne.2 q) (by omega) (by omega) hr) (gy q)
theorem own_if_lt {x : Int32} : ifCond.holds .lt x = true ↔ x < 0 := by simp [ifCond.holds, Int32.not_lt]
theorem own_if_ltN {x : Int32} : ifCond.holds .lt x = false ↔ ¬ x < 0 := by simp [ifCond.holds, Int32.not_lt]
theorem oGo.if_lt {x : Int32} {o : Int} (hd : decode bytes pc = .ok (.ifCond .lt o, 3)) (hp : pc + 3 = pc1) (ho : (pc : Int) + o = (pc2 : Int)) (gy : x < 0 → oGo l Z a0 EL wd p e s m args below meth c R own bytes mx rt nm Q O D h k n pc2 Ls st) (gn : ¬ x < 0 → oGo l Z a0 EL wd p e s m args below meth c R own bytes mx rt nm Q O D h k n pc1 Ls st) : oGo l Z a0 EL wd p e s m args below meth c R own bytes mx rt nm Q O D h k n pc Ls (.int x :: st) := by
  subst hp
  by_cases q : x < 0
  · exact oGo.pure (fun T hA hb hx t hr => XS.ifYes hA hx rfl (pc0 := pc) (pc' := pc2) rfl (by rw [hb]; exact hd) rfl (own_if_lt.2 q) (by omega) (by omega) hr) (gy q)
  · exact oGo.pure (fun T hA hb hx t hr => XS.ifNo hA hx rfl (by rw [hb]; exact hd) rfl (own_if_ltN.2 q) hr) (gn q)
theorem own_if_ge {x : Int32} : ifCond.holds .ge x = true ↔ ¬ x < 0 := by simp [ifCond.holds, Int32.not_lt]
theorem own_if_geN {x : Int32} : ifCond.holds .ge x = false ↔ x < 0 := by simp [ifCond.holds, Int32.not_lt]
theorem oGo.if_ge {x : Int32} {o : Int} (hd : decode bytes pc = .ok (.ifCond .ge o, 3)) (hp : pc + 3 = pc1) (ho : (pc : Int) + o = (pc2 : Int)) (gy : ¬ x < 0 → oGo l Z a0 EL wd p e s m args below meth c R own bytes mx rt nm Q O D h k n pc2 Ls st) (gn : x < 0 → oGo l Z a0 EL wd p e s m args below meth c R own bytes mx rt nm Q O D h k n pc1 Ls st) : oGo l Z a0 EL wd p e s m args below meth c R own bytes mx rt nm Q O D h k n pc Ls (.int x :: st) := by
  subst hp
  by_cases q : x < 0
  · exact oGo.pure (fun T hA hb hx t hr => XS.ifNo hA hx rfl (by rw [hb]; exact hd) rfl (own_if_geN.2 q) hr) (gn q)
  · exact oGo.pure (fun T hA hb hx t hr => XS.ifYes hA hx rfl (pc0 := pc) (pc' := pc2) rfl (by rw [hb]; exact hd) rfl (own_if_ge.2 q) (by omega) (by omega) hr) (gy q)
theorem own_if_gt {x : Int32} : ifCond.holds .gt x = true ↔ 0 < x := by simp [ifCond.holds, Int32.not_lt]
theorem own_if_gtN {x : Int32} : ifCond.holds .gt x = false ↔ ¬ 0 < x := by simp [ifCond.holds, Int32.not_lt]
theorem oGo.if_gt {x : Int32} {o : Int} (hd : decode bytes pc = .ok (.ifCond .gt o, 3)) (hp : pc + 3 = pc1) (ho : (pc : Int) + o = (pc2 : Int)) (gy : 0 < x → oGo l Z a0 EL wd p e s m args below meth c R own bytes mx rt nm Q O D h k n pc2 Ls st) (gn : ¬ 0 < x → oGo l Z a0 EL wd p e s m args below meth c R own bytes mx rt nm Q O D h k n pc1 Ls st) : oGo l Z a0 EL wd p e s m args below meth c R own bytes mx rt nm Q O D h k n pc Ls (.int x :: st) := by
  subst hp
  by_cases q : 0 < x
  · exact oGo.pure (fun T hA hb hx t hr => XS.ifYes hA hx rfl (pc0 := pc) (pc' := pc2) rfl (by rw [hb]; exact hd) rfl (own_if_gt.2 q) (by omega) (by omega) hr) (gy q)
  · exact oGo.pure (fun T hA hb hx t hr => XS.ifNo hA hx rfl (by rw [hb]; exact hd) rfl (own_if_gtN.2 q) hr) (gn q)
theorem own_if_le {x : Int32} : ifCond.holds .le x = true ↔ ¬ 0 < x := by simp [ifCond.holds, Int32.not_lt]
theorem own_if_leN {x : Int32} : ifCond.holds .le x = false ↔ 0 < x := by simp [ifCond.holds, Int32.not_lt]
theorem oGo.if_le {x : Int32} {o : Int} (hd : decode bytes pc = .ok (.ifCond .le o, 3)) (hp : pc + 3 = pc1) (ho : (pc : Int) + o = (pc2 : Int)) (gy : ¬ 0 < x → oGo l Z a0 EL wd p e s m args below meth c R own bytes mx rt nm Q O D h k n pc2 Ls st) (gn : 0 < x → oGo l Z a0 EL wd p e s m args below meth c R own bytes mx rt nm Q O D h k n pc1 Ls st) : oGo l Z a0 EL wd p e s m args below meth c R own bytes mx rt nm Q O D h k n pc Ls (.int x :: st) := by
  subst hp
  by_cases q : 0 < x
  · exact oGo.pure (fun T hA hb hx t hr => XS.ifNo hA hx rfl (by rw [hb]; exact hd) rfl (own_if_leN.2 q) hr) (gn q)
  · exact oGo.pure (fun T hA hb hx t hr => XS.ifYes hA hx rfl (pc0 := pc) (pc' := pc2) rfl (by rw [hb]; exact hd) rfl (own_if_le.2 q) (by omega) (by omega) hr) (gy q)
theorem oGo.ifnull_y {o : Int} {b : Addr} (hd : decode bytes pc = .ok (.ifnull o, 3)) (ho : (pc : Int) + o = (pc2 : Int)) (g : oGo l Z a0 EL wd p e s m args below meth c R own bytes mx rt nm Q O D h k n pc2 Ls st) : oGo l Z a0 EL wd p e s m args below meth c R own bytes mx rt nm Q O D h k n pc Ls (.null :: st) :=
  oGo.pure (fun T hA hb hx t hr => XS.ifnullYes hA hx rfl (pc0 := pc) (pc' := pc2) rfl (by rw [hb]; exact hd) rfl (by omega) (by omega) hr) g
theorem oGo.ifnull_n {o : Int} {b : Addr} (hd : decode bytes pc = .ok (.ifnull o, 3)) (hp : pc + 3 = pc1) (g : oGo l Z a0 EL wd p e s m args below meth c R own bytes mx rt nm Q O D h k n pc1 Ls st) : oGo l Z a0 EL wd p e s m args below meth c R own bytes mx rt nm Q O D h k n pc Ls (.ref b :: st) := by
  subst hp; exact oGo.pure (fun T hA hb hx t hr => XS.ifnullNo hA hx rfl (by rw [hb]; exact hd) rfl hr) g
theorem oGo.ifnonnull_y {o : Int} {b : Addr} (hd : decode bytes pc = .ok (.ifnonnull o, 3)) (ho : (pc : Int) + o = (pc2 : Int)) (g : oGo l Z a0 EL wd p e s m args below meth c R own bytes mx rt nm Q O D h k n pc2 Ls st) : oGo l Z a0 EL wd p e s m args below meth c R own bytes mx rt nm Q O D h k n pc Ls (.ref b :: st) :=
  oGo.pure (fun T hA hb hx t hr => XT.ifnonnullYes hA hx rfl (pc0 := pc) (pc' := pc2) rfl (by rw [hb]; exact hd) rfl (by omega) (by omega) hr) g
theorem oGo.ifnonnull_n {o : Int} {b : Addr} (hd : decode bytes pc = .ok (.ifnonnull o, 3)) (hp : pc + 3 = pc1) (g : oGo l Z a0 EL wd p e s m args below meth c R own bytes mx rt nm Q O D h k n pc1 Ls st) : oGo l Z a0 EL wd p e s m args below meth c R own bytes mx rt nm Q O D h k n pc Ls (.null :: st) := by
  subst hp; exact oGo.pure (fun T hA hb hx t hr => XT.ifnonnullNo hA hx rfl (by rw [hb]; exact hd) rfl hr) g
theorem oGo.acmp_y {cd : ClassFile.ACond} {v w : Value} {o : Int} (hd : decode bytes pc = .ok (.if_acmp cd o, 3)) (ho : (pc : Int) + o = (pc2 : Int)) (hv : v.isRef = true) (hw : w.isRef = true) (hq : XT.acmp cd v w = true) (g : oGo l Z a0 EL wd p e s m args below meth c R own bytes mx rt nm Q O D h k n pc2 Ls st) : oGo l Z a0 EL wd p e s m args below meth c R own bytes mx rt nm Q O D h k n pc Ls (w :: v :: st) :=
  oGo.pure (fun T hA hb hx t hr => XT.acmpYes hA hx rfl (pc0 := pc) (pc' := pc2) rfl (by rw [hb]; exact hd) rfl hv hw hq (by omega) (by omega) hr) g
theorem oGo.acmp_n {cd : ClassFile.ACond} {v w : Value} {o : Int} (hd : decode bytes pc = .ok (.if_acmp cd o, 3)) (hp : pc + 3 = pc1) (hv : v.isRef = true) (hw : w.isRef = true) (hq : XT.acmp cd v w = false) (g : oGo l Z a0 EL wd p e s m args below meth c R own bytes mx rt nm Q O D h k n pc1 Ls st) : oGo l Z a0 EL wd p e s m args below meth c R own bytes mx rt nm Q O D h k n pc Ls (w :: v :: st) := by
  subst hp; exact oGo.pure (fun T hA hb hx t hr => XT.acmpNo hA hx rfl (by rw [hb]; exact hd) rfl hv hw hq hr) g
/-- steps that may warm the tables -/
theorem oGo.move (H : ∀ (T : State) (locs : List Loc) (vm0 : Vm), Stand p l e R (s.setVm vm0) m args below meth c T locs k n → T.heap = h → Z.Warmed39 vm0 → vm0.findClass own = some m.cls → c.code = bytes → p.tables.exec = Jvm.exec → meth.name = nm → c.maxLocals = mx → ∃ T', Stand p l e R (s.setVm vm0) m args below meth c T' locs k n ∧ T'.heap = h ∧ ∀ t, Steps p.tables e below (T'.setTop (mkF m pc' Ls' st')) t → Steps p.tables e below (T.setTop (mkF m pc Ls st)) t)
    (g : oGo l Z a0 EL wd p e s m args below meth c R own bytes mx rt nm Q O D h k n pc' Ls' st') : oGo l Z a0 EL wd p e s m args below meth c R own bytes mx rt nm Q O D h k n pc Ls st := by
  intro T locs vm0 k0 I
  obtain ⟨⟨hx, hb, hm, hr, hl, hn, hE⟩, hT, hO, hF, X, hS, hk, hZ, hown, hC, hwd, hD⟩ := I
  obtain ⟨T', X', hT', hst⟩ := H T locs vm0 X hT hZ hown hb hx hn hm
  obtain ⟨V, v, L, hs, r⟩ := g T' locs vm0 k0 ⟨⟨hx, hb, hm, hr, hl, hn, hE⟩, hT', hO, hF, X', hS, hk, hZ, hown, hC, hwd, hD⟩
  exact ⟨V, v, L, hst V hs, r⟩
/-- steps that make a cell -/
theorem oGo.grow {P : Heap → Prop} {D' : List Addr} {k' n' : Nat} (H : ∀ (T : State) (locs : List Loc) (vm0 : Vm), Stand p l e R (s.setVm vm0) m args below meth c T locs k n → T.heap = h → Z.Warmed39 vm0 → vm0.findClass own = some m.cls → c.code = bytes → p.tables.exec = Jvm.exec → meth.name = nm → c.maxLocals = mx → ∃ T' h', Stand p l e R (s.setVm vm0) m args below meth c T' locs k' n' ∧ T'.heap = h' ∧ Ext h h' ∧ P h' ∧ ∀ t, Steps p.tables e below (T'.setTop (mkF m pc' Ls' st')) t → Steps p.tables e below (T.setTop (mkF m pc Ls st)) t)
    (hD : ∀ h', P h' → ∀ x ∈ D', x ∈ D ∨ (h.size ≤ x ∧ x < h'.size)) (g : ∀ h', Ext h h' → P h' → oGo l Z a0 EL wd p e s m args below meth c R own bytes mx rt nm Q O D' h' k' n' pc' Ls' st') : oGo l Z a0 EL wd p e s m args below meth c R own bytes mx rt nm Q O D h k n pc Ls st := by
  intro T locs vm0 k0 I
  obtain ⟨⟨hx, hb, hm, hr, hl, hn, hE⟩, hT, hO, hF, X, hS, hk, hZ, hown, hC, hwd, hDk⟩ := I
  obtain ⟨T', h', X', hT', hEx, hP, hst⟩ := H T locs vm0 X hT hZ hown hb hx hn hm
  have hD2 : oDok Z EL vm0 h' D' := fun x hx' => by
    rcases hD h' hP x hx' with q | ⟨q1, q2⟩
    · exact oDok.ext hEx hC.1 hDk x q
    · exact ⟨Nat.le_trans hO.1 q1, q2, (Safe.new q1).ext hEx hC.1⟩
  obtain ⟨V, v, L, hs, r⟩ := g h' hEx hP T' locs vm0 k0 ⟨⟨hx, hb, hm, hr, hl, hn, hE⟩, hT', ext_trans hO hEx, hF, X', hS, Nat.le_trans hk hEx.1, hZ, hown, hC.trans (CHr.ext hEx hC.1), hwd, hD2⟩
  exact ⟨V, v, L, hst V hs, r⟩
/-- a store into one slot -/
theorem oGo.write {a : Addr} {sl : Nat} {w : Value} (H : ∀ (T : State) (locs : List Loc) (vm0 : Vm), Stand p l e R (s.setVm vm0) m args below meth c T locs k n → T.heap = h → Z.Warmed39 vm0 → vm0.findClass own = some m.cls → c.code = bytes → p.tables.exec = Jvm.exec → meth.name = nm → c.maxLocals = mx → ∃ T' h', Stand p l e R (s.setVm vm0) m args below meth c T' (locs ++ [⟨a, sl⟩]) k n ∧ T'.heap = h' ∧ Wr h h' a sl w ∧ ∀ t, Steps p.tables e below (T'.setTop (mkF m pc' Ls' st')) t → Steps p.tables e below (T.setTop (mkF m pc Ls st)) t)
    (ha : a ∈ D) (g : ∀ h', Wr h h' a sl w → h'.size = h.size → oGo l Z a0 EL wd p e s m args below meth c R own bytes mx rt nm Q O D h' k n pc' Ls' st') : oGo l Z a0 EL wd p e s m args below meth c R own bytes mx rt nm Q O D h k n pc Ls st := by
  intro T locs vm0 k0 I
  obtain ⟨⟨hx, hb, hm, hr, hl, hn, hE⟩, hT, hO, hF, X, hS, hk, hZ, hown, hC, hwd, hDk⟩ := I
  obtain ⟨T', h', X', hT', W, hst⟩ := H T locs vm0 X hT hZ hown hb hx hn hm
  obtain ⟨q1, q2, q3⟩ := hDk a ha
  obtain ⟨V, v, L, hs, r⟩ := g h' W W.size T' _ vm0 k0 ⟨⟨hx, hb, hm, hr, hl, hn, hE⟩, hT', ext_wr hO W q1, Fr.snoc X' hF q1, X', hS, by rw [W.size]; exact hk, hZ, hown, hC.trans (CHr.wr W q3 hC.1), hwd, hDk.wr W q3 hC.1⟩
  exact ⟨V, v, L, hst V hs, r⟩
/-- a step that writes into known cells (arraycopy) -/
theorem oGo.writes {ws : List Addr} {P : Heap → Prop} (H : ∀ (T : State) (locs : List Loc) (vm0 : Vm), Stand p l e R (s.setVm vm0) m args below meth c T locs k n → T.heap = h → Z.Warmed39 vm0 → vm0.findClass own = some m.cls → c.code = bytes → p.tables.exec = Jvm.exec → meth.name = nm → c.maxLocals = mx → Fr Z.heap.size locs → (∀ x ∈ D, Z.heap.size ≤ x) → ∃ T' h' L', Stand p l e R (s.setVm vm0) m args below meth c T' L' k n ∧ T'.heap = h' ∧ Fr Z.heap.size L' ∧ Keep h h' ws ∧ P h' ∧ ∀ t, Steps p.tables e below (T'.setTop (mkF m pc' Ls' st')) t → Steps p.tables e below (T.setTop (mkF m pc Ls st)) t)
    (ha : ∀ x ∈ ws, x ∈ D) (g : ∀ h', Keep h h' ws → P h' → oGo l Z a0 EL wd p e s m args below meth c R own bytes mx rt nm Q O D h' k n pc' Ls' st') : oGo l Z a0 EL wd p e s m args below meth c R own bytes mx rt nm Q O D h k n pc Ls st := by
  intro T locs vm0 k0 I
  obtain ⟨⟨hx, hb, hm, hr, hl, hn, hE⟩, hT, hO, hF, X, hS, hk, hZ, hown, hC, hwd, hDk⟩ := I
  obtain ⟨T', h', L', X', hT', hF', K, hP, hst⟩ := H T locs vm0 X hT hZ hown hb hx hn hm hF (fun x q => (hDk x q).1)
  have hsafe : ∀ x ∈ ws, Safe Z EL vm0 h x := fun x q => (hDk x (ha x q)).2.2
  have hO' : Ext Z.heap h' := (Old.keep (Z := Z) (n0 := Z.heap.size) ⟨rfl, hO⟩ K fun x q => (hDk x (ha x q)).1).2
  obtain ⟨V, v, L, hs, r⟩ := g h' K hP T' L' vm0 k0 ⟨⟨hx, hb, hm, hr, hl, hn, hE⟩, hT', hO', hF', X', hS, Nat.le_trans hk K.1, hZ, hown, hC.trans (CHr.keep K hsafe hC.1), hwd, hDk.chr (CHr.keep K hsafe hC.1)⟩
  exact ⟨V, v, L, hst V hs, r⟩
/-- what stood at the start stands still -/
theorem oGo.old (g : Ext Z.heap h → Z.heap.size ≤ h.size → oGo l Z a0 EL wd p e s m args below meth c R own bytes mx rt nm Q O D h k n pc Ls st) : oGo l Z a0 EL wd p e s m args below meth c R own bytes mx rt nm Q O D h k n pc Ls st := fun T locs vm0 k0 I => g I.2.2.1 I.2.2.1.1 T locs vm0 k0 I
/-- steps that leave the state -/
theorem oGo.read (H : ∀ (T : State) (locs : List Loc) (vm0 : Vm), Stand p l e R (s.setVm vm0) m args below meth c T locs k n → T.heap = h → Z.Warmed39 vm0 → vm0.findClass own = some m.cls → c.code = bytes → p.tables.exec = Jvm.exec → meth.name = nm → c.maxLocals = mx → ∀ t, Steps p.tables e below (T.setTop (mkF m pc' Ls' st')) t → Steps p.tables e below (T.setTop (mkF m pc Ls st)) t)
    (g : oGo l Z a0 EL wd p e s m args below meth c R own bytes mx rt nm Q O D h k n pc' Ls' st') : oGo l Z a0 EL wd p e s m args below meth c R own bytes mx rt nm Q O D h k n pc Ls st := oGo.move (fun T locs vm0 X hT hZ hown hb hx hn hm => ⟨T, X, hT, H T locs vm0 X hT hZ hown hb hx hn hm⟩) g
theorem oGo.ldc_int {idx : Nat} {v : Int32} (hd : decode bytes pc = .ok (.ldc idx, 2)) (hp : pc + 2 = pc') (w : (Cond.constant own idx v).before a0 Z = true) (g : oGo l Z a0 EL wd p e s m args below meth c R own bytes mx rt nm Q O D h k n pc' Ls (.int v :: st)) : oGo l Z a0 EL wd p e s m args below meth c R own bytes mx rt nm Q O D h k n pc Ls st := by
  subst hp; exact oGo.read (fun T locs vm0 X hT hZ hown hb hx hn hm => X.ldcInt hx hown (mvT (s := s.setVm vm0) hZ w) (g := mkF m pc Ls st) rfl (by rw [hb]; exact hd)) g
theorem oGo.ldc2_long {idx : Nat} {v : Int64} (hd : decode bytes pc = .ok (.ldc2_w idx, 3)) (hp : pc + 3 = pc') (w : (Cond.constantLong own idx v).before a0 Z = true) (g : oGo l Z a0 EL wd p e s m args below meth c R own bytes mx rt nm Q O D h k n pc' Ls (.long v :: st)) : oGo l Z a0 EL wd p e s m args below meth c R own bytes mx rt nm Q O D h k n pc Ls st := by
  subst hp; exact oGo.read (fun T locs vm0 X hT hZ hown hb hx hn hm => X.ldc2Long hx hown (mvT (s := s.setVm vm0) hZ w) (g := mkF m pc Ls st) rfl (by rw [hb]; exact hd)) g
theorem oGo.getfield {idx : Nat} {a : Addr} {R0 Ow f d : String} {v : Value} (hd : decode bytes pc = .ok (.getfield idx, 3)) (hp : pc + 3 = pc') (w : (Cond.fieldLink own idx R0 f d).before a0 Z = true) (via : Via Z R0 Ow f d) (F : Fld Z h a Ow f d v)
    (g : oGo l Z a0 EL wd p e s m args below meth c R own bytes mx rt nm Q O D h k n pc' Ls (v :: st)) : oGo l Z a0 EL wd p e s m args below meth c R own bytes mx rt nm Q O D h k n pc Ls (.ref a :: st) := by
  subst hp; exact oGo.move (fun T locs vm0 X hT hZ hown hb hx hn hm => getF (s := s.setVm vm0) X hx hZ hown (host := "") (Or.inl w) via hT F (g := mkF m pc Ls (.ref a :: st)) rfl rfl (by rw [hb]; exact hd)) g
theorem oGo.getstatic {idx : Nat} {R0 Ow f d : String} {v : Value} (hd : decode bytes pc = .ok (.getstatic idx, 3)) (hp : pc + 3 = pc') (w : (Cond.fieldLink own idx R0 f d).before a0 Z = true) (via : Via Z R0 Ow f d) (F : Sta Z Z.heap Ow f d v)
    (g : oGo l Z a0 EL wd p e s m args below meth c R own bytes mx rt nm Q O D h k n pc' Ls (v :: st)) : oGo l Z a0 EL wd p e s m args below meth c R own bytes mx rt nm Q O D h k n pc Ls st := by
  subst hp
  intro T locs vm0 k0 I
  have hO : Ext Z.heap h := I.2.2.1
  exact oGo.move (fun T locs vm0 X hT hZ hown hb hx hn hm => getS (s := s.setVm vm0) (host := "") X hx hZ hown w via hT (F.ext hO) (g := mkF m pc Ls st) rfl (by rw [hb]; exact hd)) g T locs vm0 k0 I
theorem oGo.putfield {idx kk : Nat} {a : Addr} {R0 Ow f d Cn : String} {v old : Value} {ty : FieldType} (hd : decode bytes pc = .ok (.putfield idx, 3)) (hp : pc + 3 = pc') (w : (Cond.fieldLink own idx R0 f d).before a0 Z = true) (via : Via Z R0 Ow f d) (F : Fld Z h a Ow f d old) (E : Exa Z h a Cn)
    (L : (Cond.lays Cn Ow f d).before a0 Z = true ∨ ((Cond.laysFinal Cn Ow f d).before a0 Z = true ∧ own = Ow ∧ nm = "<init>")) (wi : (Cond.instantiable Cn kk).before a0 Z = true) (hty : parseFieldDescriptor d = some ty) (hnv : narrow ty v = v) (hf : fits ty v = true) (ha : a ∈ D)
    (g : ∀ h', Wr h h' a (Jvm.RoadKit.slotOf Z Ow f d) v → h'.size = h.size → oGo l Z a0 EL wd p e s m args below meth c R own bytes mx rt nm Q O D h' k n pc' Ls st) : oGo l Z a0 EL wd p e s m args below meth c R own bytes mx rt nm Q O D h k n pc Ls (v :: .ref a :: st) := by
  subst hp; exact oGo.write (fun T locs vm0 X hT hZ hown hb hx hn hm => putF (s := s.setVm vm0) X hx hZ hown (host := "") (Or.inl w) via hT F E (L.imp id fun q => ⟨q.1, q.2.1, hn.trans q.2.2⟩) wi hty hnv hf (g := mkF m pc Ls (v :: .ref a :: st)) rfl rfl (by rw [hb]; exact hd)) ha g
theorem oGo.new {idx sz : Nat} {Cn : String} {k' n' : Nat} (hd : decode bytes pc = .ok (.new idx, 3)) (hp : pc + 3 = pc') (w : (Cond.classLink own idx Cn).before a0 Z = true) (wi : (Cond.instantiable Cn sz).before a0 Z = true) (wz : (Cond.initialized Cn).before a0 Z = true) (hk : k + 1 = k') (hn : n + sz = n') (hc : k' ≤ R.cells) (hl : n' ≤ R.slots)
    (g : ∀ (h' : Heap) (a : Nat), a = h.size → a < h'.size → Ext h h' → Exa Z h' a Cn → (∀ {Ow f d : String} {ty : FieldType}, Laid Z a0 Cn Ow f d → parseFieldDescriptor d = some ty → Fld Z h' a Ow f d (defaultValue ty)) → oGo l Z a0 EL wd p e s m args below meth c R own bytes mx rt nm Q O (a :: D) h' k' n' pc' Ls (.ref a :: st)) : oGo l Z a0 EL wd p e s m args below meth c R own bytes mx rt nm Q O D h k n pc Ls st := by
  subst hp hk hn
  refine oGo.grow (P := fun h' => Exa Z h' h.size Cn ∧ ∀ {Ow f d : String} {ty : FieldType}, Laid Z a0 Cn Ow f d → parseFieldDescriptor d = some ty → Fld Z h' h.size Ow f d (defaultValue ty)) (D' := h.size :: D) (fun T locs vm0 X hT hZ hown hb hx hn hm => ?_) (fun h' q x hx => ?_) (fun h' E q => g h' _ rfl q.1.lt E q.1 q.2)
  · obtain ⟨T', h', X', e', E, A, F, -, hst⟩ := newO (s := s.setVm vm0) X hx hZ hown w wi wz hT (g := mkF m pc Ls st) rfl (by rw [hb]; exact hd) hc hl
    exact ⟨T', h', X', e', E, ⟨A, F⟩, hst⟩
  · rcases List.mem_cons.mp hx with rfl | hx
    · exact Or.inr ⟨Nat.le_refl _, q.1.lt⟩
    · exact Or.inl hx
theorem oGo.objinit {idx : Nat} {a : Addr} (hd : decode bytes pc = .ok (.invokespecial idx, 3)) (hp : pc + 3 = pc') (w1 : (Cond.methodLink own idx Lib.objectInit).before a0 Z = true) (w2 : (Cond.instanceMethod Lib.objectInit).before a0 Z = true) (w3 : (Cond.code Lib.objectInit ⟨#[0xb1]⟩ 1 none).before a0 Z = true)
    (hsz : Ls.size = mx) (hf : 1 ≤ R.frames) (hl : (st.map fun v => v.category).sum + 12 ≤ R.locals) (g : oGo l Z a0 EL wd p e s m args below meth c R own bytes mx rt nm Q O D h k n pc' Ls st) : oGo l Z a0 EL wd p e s m args below meth c R own bytes mx rt nm Q O D h k n pc Ls (.ref a :: st) := by
  subst hp; exact oGo.move (fun T locs vm0 X hT hZ hown hb hx hn hm => initO (s := s.setVm vm0) X hx hZ hown w1 w2 w3 hT (g := mkF m pc Ls (.ref a :: st)) rfl (hsz.trans hm.symm) rfl (by rw [hb]; exact hd) hf (W := (st.map fun v => v.category).sum) (by show 2 * 0 + _ ≤ _; omega) hl) g
/-! ### arrays -/
def oArr (Z : State) (h : Heap) (a : Addr) (ty : FieldType) (vs : List Value) : Prop := ∃ cl : Cell, Arr Z h a cl ty ∧ cl.slots.toList = vs ∧ vs.length < 2147483648 ∧ ∀ v ∈ vs, fits ty v = true
theorem oArr.lt {a : Addr} {ty : FieldType} {vs : List Value} (A : oArr Z h a ty vs) : a < h.size := A.elim fun _ q => q.1.lt
theorem oArr.ext {a : Addr} {ty : FieldType} {vs : List Value} {h' : Heap} (E : Ext h h') (A : oArr Z h a ty vs) : oArr Z h' a ty vs := A.elim fun cl q => ⟨cl, q.1.ext E, q.2⟩
theorem oArr.other {a b : Addr} {ty : FieldType} {vs : List Value} {h' : Heap} {sl : Nat} {w : Value} (W : Wr h h' b sl w) (A : oArr Z h a ty vs) (q : a ≠ b) : oArr Z h' a ty vs := A.elim fun cl r => ⟨cl, r.1.other W q, r.2⟩
theorem oArr.keep {a : Addr} {ty : FieldType} {vs : List Value} {h' : Heap} {ws : List Addr} (A : oArr Z h a ty vs) (K : Keep h h' ws) (q : a ∉ ws) : oArr Z h' a ty vs := A.elim fun cl r => ⟨cl, ⟨K.2.1 a cl r.1.1 q, r.1.2⟩, r.2⟩
theorem oArr.set {a : Addr} {ty : FieldType} {vs : List Value} {h' : Heap} {i : Nat} {w : Value} (W : Wr h h' a i w) (A : oArr Z h a ty vs) (hf : fits ty w = true) : oArr Z h' a ty (vs.set i w) := by
  obtain ⟨cl, h1, rfl, h3, h4⟩ := A
  refine ⟨cl.setSlot i w, h1.same W, by simp [Cell.setSlot], by simpa using h3, fun v hv => ?_⟩
  rcases List.mem_or_eq_of_mem_set hv with q | q
  · exact h4 v q
  · exact q ▸ hf
theorem own_n32 {i : Nat} (h : i < 2147483648) : (Int32.ofNat i).toNatClampNeg = i := by
  have q : i.toInt32.toInt = i := len_toInt (by omega)
  show i.toInt32.toNatClampNeg = i
  simp only [Int32.toNatClampNeg, q]; omega
theorem own_i32 {i : Nat} (h : i < 2147483648) : (Int32.ofNat i).toInt = i := len_toInt (by omega)
theorem own_nn {i : Nat} (h : i < 2147483648) : ¬ Int32.ofNat i < 0 := by
  rw [Int32.lt_iff_toInt_lt, own_i32 h]; simp
theorem own_inb {c : Cell} {vs : List Value} {i : Nat} (e : c.slots.toList = vs) (hb : vs.length < 2147483648) (hi : i < vs.length) : ¬ (Int32.ofNat i < 0 ∨ c.slots.size ≤ (Int32.ofNat i).toNatClampNeg) := by
  rw [own_n32 (by omega)]
  have : c.slots.size = vs.length := by rw [← e]; simp
  rintro (q | q)
  · exact own_nn (by omega) q
  · omega
theorem oArr.arv {a : Addr} {ty : FieldType} {vs : List Value} (A : oArr Z h a ty vs) (d : Value) : ∃ kk, Arv Z h a kk ty (Int32.ofNat vs.length) vs d := by
  obtain ⟨cl, h1, rfl, h3, h4⟩ := A
  refine ⟨cl.cls, cl, h1, rfl, by rw [own_n32 h3]; simp, own_nn h3, fun i hi => by simp [List.getD_eq_getElem?_getD, hi], fun i hi => h4 _ ?_⟩
  simp [List.getD_eq_getElem?_getD, hi]
theorem oArr.of_arv {a : Addr} {ty : FieldType} {vs : List Value} {kk : ClassId} {z : Int32} {d : Value} (A : Arv Z h a kk ty z vs d) (hl : z.toNatClampNeg = vs.length) : oArr Z h a ty vs := by
  obtain ⟨cl, h1, h2, h3, h4, h5, h6⟩ := A
  have hz := Int32.toInt_lt z
  have e : cl.slots.toList = vs := by
    apply List.ext_getElem?
    intro i
    by_cases q : i < cl.slots.size
    · have := h5 i q
      rw [← Array.getElem?_toList] at this
      rw [this]
      have q' : i < vs.length := by omega
      simp [List.getD_eq_getElem?_getD, q']
    · rw [List.getElem?_eq_none (by simpa using q), List.getElem?_eq_none (by omega)]
  refine ⟨cl, h1, e, by rw [← hl]; simp only [Int32.toNatClampNeg]; omega, fun v hv => ?_⟩
  obtain ⟨i, hi, rfl⟩ := List.getElem_of_mem hv
  have := h6 i (by omega)
  rwa [List.getD_eq_getElem?_getD, List.getElem?_eq_getElem hi] at this
theorem oGo.arraylength {a : Addr} {ty : FieldType} {vs : List Value} {z : Int32} (hd : decode bytes pc = .ok (.arraylength, 1)) (hp : pc + 1 = pc') (A : oArr Z h a ty vs) (hv : Int32.ofNat vs.length = z) (g : oGo l Z a0 EL wd p e s m args below meth c R own bytes mx rt nm Q O D h k n pc' Ls (.int z :: st)) : oGo l Z a0 EL wd p e s m args below meth c R own bytes mx rt nm Q O D h k n pc Ls (.ref a :: st) := by
  subst hp hv
  obtain ⟨cl, h1, rfl, h3, h4⟩ := A
  exact oGo.read (fun T locs vm0 X hT hZ hown hb hx hn hm t hr => X.arraylength hx (by rw [hT]; exact h1.1) (State.isArrayOf_alike (T := s.setVm vm0) hZ.alike h1.2.1) (g := mkF m pc Ls (.ref a :: st)) rfl rfl (by rw [hb]; exact hd) t (by simpa using hr)) g
theorem oGo.caload {a : Addr} {vs : List Value} {j : Int32} {i : Nat} {v : Value} (hd : decode bytes pc = .ok (.caload, 1)) (hp : pc + 1 = pc') (A : oArr Z h a .char vs) (hj : j = Int32.ofNat i) (hi : vs[i]? = some v) (g : oGo l Z a0 EL wd p e s m args below meth c R own bytes mx rt nm Q O D h k n pc' Ls (v :: st)) : oGo l Z a0 EL wd p e s m args below meth c R own bytes mx rt nm Q O D h k n pc Ls (.int j :: .ref a :: st) := by
  subst hp hj
  obtain ⟨cl, h1, rfl, h3, h4⟩ := A
  have hl : i < cl.slots.toList.length := (List.getElem?_eq_some_iff.mp hi).1
  exact oGo.read (fun T locs vm0 X hT hZ hown hb hx hn hm t hr => X.caload hx (by rw [hT]; exact h1.1) (State.isArrayOf_alike (T := s.setVm vm0) hZ.alike h1.2.1) h1.2.2 (own_inb rfl h3 hl) (by rw [own_n32 (by omega), ← Array.getElem?_toList]; exact hi) (g := mkF m pc Ls (.int (Int32.ofNat i) :: .ref a :: st)) rfl rfl (by rw [hb]; exact hd) t hr) g
theorem oGo.baload {a : Addr} {vs : List Value} {j : Int32} {i : Nat} {v : Value} (hd : decode bytes pc = .ok (.baload, 1)) (hp : pc + 1 = pc') (A : oArr Z h a .byte vs) (hj : j = Int32.ofNat i) (hi : vs[i]? = some v) (g : oGo l Z a0 EL wd p e s m args below meth c R own bytes mx rt nm Q O D h k n pc' Ls (v :: st)) : oGo l Z a0 EL wd p e s m args below meth c R own bytes mx rt nm Q O D h k n pc Ls (.int j :: .ref a :: st) := by
  subst hp hj
  obtain ⟨cl, h1, rfl, h3, h4⟩ := A
  have hl : i < cl.slots.toList.length := (List.getElem?_eq_some_iff.mp hi).1
  exact oGo.read (fun T locs vm0 X hT hZ hown hb hx hn hm t hr => X.baloadBytes hx (by rw [hT]; exact h1.1) (State.isArrayOf_alike (T := s.setVm vm0) hZ.alike h1.2.1) h1.2.2 (own_inb rfl h3 hl) (by rw [own_n32 (by omega), ← Array.getElem?_toList]; exact hi) (g := mkF m pc Ls (.int (Int32.ofNat i) :: .ref a :: st)) rfl rfl (by rw [hb]; exact hd) t hr) g
theorem oGo.laload {a : Addr} {vs : List Value} {j : Int32} {i : Nat} {v : Value} (hd : decode bytes pc = .ok (.laload, 1)) (hp : pc + 1 = pc') (A : oArr Z h a .long vs) (hj : j = Int32.ofNat i) (hi : vs[i]? = some v) (g : oGo l Z a0 EL wd p e s m args below meth c R own bytes mx rt nm Q O D h k n pc' Ls (v :: st)) : oGo l Z a0 EL wd p e s m args below meth c R own bytes mx rt nm Q O D h k n pc Ls (.int j :: .ref a :: st) := by
  subst hp hj
  obtain ⟨cl, h1, rfl, h3, h4⟩ := A
  have hl : i < cl.slots.toList.length := (List.getElem?_eq_some_iff.mp hi).1
  exact oGo.read (fun T locs vm0 X hT hZ hown hb hx hn hm t hr => X.laload hx (by rw [hT]; exact h1.1) (State.isArrayOf_alike (T := s.setVm vm0) hZ.alike h1.2.1) h1.2.2 (own_inb rfl h3 hl) (by rw [own_n32 (by omega), ← Array.getElem?_toList]; exact hi) (g := mkF m pc Ls (.int (Int32.ofNat i) :: .ref a :: st)) rfl rfl (by rw [hb]; exact hd) t hr) g
theorem oGo.iaload {a : Addr} {vs : List Value} {j : Int32} {i : Nat} {v : Value} (hd : decode bytes pc = .ok (.iaload, 1)) (hp : pc + 1 = pc') (A : oArr Z h a .int vs) (hj : j = Int32.ofNat i) (hi : vs[i]? = some v) (g : oGo l Z a0 EL wd p e s m args below meth c R own bytes mx rt nm Q O D h k n pc' Ls (v :: st)) : oGo l Z a0 EL wd p e s m args below meth c R own bytes mx rt nm Q O D h k n pc Ls (.int j :: .ref a :: st) := by
  subst hp hj
  obtain ⟨cl, h1, rfl, h3, h4⟩ := A
  have hl : i < cl.slots.toList.length := (List.getElem?_eq_some_iff.mp hi).1
  exact oGo.read (fun T locs vm0 X hT hZ hown hb hx hn hm t hr => X.iaload hx (by rw [hT]; exact h1.1) (State.isArrayOf_alike (T := s.setVm vm0) hZ.alike h1.2.1) h1.2.2 (own_inb rfl h3 hl) (by rw [own_n32 (by omega), ← Array.getElem?_toList]; exact hi) (g := mkF m pc Ls (.int (Int32.ofNat i) :: .ref a :: st)) rfl rfl (by rw [hb]; exact hd) t hr) g
theorem oGo.aaload {a : Addr} {ty : FieldType} {vs : List Value} {j : Int32} {i : Nat} {v : Value} (hd : decode bytes pc = .ok (.aaload, 1)) (hp : pc + 1 = pc') (A : oArr Z h a ty vs) (ht : ty.isReference = true) (hj : j = Int32.ofNat i) (hi : vs[i]? = some v) (g : oGo l Z a0 EL wd p e s m args below meth c R own bytes mx rt nm Q O D h k n pc' Ls (v :: st)) : oGo l Z a0 EL wd p e s m args below meth c R own bytes mx rt nm Q O D h k n pc Ls (.int j :: .ref a :: st) := by
  subst hp hj
  obtain ⟨cl, h1, rfl, h3, h4⟩ := A
  have hl : i < cl.slots.toList.length := (List.getElem?_eq_some_iff.mp hi).1
  exact oGo.read (fun T locs vm0 X hT hZ hown hb hx hn hm t hr => X.aaload hx (by rw [hT]; exact h1.1) (State.isArrayOf_alike (T := s.setVm vm0) hZ.alike h1.2.1) ht h1.2.2 (own_inb rfl h3 hl) (by rw [own_n32 (by omega), ← Array.getElem?_toList]; exact hi) (g := mkF m pc Ls (.int (Int32.ofNat i) :: .ref a :: st)) rfl rfl (by rw [hb]; exact hd) t hr) g
theorem oGo.castore {a : Addr} {vs : List Value} {j : Int32} {i : Nat} {x w : Int32} (hd : decode bytes pc = .ok (.castore, 1)) (hp : pc + 1 = pc') (A : oArr Z h a .char vs) (hj : j = Int32.ofNat i) (hi : i < vs.length) (hw : nar .char x = w) (ha : a ∈ D) (g : ∀ h', Wr h h' a i (.int w) → h'.size = h.size → oArr Z h' a .char (vs.set i (.int w)) → oGo l Z a0 EL wd p e s m args below meth c R own bytes mx rt nm Q O D h' k n pc' Ls st) : oGo l Z a0 EL wd p e s m args below meth c R own bytes mx rt nm Q O D h k n pc Ls (.int x :: .int j :: .ref a :: st) := by
  subst hp hj hw
  have A0 := A
  obtain ⟨cl, h1, rfl, h3, h4⟩ := A
  refine oGo.write (fun T locs vm0 X hT hZ hown hb hx hn hm => ?_) ha (fun h' W hs => g h' W hs (A0.set W (fits_nar_char x)))
  have q := stC (s := s.setVm vm0) X hx hZ hT h1 (own_inb rfl h3 hi) (g := mkF m pc Ls (.int x :: .int (Int32.ofNat i) :: .ref a :: st)) rfl rfl (by rw [hb]; exact hd)
  rw [own_n32 (by omega)] at q
  exact q
theorem oGo.bastore {a : Addr} {vs : List Value} {j : Int32} {i : Nat} {x w : Int32} (hd : decode bytes pc = .ok (.bastore, 1)) (hp : pc + 1 = pc') (A : oArr Z h a .byte vs) (hj : j = Int32.ofNat i) (hi : i < vs.length) (hw : nar .byte x = w) (ha : a ∈ D) (g : ∀ h', Wr h h' a i (.int w) → h'.size = h.size → oArr Z h' a .byte (vs.set i (.int w)) → oGo l Z a0 EL wd p e s m args below meth c R own bytes mx rt nm Q O D h' k n pc' Ls st) : oGo l Z a0 EL wd p e s m args below meth c R own bytes mx rt nm Q O D h k n pc Ls (.int x :: .int j :: .ref a :: st) := by
  subst hp hj hw
  have A0 := A
  obtain ⟨cl, h1, rfl, h3, h4⟩ := A
  refine oGo.write (fun T locs vm0 X hT hZ hown hb hx hn hm => ?_) ha (fun h' W hs => g h' W hs (A0.set W (fits_nar_byte x)))
  have q := stB (s := s.setVm vm0) X hx hZ hT h1 (own_inb rfl h3 hi) (g := mkF m pc Ls (.int x :: .int (Int32.ofNat i) :: .ref a :: st)) rfl rfl (by rw [hb]; exact hd)
  rw [own_n32 (by omega)] at q
  exact q
theorem oGo.iastore {a : Addr} {vs : List Value} {j : Int32} {i : Nat} {x w : Int32} (hd : decode bytes pc = .ok (.iastore, 1)) (hp : pc + 1 = pc') (A : oArr Z h a .int vs) (hj : j = Int32.ofNat i) (hi : i < vs.length) (hw : x = w) (ha : a ∈ D) (g : ∀ h', Wr h h' a i (.int w) → h'.size = h.size → oArr Z h' a .int (vs.set i (.int w)) → oGo l Z a0 EL wd p e s m args below meth c R own bytes mx rt nm Q O D h' k n pc' Ls st) : oGo l Z a0 EL wd p e s m args below meth c R own bytes mx rt nm Q O D h k n pc Ls (.int x :: .int j :: .ref a :: st) := by
  subst hp hj hw
  have A0 := A
  obtain ⟨cl, h1, rfl, h3, h4⟩ := A
  refine oGo.write (fun T locs vm0 X hT hZ hown hb hx hn hm => ?_) ha (fun h' W hs => g h' W hs (A0.set W (rfl)))
  have q := stI (s := s.setVm vm0) X hx hZ hT h1 (own_inb rfl h3 hi) (g := mkF m pc Ls (.int x :: .int (Int32.ofNat i) :: .ref a :: st)) rfl rfl (by rw [hb]; exact hd)
  rw [own_n32 (by omega)] at q
  exact q
theorem oGo.lastore {a : Addr} {vs : List Value} {j : Int32} {i : Nat} {x w : Int64} (hd : decode bytes pc = .ok (.lastore, 1)) (hp : pc + 1 = pc') (A : oArr Z h a .long vs) (hj : j = Int32.ofNat i) (hi : i < vs.length) (hw : x = w) (ha : a ∈ D) (g : ∀ h', Wr h h' a i (.long w) → h'.size = h.size → oArr Z h' a .long (vs.set i (.long w)) → oGo l Z a0 EL wd p e s m args below meth c R own bytes mx rt nm Q O D h' k n pc' Ls st) : oGo l Z a0 EL wd p e s m args below meth c R own bytes mx rt nm Q O D h k n pc Ls (.long x :: .int j :: .ref a :: st) := by
  subst hp hj hw
  have A0 := A
  obtain ⟨cl, h1, rfl, h3, h4⟩ := A
  refine oGo.write (fun T locs vm0 X hT hZ hown hb hx hn hm => ?_) ha (fun h' W hs => g h' W hs (A0.set W (rfl)))
  have q := stJ (s := s.setVm vm0) X hx hZ hT h1 (own_inb rfl h3 hi) (g := mkF m pc Ls (.long x :: .int (Int32.ofNat i) :: .ref a :: st)) rfl rfl (by rw [hb]; exact hd)
  rw [own_n32 (by omega)] at q
  exact q
theorem oGo.newarray {aty : ArrayType} {z : Int32} {i : Nat} {k' n' : Nat} (hd : decode bytes pc = .ok (.newarray aty, 2)) (hp : pc + 2 = pc') (w : (Cond.arrayClass (newarray.typeOf aty)).before a0 Z = true) (hz : z = Int32.ofNat i) (cap : Nat) (hi : i ≤ cap) (hcap : cap * 8 ≤ 536870912) (hk : k + 1 = k') (hn : n + cap = n') (hc : k' ≤ R.cells) (hl : n' ≤ R.slots) (hfd : fits (newarray.typeOf aty) (defaultValue (newarray.typeOf aty)) = true)
    (g : ∀ (h' : Heap) (a : Nat), a = h.size → a < h'.size → Ext h h' → oArr Z h' a (newarray.typeOf aty) (List.replicate i (defaultValue (newarray.typeOf aty))) → oGo l Z a0 EL wd p e s m args below meth c R own bytes mx rt nm Q O (a :: D) h' k' n' pc' Ls (.ref a :: st)) : oGo l Z a0 EL wd p e s m args below meth c R own bytes mx rt nm Q O D h k n pc Ls (.int z :: st) := by
  subst hp hk hn hz
  have hb31 : i < 2147483648 := by omega
  refine oGo.grow (P := fun h' => oArr Z h' h.size (newarray.typeOf aty) (List.replicate i (defaultValue (newarray.typeOf aty)))) (D' := h.size :: D) (fun T locs vm0 X hT hZ hown hb hx hn hm => ?_) (fun h' q x hx => ?_) (fun h' E q => g h' _ rfl q.lt E q)
  · obtain ⟨T', h', cA, X', e', E, A, hst⟩ := newP (s := s.setVm vm0) X hx hZ w hT (g := mkF m pc Ls (.int (Int32.ofNat i) :: st)) rfl (by rw [hb]; exact hd) rfl (own_nn hb31) (cap := cap) (by rw [own_n32 hb31]; exact hi) hcap hc hl
    refine ⟨T', h', X', e', E, ⟨_, A, ?_, by simpa using hb31, fun v hv => ?_⟩, hst⟩
    · simp [newA, own_n32 hb31]
    · rw [(List.mem_replicate.mp hv).2]; exact hfd
  · rcases List.mem_cons.mp hx with rfl | hx
    · exact Or.inr ⟨Nat.le_refl _, q.lt⟩
    · exact Or.inl hx
/-! ### calls -/
theorem oCtr.back {y : MethodName} {b' : ByteArray} {mx' : Nat} {rt' : Option FieldType} {rm : Room} {len W : Nat} {as' : Array Value} {Q' : Option Value → Heap → Prop} {O' : Option Value → Heap → Addr → Prop} {D' : List Addr} {vm0 : Vm}
    (hM : oCtr [] l Z a0 EL wd y b' mx' rt' rm as' D' h Q' O') (hZ : Z.Warmed39 vm0) (wc : (Cond.code y b' mx' rt').before a0 Z = true) (wz : (Cond.initialized y.cls).before a0 Z = true) (hf : rm.frames + 1 ≤ R.frames) (hl : W + (mx' + 11) + rm.locals ≤ R.locals) (hEL : EW Z a0 EL) (hO : Ext Z.heap h) (H : CHv Z EL vm0 h) (hD : oDok Z EL vm0 h D') :
    BackS l R p e below (s.setVm vm0) args y len W (fun A a => a = as' ∧ A.U.heap = h ∧ A.cells + rm.cells ≤ R.cells ∧ A.slots + rm.slots ≤ R.slots)
      (fun A _ v B => ∃ L, (Q' v B.U.heap ∧ ∀ x, O' v B.U.heap x → Z.heap.size ≤ x ∧ x < B.U.heap.size ∧ Safe Z EL B.U.vm B.U.heap x) ∧ Fr Z.heap.size L ∧ Ext Z.heap B.U.heap ∧ B.locs = A.locs ++ L ∧ B.cells = A.cells + rm.cells ∧ B.slots = A.slots + rm.slots ∧ CHr Z EL vm0 h B.U.vm B.U.heap ∧ (wd ∨ A.U.WarmedH B.U.vm)) :=
  BackS.of_freeW (bytes := b') (maxL := mx') (ret := rt') (E := fun _ first o t L k n => k = rm.cells ∧ n = rm.slots ∧ (∃ v, o = .returned v ∧ Q' v t.heap ∧ ∀ x, O' v t.heap x → Z.heap.size ≤ x ∧ x < t.heap.size ∧ Safe Z EL t.vm t.heap x) ∧ Fr Z.heap.size L ∧ Ext Z.heap t.heap ∧ CHr Z EL first.vm first.heap t.vm t.heap ∧ (wd ∨ first.WarmedH t.vm)) hM hf hl
    (fun m meth c A a Y hp => have hU : Z.Warmed39 A.U.vm := wtrans (s := s.setVm vm0) hZ Y.warmed
      ⟨by show (Cond.and _ .tt).before a A.U = true; rw [Cond.before_and, mv hU wc]; rfl, mv hU wc, mv hU wz, hp.2.2.1, hp.2.2.2⟩)
    (fun m meth c A a g mk Y hp => ⟨hp.1, wtrans (s := s.setVm vm0) hZ Y.warmed, hp.2.1, hO, (CHv.at (T := A.U) Y hZ hEL H).1, hD.chr (CHv.at (T := A.U) Y hZ hEL H)⟩) (fun _ _ _ _ _ _ _ _ _ => trivial)
    (fun _ _ _ _ ⟨v, L, h1, h2, h3, h4, h5, h6, h7⟩ => ⟨L, _, _, h7, rfl, rfl, ⟨v, h1, h2⟩, h3, h4, h5, h6⟩)
    (fun m meth c A a g mk v t L k n Y hp _ _ ⟨e1, e2, ⟨v', e3, e4⟩, e5, e6, e7, e8⟩ => by
      cases e3; subst e1 e2
      refine ⟨L, e4, e5, e6, rfl, rfl, rfl, (CHv.at Y hZ hEL H).trans ?_, e8⟩
      rw [← hp.2.1]; exact e7)
theorem oGo.after {T : State} {locs : List Loc} {vm0 : Vm} {k0 : Nat} {rm : Room} {k' n' : Nat} {Q' : Option Value → Heap → Prop} {O' : Option Value → Heap → Addr → Prop} {rest : List Value} {as' : Array Value}
    (I : oInv l Z a0 EL wd p e s m args below meth c R own bytes mx rt nm D h k n T locs vm0 k0) (hk : k + rm.cells = k') (hn : n + rm.slots = n')
    (X : ∃ (v : Option Value) (vm₁ : Vm) (B : Pt), (s.setVm vm0).WarmedH vm₁ ∧ Stand p l e R ((s.setVm vm0).setVm B.U.vm) m args below meth c B.U B.locs B.cells B.slots ∧ (s.setVm vm0).Since B.U.vm B.U.heap.size ∧ T.heap.size ≤ B.U.heap.size ∧
      (fun (A : Pt) (_ : Array Value) (v : Option Value) (B : Pt) => ∃ L, (Q' v B.U.heap ∧ ∀ x, O' v B.U.heap x → Z.heap.size ≤ x ∧ x < B.U.heap.size ∧ Safe Z EL B.U.vm B.U.heap x) ∧ Fr Z.heap.size L ∧ Ext Z.heap B.U.heap ∧ B.locs = A.locs ++ L ∧ B.cells = A.cells + rm.cells ∧ B.slots = A.slots + rm.slots ∧ CHr Z EL vm0 h B.U.vm B.U.heap ∧ (wd ∨ A.U.WarmedH B.U.vm)) ⟨T.setVm vm₁, locs, k, n⟩ as' v B ∧
      Steps p.tables e below (T.setTop (mkF m pc Ls st)) (B.U.setTop (mkF m pc' Ls (v.toList ++ rest))))
    (g : ∀ v h', h.size ≤ h'.size → Q' v h' → ∃ D2 : List Addr, (∀ x ∈ D2, x ∈ D ∨ O' v h' x) ∧ oGo l Z a0 EL wd p e s m args below meth c R own bytes mx rt nm Q O D2 h' k' n' pc' Ls (v.toList ++ rest)) : oRes Z EL wd p e s below R Q O (T.setTop (mkF m pc Ls st)) := by
  subst hk hn
  obtain ⟨⟨hx, hb, hm, hr, hl, hn, hE⟩, hT, hO, hF, X0, hS, hk, hZ, hown, hC, hwd, hDk⟩ := I
  obtain ⟨v, vm₁, ⟨U, Lb, kb, nb⟩, hW1, XB, hSB, hsz, ⟨L, ⟨hq, hOq⟩, hFL, hOB, e1, e2, e3, hCB, hwB⟩, hst⟩ := X
  dsimp only [Pt.U, Pt.locs, Pt.cells, Pt.slots] at *
  subst e1 e2 e3
  rw [hT] at hsz
  obtain ⟨X', hS', hZ', hown'⟩ := rebS hS hk XB hSB hsz hZ hown
  have hwd' : wd ∨ s.WarmedH U.vm := by
    rcases hwd with q | q
    · exact Or.inl q
    · rcases hwB with r | r
      · exact Or.inl r
      · exact Or.inr (State.WarmedH.trans (t := s.setVm vm0) q (State.WarmedH.trans (s := s.setVm vm0) (t := T.setVm vm₁) hW1 r))
  obtain ⟨D2, hD2, g2⟩ := g v U.heap hsz hq
  have hDk2 : oDok Z EL U.vm U.heap D2 := fun x hx' => (hD2 x hx').elim (fun q => hDk.chr hCB x q) (fun q => hOq x q)
  obtain ⟨V, v', L', hs, r⟩ := g2 U (locs ++ L) U.vm U.heap.size ⟨⟨hx, hb, hm, hr, hl, hn, hE⟩, rfl, hOB, hF.app hFL, X', hS', Nat.le_refl _, hZ', hown', hC.trans hCB, hwd', hDk2⟩
  exact ⟨V, v', L', hst.trans hs, r⟩
theorem oGo.invokestatic {idx : Nat} {y : MethodName} {b' : ByteArray} {mx' : Nat} {rt' rs : Option FieldType} {ps : List FieldType} {rm : Room} {D' : List Addr} {Q' : Option Value → Heap → Prop} {O' : Option Value → Heap → Addr → Prop} {k' n' : Nat} {argsL rest : List Value}
    (hd : decode bytes pc = .ok (.invokestatic idx, 3)) (hp : pc + 3 = pc') (w1 : (Cond.methodLink own idx y).before a0 Z = true) (w2 : (Cond.static y).before a0 Z = true) (w3 : (Cond.initialized y.cls).before a0 Z = true) (w4 : (Cond.code y b' mx' rt').before a0 Z = true)
    (hy : y.cls ≠ "java/lang/invoke/MethodHandle" ∧ y.cls ≠ "java/lang/invoke/VarHandle") (pd : parseMethodDescriptor y.desc = some ⟨ps, rs⟩) (hll : argsL.length = ps.length) (hst : st = argsL.reverse ++ rest) (hsz : Ls.size = mx)
    (hM : oCtr [] l Z a0 EL wd y b' mx' rt' rm argsL.toArray D' h Q' O') (hD : ∀ x ∈ D', x ∈ D) (hf : rm.frames + 1 ≤ R.frames) (hl : (rest.map fun v => v.category).sum + (mx' + 11) + rm.locals ≤ R.locals) (hk : k + rm.cells = k') (hn : n + rm.slots = n') (hc : k' ≤ R.cells) (hs : n' ≤ R.slots)
    (g : ∀ v h', h.size ≤ h'.size → Q' v h' → ∃ D2 : List Addr, (∀ x ∈ D2, x ∈ D ∨ O' v h' x) ∧ oGo l Z a0 EL wd p e s m args below meth c R own bytes mx rt nm Q O D2 h' k' n' pc' Ls (v.toList ++ rest)) : oGo l Z a0 EL wd p e s m args below meth c R own bytes mx rt nm Q O D h k n pc Ls st := by
  subst hp hst
  intro T locs vm0 k0 I
  have I0 := I
  obtain ⟨⟨hx, hb, hm, hr, hlk, hnm, hE⟩, hT, hO, hF, X, hS, hk0, hZ, hown, hC, hwd, hDk⟩ := I
  refine oGo.after I0 hk hn (as' := argsL.toArray) (rest := rest) (callSS (s := s.setVm vm0) X hx hown (mvT (s := s.setVm vm0) hZ w1) (mvT (s := s.setVm vm0) hZ w2) (mvT (s := s.setVm vm0) hZ w3) (mvT (s := s.setVm vm0) hZ w4) hy
    (oCtr.back (W := (rest.map fun v => v.category).sum) hM hZ w4 w3 hf hl hE hO hC.1 (hDk.sub hD)) (g := mkF m pc Ls (argsL.reverse ++ rest)) rfl (hsz.trans hm.symm) (lenOf pd hll) rfl (by show 2 * 0 + _ ≤ _; omega) (by rw [hb]; exact hd) (fun _ _ => ⟨rfl, hT, by show k + _ ≤ _; omega, by show n + _ ≤ _; omega⟩)) g
theorem oGo.invokespecial {idx : Nat} {y : MethodName} {b' : ByteArray} {mx' : Nat} {rs : Option FieldType} {ps : List FieldType} {rm : Room} {D' : List Addr} {Q' : Option Value → Heap → Prop} {O' : Option Value → Heap → Addr → Prop} {k' n' : Nat} {a : Addr} {argsL rest : List Value}
    (hd : decode bytes pc = .ok (.invokespecial idx, 3)) (hp : pc + 3 = pc') (hi : y.name = "<init>") (w1 : (Cond.methodLink own idx y).before a0 Z = true) (w2 : (Cond.instanceMethod y).before a0 Z = true) (w3 : (Cond.initialized y.cls).before a0 Z = true) (w4 : (Cond.code y b' mx' none).before a0 Z = true)
    (hy : y.cls ≠ "java/lang/invoke/MethodHandle" ∧ y.cls ≠ "java/lang/invoke/VarHandle") (pd : parseMethodDescriptor y.desc = some ⟨ps, rs⟩) (hll : argsL.length = ps.length) (hst : st = argsL.reverse ++ .ref a :: rest) (hsz : Ls.size = mx)
    (hM : oCtr [] l Z a0 EL wd y b' mx' none rm (.ref a :: argsL).toArray D' h Q' O') (hD : ∀ x ∈ D', x ∈ D) (hf : rm.frames + 1 ≤ R.frames) (hl : (rest.map fun v => v.category).sum + (mx' + 11) + rm.locals ≤ R.locals) (hk : k + rm.cells = k') (hn : n + rm.slots = n') (hc : k' ≤ R.cells) (hs : n' ≤ R.slots)
    (g : ∀ v h', h.size ≤ h'.size → Q' v h' → ∃ D2 : List Addr, (∀ x ∈ D2, x ∈ D ∨ O' v h' x) ∧ oGo l Z a0 EL wd p e s m args below meth c R own bytes mx rt nm Q O D2 h' k' n' pc' Ls (v.toList ++ rest)) : oGo l Z a0 EL wd p e s m args below meth c R own bytes mx rt nm Q O D h k n pc Ls st := by
  subst hp hst
  intro T locs vm0 k0 I
  have I0 := I
  obtain ⟨⟨hx, hb, hm, hr, hlk, hnm, hE⟩, hT, hO, hF, X, hS, hk0, hZ, hown, hC, hwd, hDk⟩ := I
  refine oGo.after I0 hk hn (as' := (.ref a :: argsL).toArray) (rest := rest) (X.specialBackS hx hi hown (mvT (s := s.setVm vm0) hZ w1) (mvT (s := s.setVm vm0) hZ w2) (mvT (s := s.setVm vm0) hZ w4) hy
    (oCtr.back (W := (rest.map fun v => v.category).sum) hM hZ w4 w3 hf hl hE hO hC.1 (hDk.sub hD)) (g := mkF m pc Ls (argsL.reverse ++ .ref a :: rest)) rfl (hsz.trans hm.symm) (Steps.refl _) (lenOf pd hll) rfl (by show 2 * 0 + _ ≤ _; omega) (by rw [hb]; exact hd) (fun _ _ => ⟨rfl, hT, by show k + _ ≤ _; omega, by show n + _ ≤ _; omega⟩)) g
theorem own_notface {args : Array Value} {s : State} {C5 : String} {y y5 z5 : MethodName} (w : (Cond.selects C5 y5 z5).before args s = true) (h : z5.cls = y.cls) : NotFace s y := fun r0 h0 => by
  obtain ⟨c2, r2, m2, -, -, q3, -, kP, hkP, hkPi⟩ := Cond.selects_spec w
  have f1 := findClass_of_methodNamed q3
  have f2 := findClass_of_methodNamed h0
  rw [h] at f1
  have e := Option.some.inj (f1.symm.trans f2)
  rw [e] at hkP; exact ⟨kP, hkP, hkPi⟩
theorem oGo.invokevirtual {idx : Nat} {y z : MethodName} {Cn C5 : String} {y5 z5 : MethodName} {b' : ByteArray} {mx' : Nat} {rt' rs : Option FieldType} {ps : List FieldType} {rm : Room} {D' : List Addr} {Q' : Option Value → Heap → Prop} {O' : Option Value → Heap → Addr → Prop} {k' n' : Nat} {a : Addr} {argsL rest : List Value}
    (hd : decode bytes pc = .ok (.invokevirtual idx, 3)) (hp : pc + 3 = pc') (w1 : (Cond.methodLink own idx y).before a0 Z = true) (w2 : (Cond.declares y).before a0 Z = true) (w5 : (Cond.selects Cn y z).before a0 Z = true) (w7 : (Cond.selects C5 y5 z5).before a0 Z = true) (h7 : z5.cls = y.cls) (w6 : (Cond.instanceMethod z).before a0 Z = true) (w3 : (Cond.initialized z.cls).before a0 Z = true) (w4 : (Cond.code z b' mx' rt').before a0 Z = true)
    (hy : y.cls ≠ "java/lang/invoke/MethodHandle" ∧ y.cls ≠ "java/lang/invoke/VarHandle") (pd : parseMethodDescriptor y.desc = some ⟨ps, rs⟩) (hll : argsL.length = ps.length) (hst : st = argsL.reverse ++ .ref a :: rest) (hsz : Ls.size = mx) (E : Exa Z h a Cn)
    (hM : oCtr [] l Z a0 EL wd z b' mx' rt' rm (.ref a :: argsL).toArray D' h Q' O') (hD : ∀ x ∈ D', x ∈ D) (hf : rm.frames + 1 ≤ R.frames) (hl : (rest.map fun v => v.category).sum + (mx' + 11) + rm.locals ≤ R.locals) (hk : k + rm.cells = k') (hn : n + rm.slots = n') (hc : k' ≤ R.cells) (hs : n' ≤ R.slots)
    (g : ∀ v h', h.size ≤ h'.size → Q' v h' → ∃ D2 : List Addr, (∀ x ∈ D2, x ∈ D ∨ O' v h' x) ∧ oGo l Z a0 EL wd p e s m args below meth c R own bytes mx rt nm Q O D2 h' k' n' pc' Ls (v.toList ++ rest)) : oGo l Z a0 EL wd p e s m args below meth c R own bytes mx rt nm Q O D h k n pc Ls st := by
  subst hp hst
  intro T locs vm0 k0 I
  have I0 := I
  obtain ⟨⟨hx, hb, hm, hr, hlk, hnm, hE⟩, hT, hO, hF, X, hS, hk0, hZ, hown, hC, hwd, hDk⟩ := I
  obtain ⟨cq, kq, q1, q2, q3⟩ := isOf (s := s.setVm vm0) (T := T) hZ hT E
  refine oGo.after I0 hk hn (as' := (.ref a :: argsL).toArray) (rest := rest) (X.virtualBackS hx hown (mvT (s := s.setVm vm0) hZ w1) (mvT (s := s.setVm vm0) hZ w2) (own_notface (args := #[]) (mvT (s := s.setVm vm0) hZ w7) h7) (mvT (s := s.setVm vm0) hZ w5) (mvT (s := s.setVm vm0) hZ w6) hy
    (oCtr.back (W := (rest.map fun v => v.category).sum) hM hZ w4 w3 hf hl hE hO hC.1 (hDk.sub hD)) q1 q3 (g := mkF m pc Ls (argsL.reverse ++ .ref a :: rest)) rfl (hsz.trans hm.symm) (Steps.refl _) (lenOf pd hll) rfl (by show 2 * 0 + _ ≤ _; omega) (by rw [hb]; exact hd) (fun _ _ => ⟨rfl, hT, by show k + _ ≤ _; omega, by show n + _ ≤ _; omega⟩)) g
/-! ### the end -/
theorem oGo.leave {T : State} {locs : List Loc} {vm0 : Vm} {k0 : Nat} {v : Option Value} (I : oInv l Z a0 EL wd p e s m args below meth c R own bytes mx rt nm D h k n T locs vm0 k0) (hk : k ≤ R.cells) (hn : n ≤ R.slots) (hv : rt = none → v = none) (hq : Q v h) (hOx : ∀ x, O v h x → x ∈ D)
    (hst : ∀ fs, (∀ (f : JFrame) (acts : List Action), f.method = m → f.locked = none → f.entered = [] → (doReturn e (T.setTop f) acts v).1 = T.setFrames fs) → Steps p.tables e below (T.setTop (mkF m pc Ls st)) (T.setFrames fs)) : oRes Z EL wd p e s below R Q O (T.setTop (mkF m pc Ls st)) := by
  obtain ⟨⟨hx, hb, hm, hr, hl, hnm, hE⟩, hT, hO, hF, X, hS, hk0, hZ, hown, hC, hwd, hDk⟩ := I
  obtain ⟨fs, h1, h2, h3, h4⟩ := X.leaveW hS (by rw [hT]; exact hk0) (v := v) (by rw [hr]; exact hv) hl
  have hW : (s.setVm vm0).WarmedH T.vm := X.warmed
  refine ⟨T.setFrames fs, v, locs, hst fs h1, h2, h3, ⟨by show Q v T.heap; rw [hT]; exact hq, fun x qx => ?_⟩, hF, by show Ext Z.heap T.heap; rw [hT]; exact hO, ?_, ?_, h4.1, h4.2.1, h4.2.2.1, h4.2.2.2.mono hk hn⟩
  · have qx' : O v h x := by rw [← hT]; exact qx
    show Z.heap.size ≤ x ∧ x < T.heap.size ∧ Safe Z EL T.vm T.heap x
    rw [hT]; exact hDk.chr (CHv.at X hZ hE hC.1) x (hOx x qx')
  · show CHr Z EL s.vm s.heap T.vm T.heap
    rw [hT]; exact hC.trans (CHv.at X hZ hE hC.1)
  · exact hwd.imp id fun q => State.WarmedH.trans (t := s.setVm vm0) q hW
theorem oGo.ireturn {z : Int32} (hd : decode bytes pc = .ok (.ireturn, 1)) (hr : rt = some .int) (hk : k ≤ R.cells) (hn : n ≤ R.slots) (hq : Q (some (.int z)) h) (hOx : ∀ x, O (some (.int z)) h x → x ∈ D) : oGo l Z a0 EL wd p e s m args below meth c R own bytes mx rt nm Q O D h k n pc Ls (.int z :: st) := fun T locs vm0 k0 I =>
  oGo.leave I hk hn (fun q => by rw [hr] at q; cases q) hq hOx fun fs hfs => retOut I.2.2.2.2.1 I.1.1 (by rw [I.1.2.2.2.1]; exact hr) rfl (Or.inl ⟨rfl, Or.inl rfl, z, rfl⟩) (by rw [I.1.2.1]; exact hd) hfs
theorem oGo.nreturn {z w : Int32} {t : FieldType} (hd : decode bytes pc = .ok (.ireturn, 1)) (hr : rt = some t) (ht : t = .boolean ∨ t = .byte ∨ t = .char ∨ t = .short) (hw : nar t z = w) (hk : k ≤ R.cells) (hn : n ≤ R.slots) (hq : Q (some (.int w)) h) (hOx : ∀ x, O (some (.int w)) h x → x ∈ D) : oGo l Z a0 EL wd p e s m args below meth c R own bytes mx rt nm Q O D h k n pc Ls (.int z :: st) := fun T locs vm0 k0 I =>
  oGo.leave I hk hn (fun q => by rw [hr] at q; cases q) hq hOx fun fs hfs => retN I.2.2.2.2.1 I.1.1 (by rw [I.1.2.2.2.1]; exact hr) ht (by rw [I.1.2.1]; exact hd) (by rw [hw]; exact hfs)
theorem oGo.lreturn {z : Int64} (hd : decode bytes pc = .ok (.lreturn, 1)) (hr : rt = some .long) (hk : k ≤ R.cells) (hn : n ≤ R.slots) (hq : Q (some (.long z)) h) (hOx : ∀ x, O (some (.long z)) h x → x ∈ D) : oGo l Z a0 EL wd p e s m args below meth c R own bytes mx rt nm Q O D h k n pc Ls (.long z :: st) := fun T locs vm0 k0 I =>
  oGo.leave I hk hn (fun q => by rw [hr] at q; cases q) hq hOx fun fs hfs => retOut I.2.2.2.2.1 I.1.1 (by rw [I.1.2.2.2.1]; exact hr) rfl (Or.inr (Or.inl ⟨rfl, rfl, z, rfl⟩)) (by rw [I.1.2.1]; exact hd) hfs
theorem oGo.areturn {v : Value} {t : FieldType} (hd : decode bytes pc = .ok (.areturn, 1)) (hr : rt = some t) (ht : t.isReference = true) (hv : v.isRef = true) (hw : narrow t v = v) (hk : k ≤ R.cells) (hn : n ≤ R.slots) (hq : Q (some v) h) (hOx : ∀ x, O (some v) h x → x ∈ D) : oGo l Z a0 EL wd p e s m args below meth c R own bytes mx rt nm Q O D h k n pc Ls (v :: st) := fun T locs vm0 k0 I =>
  oGo.leave I hk hn (fun q => by rw [hr] at q; cases q) hq hOx fun fs hfs => retOut I.2.2.2.2.1 I.1.1 (by rw [I.1.2.2.2.1]; exact hr) hw (Or.inr (Or.inr (Or.inr (Or.inr ⟨rfl, ht, hv⟩)))) (by rw [I.1.2.1]; exact hd) hfs
theorem oGo.return_ (hd : decode bytes pc = .ok (.return_, 1)) (hr : rt = none) (hk : k ≤ R.cells) (hn : n ≤ R.slots) (hq : Q none h) (hOx : ∀ x, O none h x → x ∈ D) : oGo l Z a0 EL wd p e s m args below meth c R own bytes mx rt nm Q O D h k n pc Ls [] := fun T locs vm0 k0 I =>
  oGo.leave I hk hn (fun _ => rfl) hq hOx fun fs hfs => I.2.2.2.2.1.returnOut I.1.1 (by rw [I.1.2.2.2.1]; exact hr) (by rw [I.1.2.1]; exact hd) hfs
end Logic
/-! ### addresses are natural numbers -/
theorem own_ne {a b : Nat} (h : a ≠ b) : a ≠ b := h
theorem own_ltN {a n : Nat} (h : a < n) : a < n := h
theorem own_leN {a n : Nat} (h : a ≤ n) : a ≤ n := h
theorem own_ne_ge {x y n : Nat} (h : x < n) (g : n ≤ y) : x ≠ y := by omega
theorem own_ne_ge' {x y n : Nat} (h : x < n) (g : n ≤ y) : y ≠ x := by omega
theorem own_ne_or {x y z n : Nat} (h : x ≠ y) (l : x < n) (q : z = y ∨ n ≤ z) : x ≠ z := by rcases q with rfl | q; exact h; omega
theorem own_ne_or' {x y z n : Nat} (h : x ≠ y) (l : x < n) (q : z = y ∨ n ≤ z) : z ≠ x := Ne.symm (own_ne_or h l q)
theorem own_ge_or {y z n m : Nat} (h : m ≤ y) (l : m ≤ n) (q : z = y ∨ n ≤ z) : m ≤ z := by rcases q with rfl | q; exact h; omega
theorem own_lt_le {x n m : Nat} (h : x < n) (g : n ≤ m) : x < m := Nat.lt_of_lt_of_le h g
theorem own_le_le {x n m : Nat} (h : x ≤ n) (g : n ≤ m) : x ≤ m := Nat.le_trans h g
theorem own_ge_eq {a n : Nat} (h : a = n) : n ≤ a := by omega
theorem own_nin1 {a b : Nat} (h : a ≠ b) : a ∉ [b] := by simpa using h
theorem own_nin2 {a b c : Nat} (h : a ≠ b) (h2 : a ≠ c) : a ∉ [b, c] := by simp [h, h2]
theorem own_new1 {a n : Nat} {ws : List Nat} (h : n ≤ a) : ∀ x ∈ [a], x ∈ ws ∨ n ≤ x := fun x hx => Or.inr (by rw [List.mem_singleton.mp hx]; exact h)
theorem own_new2 {a b n : Nat} {ws : List Nat} (h : n ≤ a) (h2 : n ≤ b) : ∀ x ∈ [a, b], x ∈ ws ∨ n ≤ x := fun x hx => Or.inr (by rcases List.mem_cons.mp hx with rfl | hx; exact h; rw [List.mem_singleton.mp hx]; exact h2)
theorem own_D1 {t : Nat} {D : List Nat} {P : Nat → Prop} (h : P t) : ∀ x ∈ t :: D, x ∈ D ∨ P x := fun x hx => (List.mem_cons.mp hx).elim (fun e => Or.inr (e ▸ h)) Or.inl
/-! ### numbers and texts -/
abbrev oI (xs : List Int32) : List Value := xs.map Value.int
def lo8 (x : Int32) : Int32 := x.toInt8.toInt32
def hi8 (x : Int32) : Int32 := lo8 (x >>> ((8 : Int32) &&& 31))
def wide2 (cs : List Int32) : List Int32 := cs.flatMap fun c => [lo8 c, hi8 c]
theorem lo8_idem (x : Int32) : nar .byte (lo8 x) = lo8 x := by
  show (x.toInt8.toInt32).toInt8.toInt32 = x.toInt8.toInt32
  rw [Int8.toInt8_toInt32]
theorem own_succ (i : Nat) : Int32.ofNat i + 1 = Int32.ofNat (i + 1) := by
  rw [Int32.ofNat_add]; rfl
theorem own_lt {a b : Nat} (ha : a < 2147483648) (hb : b < 2147483648) : Int32.ofNat a < Int32.ofNat b ↔ a < b := by
  rw [Int32.lt_iff_toInt_lt, own_i32 ha, own_i32 hb]; omega
theorem own_eq {a b : Nat} (ha : a < 2147483648) (hb : b < 2147483648) : Int32.ofNat a = Int32.ofNat b ↔ a = b := by
  rw [← Int32.toInt_inj, own_i32 ha, own_i32 hb]; omega
theorem own_shl1 (i : Nat) : Int32.ofNat i <<< ((1 : Int32) &&& 31) = Int32.ofNat (2 * i) := by
  rw [shlm (m := 2) (by decide), Nat.mul_comm, Int32.ofNat_mul]; rfl
theorem own_ge0 {x : Int32} : ¬ x < 0 ↔ 0 ≤ x.toInt := by rw [Int32.lt_iff_toInt_lt]; simp
theorem own_le {x : Int32} {n : Int32} : ¬ n < x ↔ x.toInt ≤ n.toInt := by rw [Int32.lt_iff_toInt_lt]; omega
/-- an int between two bounds, as a natural number -/
theorem own_nat {x : Int32} {N : Nat} (h0 : 0 ≤ x.toInt) (h1 : x.toInt < N) : ∃ i : Nat, i < N ∧ x = Int32.ofNat i := by
  refine ⟨x.toInt.toNat, by omega, ?_⟩
  apply Int32.toInt_inj.mp
  have := Int32.toInt_lt x
  rw [own_i32 (by omega)]; omega
theorem own_char {x : Int32} (h : fits .char (.int x) = true) : ¬ x < 0 ∧ ¬ 65535 < x := rng_char h
theorem own_take_set {α : Type} (xs : List α) (i : Nat) (v : α) (h : i < xs.length) : (xs.set i v).take (i + 1) = xs.take i ++ [v] := by
  rw [List.take_set, List.take_add_one, List.set_append_right _ _ (by simp; omega)]
  simp [h, Nat.min_eq_left (Nat.le_of_lt h)]
theorem own_take_succ {α : Type} (xs : List α) (i : Nat) (v : α) (h : xs[i]? = some v) : xs.take (i + 1) = xs.take i ++ [v] := by
  rw [List.take_add_one, h]; rfl
theorem wide2_len (cs : List Int32) : (wide2 cs).length = 2 * cs.length := by
  induction cs with
  | nil => rfl
  | cons c cs ih => simp only [wide2, List.flatMap_cons, List.length_append, List.length_cons, List.length_nil] at ih ⊢; rw [ih]; omega
theorem wide2_get (cs : List Int32) : ∀ (i : Nat) (c : Int32), cs[i]? = some c → (wide2 cs)[2 * i]? = some (lo8 c) ∧ (wide2 cs)[2 * i + 1]? = some (hi8 c) := by
  induction cs with
  | nil => intro i c h; simp at h
  | cons a cs ih =>
    intro i c h
    cases i with
    | zero => simp at h; subst h; exact ⟨rfl, rfl⟩
    | succ i =>
      have := ih i c (by simpa using h)
      have e : wide2 (a :: cs) = lo8 a :: hi8 a :: wide2 cs := rfl
      rw [e, show 2 * (i + 1) = 2 * i + 1 + 1 by omega]
      simpa using this
theorem wide2_lo (cs : List Int32) (i : Nat) (c : Int32) (h : cs[i]? = some c) : (oI (wide2 cs))[2 * i]? = some (.int (lo8 c)) := by rw [List.getElem?_map, (wide2_get cs i c h).1]; rfl
theorem wide2_hi (cs : List Int32) (i : Nat) (c : Int32) (h : cs[i]? = some c) : (oI (wide2 cs))[2 * i + 1]? = some (.int (hi8 c)) := by rw [List.getElem?_map, (wide2_get cs i c h).2]; rfl
theorem wide2_step (cs : List Int32) (vs : List Value) (i : Nat) (c : Int32) (h : cs[i]? = some c) (hv : 2 * i + 1 < vs.length) (ht : vs.take (2 * i) = (oI (wide2 cs)).take (2 * i)) :
    ((vs.set (2 * i) (.int (lo8 c))).set (2 * i + 1) (.int (hi8 c))).take (2 * (i + 1)) = (oI (wide2 cs)).take (2 * (i + 1)) := by
  rw [show 2 * (i + 1) = 2 * i + 1 + 1 by omega, own_take_set _ _ _ (by simpa using hv), own_take_set _ _ _ (by omega), ht, own_take_succ _ _ _ (wide2_hi cs i c h), own_take_succ _ _ _ (wide2_lo cs i c h)]
def oStr (Z : State) (h : Heap) (x t : Addr) (cs : List Int32) : Prop := Exa Z h x "java/lang/String" ∧ Fld Z h x "java/lang/String" "value" "[B" (.ref t) ∧
  ((Fld Z h x "java/lang/String" "coder" "B" (.int 0) ∧ oArr Z h t .byte (oI (cs.map lo8)) ∧ ∀ c ∈ cs, ¬ 255 < c) ∨ (Fld Z h x "java/lang/String" "coder" "B" (.int 1) ∧ oArr Z h t .byte (oI (wide2 cs)))) ∧ ∀ c ∈ cs, ¬ c < 0 ∧ ¬ 65535 < c
theorem shr0 (c : Int32) : c >>> ((0 : Int32) &&& 31) = c := by
  rw [show ((0 : Int32) &&& 31) = 0 from by decide]; simp
theorem own_toNat {x : Int32} (h0 : 0 ≤ x.toInt) : (x.toBitVec.toNat : Int) = x.toInt := by
  have := x.toBitVec.isLt
  have e : x.toInt = x.toBitVec.toInt := rfl
  rw [e] at h0 ⊢
  rw [BitVec.toInt_eq_toNat_cond] at h0 ⊢
  split at h0 <;> split <;> omega
theorem own_ofNat {x : Int32} {n : Nat} (h : x.toBitVec.toNat = n) : x = Int32.ofNat n := by
  apply Int32.toBitVec_inj.mp
  apply BitVec.eq_of_toNat_eq
  rw [h]
  show _ = (BitVec.ofNat 32 n).toNat
  rw [BitVec.toNat_ofNat, ← h]; have := x.toBitVec.isLt; omega
theorem lo8_and (x : Int32) : (lo8 x &&& 255).toBitVec.toNat = x.toBitVec.toNat % 256 := by
  have h : (lo8 x).toBitVec = (x.toBitVec.signExtend 8).signExtend 32 := by rw [lo8, Int8.toBitVec_toInt32, Int32.toBitVec_toInt8]
  have e : ((x.toBitVec.signExtend 8).signExtend 32).toNat % 256 = x.toBitVec.toNat % 256 := by
    have hlt := x.toBitVec.isLt
    simp only [BitVec.toNat_setWidth, BitVec.toNat_signExtend]
    split <;> split <;> omega
  rw [Int32.toBitVec_and, BitVec.toNat_and, h, ← e]
  exact Nat.and_two_pow_sub_one_eq_mod _ 8
theorem own_i2c (x : Int32) : (x.toUInt32.toUInt16.toUInt32.toInt32).toBitVec.toNat = x.toBitVec.toNat % 65536 := by
  show ((x.toBitVec.setWidth 16).setWidth 32).toNat = _
  have := x.toBitVec.isLt
  simp only [BitVec.toNat_setWidth]; omega
theorem nar_char {c : Int32} (h0 : ¬ c < 0) (h1 : ¬ 65535 < c) : nar .char c = c := by
  have a := own_toNat (own_ge0.mp h0)
  have b := own_le.mp h1
  have e : (65535 : Int32).toInt = 65535 := rfl
  apply Int32.toBitVec_inj.mp
  apply BitVec.eq_of_toNat_eq
  show (c.toUInt32.toUInt16.toUInt32.toInt32).toBitVec.toNat = _
  rw [own_i2c]; omega
theorem nar_nar (x : Int32) : nar .char (nar .char x) = nar .char x := nar_char (own_char (fits_nar_char x)).1 (own_char (fits_nar_char x)).2
theorem lat_says {c : Int32} (h0 : ¬ c < 0) (h1 : ¬ 255 < c) : nar .char ((lo8 c &&& 255).toUInt32.toUInt16.toUInt32.toInt32) = c := by
  have a := own_toNat (own_ge0.mp h0)
  have b := own_le.mp h1
  have e : (255 : Int32).toInt = 255 := rfl
  apply Int32.toBitVec_inj.mp
  apply BitVec.eq_of_toNat_eq
  show ((lo8 c &&& 255).toUInt32.toUInt16.toUInt32.toInt32.toUInt32.toUInt16.toUInt32.toInt32).toBitVec.toNat = _
  rw [own_i2c, own_i2c, lo8_and]; omega
theorem pair_says {c : Int32} (h0 : ¬ c < 0) (h1 : ¬ 65535 < c) : nar .char ((((lo8 c &&& 255) <<< ((0 : Int32) &&& 31)) ||| ((hi8 c &&& 255) <<< ((8 : Int32) &&& 31))).toUInt32.toUInt16.toUInt32.toInt32) = c := by
  have a := own_toNat (own_ge0.mp h0)
  have b := own_le.mp h1
  have e : (65535 : Int32).toInt = 65535 := rfl
  have hn : c.toBitVec.toNat < 65536 := by omega
  have a1 := lo8_and c
  have a2 : (hi8 c &&& 255).toBitVec.toNat = c.toBitVec.toNat / 256 := by
    rw [hi8, lo8_and]
    have e : ((8 : Int32) &&& 31) = 8 := by decide
    rw [e, Int32.toBitVec_shiftRight]
    have e2 : ((8 : Int32).toBitVec.smod 32) = 8#32 := by decide
    rw [e2, BitVec.sshiftRight_eq', BitVec.toNat_sshiftRight_of_msb_false (by rw [BitVec.msb_eq_false_iff_two_mul_lt]; omega)]
    show c.toBitVec.toNat >>> 8 % 256 = _
    rw [Nat.shiftRight_eq_div_pow]
    omega
  rw [shlm (x := lo8 c &&& 255) (k := 0) (m := 1) (by decide), shlm (x := hi8 c &&& 255) (k := 8) (m := 256) (by decide), Int32.mul_one]
  apply Int32.toBitVec_inj.mp
  apply BitVec.eq_of_toNat_eq
  show ((((lo8 c &&& 255) ||| ((hi8 c &&& 255) * 256)).toUInt32.toUInt16.toUInt32.toInt32).toUInt32.toUInt16.toUInt32.toInt32).toBitVec.toNat = _
  rw [own_i2c, own_i2c, Int32.toBitVec_or, BitVec.toNat_or, a1, Int32.toBitVec_mul, BitVec.toNat_mul, a2]
  have e3 : (c.toBitVec.toNat / 256 * (256 : Int32).toBitVec.toNat) % 2 ^ 32 = 2 ^ 8 * (c.toBitVec.toNat / 256) := by
    show (c.toBitVec.toNat / 256 * 256) % 4294967296 = _
    omega
  rw [e3, Nat.or_comm, ← Nat.two_pow_add_eq_or_of_lt (by omega)]
  omega
theorem own_shr1 {n : Nat} (h : 2 * n < 2147483648) : Int32.ofNat (2 * n) >>> ((1 : Int32) &&& 31) = Int32.ofNat n := by
  have a := own_toNat (x := Int32.ofNat (2 * n)) (by rw [own_i32 h]; omega)
  rw [own_i32 h] at a
  apply own_ofNat
  rw [show ((1 : Int32) &&& 31) = 1 by decide, Int32.toBitVec_shiftRight, show ((1 : Int32).toBitVec.smod 32) = 1#32 by decide, BitVec.sshiftRight_eq', BitVec.toNat_sshiftRight_of_msb_false (by rw [BitVec.msb_eq_false_iff_two_mul_lt]; omega)]
  show (Int32.ofNat (2 * n)).toBitVec.toNat >>> 1 = _
  rw [Nat.shiftRight_eq_div_pow]; omega
theorem own_and_lo (x m : Int32) (hm : ¬ m < 0) : ¬ (x &&& m) < 0 := own_ge0.mpr ((c_andS x m).2.2 (own_ge0.mp hm))
theorem own_and_hi (x m : Int32) (hm : ¬ m < 0) : ¬ m < (x &&& m) := by
  rw [own_le]
  have a := own_toNat (own_ge0.mp (own_and_lo x m hm))
  have b := own_toNat (own_ge0.mp hm)
  have c : (x &&& m).toBitVec.toNat ≤ m.toBitVec.toNat := by
    rw [Int32.toBitVec_and, BitVec.toNat_and]; exact Nat.and_le_right
  omega
theorem own_sub {x y : Int32} (h1 : -2147483648 ≤ x.toInt - y.toInt) (h2 : x.toInt - y.toInt < 2147483648) : (x - y).toInt = x.toInt - y.toInt := by
  rw [Int32.toInt_sub]
  exact Int.bmod_eq_of_le (by omega) (by omega)
theorem own_subI {i j : Nat} (hi : i < 1000000) (hj : j < 1000000) : (Int32.ofNat j - Int32.ofNat i).toInt = (j : Int) - i := by
  have a := own_i32 (i := i) (by omega)
  have b := own_i32 (i := j) (by omega)
  rw [own_sub (by omega) (by omega), a, b]
theorem own_subc {x k : Int32} (h0 : 0 ≤ k.toInt) (h1 : k.toInt ≤ x.toInt) : (x - k).toInt = x.toInt - k.toInt := by
  have := Int32.toInt_lt x
  exact own_sub (by omega) (by omega)
theorem own_eqI {args : Array Value} {first s : State} {o : Option Outcome} {idx : List Nat} {t : Term} {n : Int32} (h : (Cond.eq t (Term.int n)).value args first o s idx = some true) : t.eval args first o idx s = some (.int n) := by
  simp only [Cond.value, Term.int_eval] at h
  cases ht : t.eval args first o idx s with
  | none => simp [ht] at h
  | some x => cases x <;> simp [ht] at h ⊢; exact h
theorem own_255 {c : Int32} (h : ¬ 255 < c) : ¬ 65535 < c := by
  rw [own_le] at h ⊢
  have e : (255 : Int32).toInt = 255 := rfl
  have e2 : (65535 : Int32).toInt = 65535 := rfl
  omega
theorem own_b255 (x : Int32) : ¬ (x &&& 255).toUInt32.toUInt16.toUInt32.toInt32 < 0 ∧ ¬ 255 < (x &&& 255).toUInt32.toUInt16.toUInt32.toInt32 := by
  have h0 := own_and_lo x 255 (by decide)
  have h1 := own_and_hi x 255 (by decide)
  have e : (x &&& 255).toUInt32.toUInt16.toUInt32.toInt32 = x &&& 255 := nar_char h0 (own_255 h1)
  rw [e]; exact ⟨h0, h1⟩
theorem own_irem (x k : Int32) (n : Nat) (h0 : 0 < n) (h1 : n < 2147483648) (hk : k = Int32.ofNat n) : ∃ i : Nat, i < n ∧ (x &&& 2147483647) % k = Int32.ofNat i := by
  have a := own_ge0.mp (own_and_lo x 2147483647 (by decide))
  have e : k.toInt = (n : Int) := by rw [hk, own_i32 h1]
  have b := (c_irem (x &&& 2147483647) k (n : Int) e).1 a
  refine own_nat ?_ ?_
  · rw [b]; exact Int.emod_nonneg _ (by omega)
  · rw [b]; exact Int.emod_lt_of_pos _ (by omega)
theorem own_subN {i j : Nat} (h : i ≤ j) (hj : j < 2147483648) : Int32.ofNat j - Int32.ofNat i = Int32.ofNat (j - i) := by
  apply Int32.toInt_inj.mp
  have a := own_i32 (i := i) (by omega)
  have b := own_i32 hj
  have c := own_i32 (i := j - i) (by omega)
  rw [own_sub (by omega) (by omega), a, b, c]; omega
theorem own_add2 (i : Nat) : Int32.ofNat i + 2 = Int32.ofNat (i + 2) := by rw [Int32.ofNat_add]; rfl
theorem shl0 (c : Int32) : c <<< ((0 : Int32) &&& 31) = c := by rw [shlm (m := 1) (by decide), Int32.mul_one]
theorem own_app_take {vs : List Value} {cs ds : List Int32} (hv : vs.take cs.length = oI (cs.map lo8)) (hl : cs.length + ds.length ≤ vs.length) : (vs.take cs.length ++ oI (ds.map lo8) ++ vs.drop (cs.length + ds.length)).take (cs.length + ds.length) = oI ((cs ++ ds).map lo8) := by
  rw [hv, List.take_left' (by simp)]; simp
theorem own_sub_map (cs : List Int32) (i k : Nat) : ((oI (cs.map lo8)).drop i).take k = oI (((cs.drop i).take k).map lo8) := by
  simp [List.map_drop, List.map_take]
section Logic2
variable {l : Launch} {Z : State} {a0 : Array Value} {EL : List (String × Nat)} {wd : Prop} {p : Program} {e : Env} {s : State} {m : MethodId} {args : Array Value} {below : List Frame} {meth : Method} {c : Code} {R : Room} {own : String} {bytes : ByteArray} {mx : Nat} {rt : Option FieldType} {nm : String}
  {Q : Option Value → Heap → Prop} {O : Option Value → Heap → Addr → Prop} {D : List Addr} {h : Heap} {k n : Nat} {pc pc' pc1 pc2 : Nat} {Ls Ls' : Array Slot} {st st' : List Value}
/-- a String constant whose text is known -/
theorem oGo.ldc_str {idx : Nat} {text : String} {vs : List Value} {k' n' : Nat} (hd : decode bytes pc = .ok (.ldc idx, 2)) (hp : pc + 2 = pc') (hwd : wd) (w : (Cond.stringLink own idx text).before a0 Z = true) (wS : ∀ a ∈ Bundle.stringAtoms, a.before a0 Z = true) (hmem : (own, idx) ∈ EL)
    (ht : (∀ c ∈ text.toList, c.toNat < 256) ∧ text.toList.map (fun c => Value.int (Jvm.Lit.byteI c.toNat.toUInt16)) = vs) (hvl : vs.length < 1000) (hk : k + 2 = k') (hn : n + (4 * text.toList.length + 4) = n') (hc : k' ≤ R.cells) (hl : n' ≤ R.slots)
    (g : ∀ (h' : Heap) (a b : Nat), Ext h h' → Exa Z h' a "java/lang/String" → Fld Z h' a "java/lang/String" "coder" "B" (.int 0) → Fld Z h' a "java/lang/String" "value" "[B" (.ref b) → oArr Z h' b .byte vs → a < h'.size → b < h'.size → (∀ x : Nat, x ∈ D → x ≠ a ∧ x ≠ b) → oGo l Z a0 EL wd p e s m args below meth c R own bytes mx rt nm Q O D h' k' n' pc' Ls (.ref a :: st)) : oGo l Z a0 EL wd p e s m args below meth c R own bytes mx rt nm Q O D h k n pc Ls st := by
  subst hp hk hn
  intro T locs vm0 k0 I
  obtain ⟨⟨hx, hb, hm, hr, hlk, hnm, hE⟩, hT, hO, hF, X, hS, hk0, hZ, hown, hC, hw2, hDk⟩ := I
  have hbig : 4 * text.toList.length ≤ 536870912 := by
    have : text.toList.length = vs.length := by rw [← ht.2]; simp
    omega
  obtain ⟨a, T', h', k1, b, kk, X', hT', E, hS', hk1, hZ', hown', x1, x2, x3, x4, x5, x6, x7, -, x8, hst⟩ := ldcCH X hx hZ hown w wS hT hS hk0 hE hmem hC.1 ht (z := Int32.ofNat vs.length) (own_nn (by omega)) (by rw [own_n32 (by omega)]) (g := mkF m pc Ls st) rfl (by rw [hb]; exact hd) (n := 4 * text.toList.length) (Nat.le_refl _) hbig hc hl
  obtain ⟨V, v, L, hs, r⟩ := g h' a b E x1 x2 x3 (oArr.of_arv x4 (by rw [own_n32 (by omega)])) x5 x6 (fun x hx' => x8 x (x7.safe (hDk x hx').2.1 (hDk x hx').2.2)) T' locs T'.vm k1 ⟨⟨hx, hb, hm, hr, hlk, hnm, hE⟩, hT', ext_trans hO E, hF, X', hS', hk1, hZ', hown', hC.trans x7, Or.inl hwd, hDk.chr x7⟩
  exact ⟨V, v, L, hst V hs, r⟩
/-- a String constant of which nothing is asked -/
theorem oGo.ldc_op {idx : Nat} {text : String} {k' n' : Nat} (hd : decode bytes pc = .ok (.ldc idx, 2)) (hp : pc + 2 = pc') (hwd : wd) (w : (Cond.stringLink own idx text).before a0 Z = true) (wS : ∀ a ∈ Bundle.stringAtoms, a.before a0 Z = true)
    (hbig : 4 * text.toList.length ≤ 536870912) (hk : k + 2 = k') (hn : n + (4 * text.toList.length + 4) = n') (hc : k' ≤ R.cells) (hl : n' ≤ R.slots) (g : ∀ (h' : Heap) (a : Nat), Ext h h' → oGo l Z a0 EL wd p e s m args below meth c R own bytes mx rt nm Q O D h' k' n' pc' Ls (.ref a :: st)) : oGo l Z a0 EL wd p e s m args below meth c R own bytes mx rt nm Q O D h k n pc Ls st := by
  subst hp hk hn
  intro T locs vm0 k0 I
  obtain ⟨⟨hx, hb, hm, hr, hlk, hnm, hE⟩, hT, hO, hF, X, hS, hk0, hZ, hown, hC, hw2, hDk⟩ := I
  obtain ⟨a, T', h', k1, X', hT', E, hS', hk1, hZ', hown', x7, -, hst⟩ := ldcOH X hx hZ hown w wS hT hS hk0 hE hC.1 (g := mkF m pc Ls st) rfl (by rw [hb]; exact hd) (n := 4 * text.toList.length) (Nat.le_refl _) hbig hc hl
  obtain ⟨V, v, L, hs, r⟩ := g h' a E T' locs T'.vm k1 ⟨⟨hx, hb, hm, hr, hlk, hnm, hE⟩, hT', ext_trans hO E, hF, X', hS', hk1, hZ', hown', hC.trans x7, Or.inl hwd, hDk.chr x7⟩
  exact ⟨V, v, L, hst V hs, r⟩
/-- invokevirtual of a private method -/
theorem oGo.invokeprivate {idx : Nat} {y : MethodName} {Cn : String} {b' : ByteArray} {mx' : Nat} {rt' rs : Option FieldType} {ps : List FieldType} {rm : Room} {D' : List Addr} {Q' : Option Value → Heap → Prop} {O' : Option Value → Heap → Addr → Prop} {k' n' : Nat} {a : Addr} {argsL rest : List Value}
    (hd : decode bytes pc = .ok (.invokevirtual idx, 3)) (hp : pc + 3 = pc') (w1 : (Cond.methodLink own idx y).before a0 Z = true) (w2 : (Cond.privateMethod y).before a0 Z = true) (w5 : (Cond.selects Cn y y).before a0 Z = true) (w6 : (Cond.instanceMethod y).before a0 Z = true) (w3 : (Cond.initialized y.cls).before a0 Z = true) (w4 : (Cond.code y b' mx' rt').before a0 Z = true)
    (hy : y.cls ≠ "java/lang/invoke/MethodHandle" ∧ y.cls ≠ "java/lang/invoke/VarHandle") (pd : parseMethodDescriptor y.desc = some ⟨ps, rs⟩) (hll : argsL.length = ps.length) (hst : st = argsL.reverse ++ .ref a :: rest) (hsz : Ls.size = mx) (E : Exa Z h a Cn)
    (hM : oCtr [] l Z a0 EL wd y b' mx' rt' rm (.ref a :: argsL).toArray D' h Q' O') (hD : ∀ x ∈ D', x ∈ D) (hf : rm.frames + 1 ≤ R.frames) (hl : (rest.map fun v => v.category).sum + (mx' + 11) + rm.locals ≤ R.locals) (hk : k + rm.cells = k') (hn : n + rm.slots = n') (hc : k' ≤ R.cells) (hs : n' ≤ R.slots)
    (g : ∀ v h', h.size ≤ h'.size → Q' v h' → ∃ D2 : List Addr, (∀ x ∈ D2, x ∈ D ∨ O' v h' x) ∧ oGo l Z a0 EL wd p e s m args below meth c R own bytes mx rt nm Q O D2 h' k' n' pc' Ls (v.toList ++ rest)) : oGo l Z a0 EL wd p e s m args below meth c R own bytes mx rt nm Q O D h k n pc Ls st := by
  subst hp hst
  intro T locs vm0 k0 I
  have I0 := I
  obtain ⟨⟨hx, hb, hm, hr, hlk, hnm, hE⟩, hT, hO, hF, X, hS, hk0, hZ, hown, hC, hwd, hDk⟩ := I
  have hi' := mvT (s := s.setVm vm0) (args := args) hZ w6
  have hc' := mvT (s := s.setVm vm0) (args := args) hZ w4
  have hs' := mvT (s := s.setVm vm0) (args := args) hZ w5
  have hpr := Cond.privateMethod_at (mvP (s := s.setVm vm0) (args := args) hZ w2)
  obtain ⟨mk, mM, n1, n2, n3, n4⟩ := Cond.instanceMethod_spec hi'
  obtain ⟨mM', cM, n5, -, -, -, -, -, -, n6⟩ := Cond.code_spec n1 hc'
  cases n2.symm.trans n5
  obtain ⟨c2, r2, m2, -, -, n7, -, kP, n8, n9⟩ := Cond.selects_spec hs'
  cases n1.symm.trans n7
  obtain ⟨cell, e1, e2⟩ := E.cell
  obtain ⟨vm₁, X₁, st1⟩ := X.invokevirtual hx hown (mvT (s := s.setVm vm0) hZ w1) n1 n2 n3 n8 n9 hy (a := a) (cell := cell) (by rw [hT]; exact e1) e2 (selectMethod_private n2 (hpr mk mM n1 n2)) n2 n4 n8 n9 (g := mkF m pc Ls (argsL.reverse ++ .ref a :: rest)) rfl (argsL := argsL) (rest := rest) (lenOf pd hll _ n6) rfl (by rw [hb]; exact hd)
  obtain ⟨v, B, X2, hS2, hgr, hpo, hst2⟩ := (oCtr.back (p := p) (e := e) (s := s) (args := args) (below := below) (R := R) (len := 3) (W := (rest.map fun v => v.category).sum) hM hZ w4 w3 hf hl hE hO hC.1 (hDk.sub hD)) m meth c ⟨T.setVm vm₁, locs, k, n⟩ (mkF m pc Ls rest) (.invokevirtual idx) mk (.ref a :: argsL).toArray X₁ rfl (hsz.trans hm.symm) (by show decode c.code pc = _; rw [hb]; exact hd) (by show 2 * 0 + (rest.map fun v => v.category).sum ≤ _; omega) (X₁.named n1) ⟨rfl, hT, by show k + _ ≤ _; omega, by show n + _ ≤ _; omega⟩
  exact oGo.after I0 hk hn (as' := (.ref a :: argsL).toArray) (rest := rest) ⟨v, vm₁, B, X₁.warmed, X2, hS2, hgr, hpo, (st1 _ fun acts => by rw [doInvoke_state]; exact Steps.refl _).trans hst2⟩ g
/-- invokespecial of a superclass's method -/
theorem oGo.invokesuper {idx : Nat} {y : MethodName} {Cn : String} {b' : ByteArray} {mx' : Nat} {rt' rs : Option FieldType} {ps : List FieldType} {rm : Room} {D' : List Addr} {Q' : Option Value → Heap → Prop} {O' : Option Value → Heap → Addr → Prop} {k' n' : Nat} {a : Addr} {argsL rest : List Value}
    (hd : decode bytes pc = .ok (.invokespecial idx, 3)) (hp : pc + 3 = pc') (hni : y.name ≠ "<init>") (w1 : (Cond.methodLink own idx y).before a0 Z = true) (w2 : (Cond.superclass own y.cls).before a0 Z = true) (w6 : (Cond.instanceMethod y).before a0 Z = true) {C5 : String} {y5 z5 : MethodName} (w5 : (Cond.selects C5 y5 z5).before a0 Z = true) (h5 : z5.cls = y.cls) (w3 : (Cond.initialized y.cls).before a0 Z = true) (w4 : (Cond.code y b' mx' rt').before a0 Z = true)
    (hy : y.cls ≠ "java/lang/invoke/MethodHandle" ∧ y.cls ≠ "java/lang/invoke/VarHandle") (pd : parseMethodDescriptor y.desc = some ⟨ps, rs⟩) (hll : argsL.length = ps.length) (hst : st = argsL.reverse ++ .ref a :: rest) (hsz : Ls.size = mx) (E : Exa Z h a Cn)
    (hM : oCtr [] l Z a0 EL wd y b' mx' rt' rm (.ref a :: argsL).toArray D' h Q' O') (hD : ∀ x ∈ D', x ∈ D) (hf : rm.frames + 1 ≤ R.frames) (hl : (rest.map fun v => v.category).sum + (mx' + 11) + rm.locals ≤ R.locals) (hk : k + rm.cells = k') (hn : n + rm.slots = n') (hc : k' ≤ R.cells) (hs : n' ≤ R.slots)
    (g : ∀ v h', h.size ≤ h'.size → Q' v h' → ∃ D2 : List Addr, (∀ x ∈ D2, x ∈ D ∨ O' v h' x) ∧ oGo l Z a0 EL wd p e s m args below meth c R own bytes mx rt nm Q O D2 h' k' n' pc' Ls (v.toList ++ rest)) : oGo l Z a0 EL wd p e s m args below meth c R own bytes mx rt nm Q O D h k n pc Ls st := by
  subst hp hst
  intro T locs vm0 k0 I
  have I0 := I
  obtain ⟨⟨hx, hb, hm, hr, hlk, hnm, hE⟩, hT, hO, hF, X, hS, hk0, hZ, hown, hC, hwd, hDk⟩ := I
  obtain ⟨mk, mM, n1, n2, n3, n4⟩ := Cond.instanceMethod_spec (mvT (s := s.setVm vm0) (args := args) hZ w6)
  obtain ⟨mM', cM, n5, -, -, -, -, -, -, n6⟩ := Cond.code_spec n1 (mvT (s := s.setVm vm0) (args := args) hZ w4)
  cases n2.symm.trans n5
  have hcn := findClass_of_methodNamed n1
  obtain ⟨dk, hdk, -⟩ := Vm.findClass_spec (vm := (s.setVm vm0).vm) hown
  obtain ⟨kp, hkp, -⟩ := Vm.findClass_spec hcn
  have ws := mvT (s := s.setVm vm0) (args := args) hZ w2
  have hown' : (s.setVm vm0).vm.findClass own = some m.cls := hown
  simp only [Cond.before, Cond.holds, Cond.value, hown', hcn, hdk, hkp, Option.bind_some, Option.map_some] at ws
  have ws' : ((dk.super = some mk.cls ∧ dk.kind = .ordinary) ∧ kp.kind = .ordinary) ∧ dk.isInterface = false := by simpa using ws
  obtain ⟨c5, r5, m5, -, -, f5, -, kP, f6, f7⟩ := Cond.selects_spec (mvT (s := s.setVm vm0) (args := args) hZ w5)
  have f8 := findClass_of_methodNamed f5
  rw [h5] at f8
  have f9 : mk.cls = m5.cls := Option.some.inj (hcn.symm.trans f8)
  have hki : kp.isInterface = false := by rw [f9] at hkp; cases hkp.symm.trans f6; exact f7
  have hsame : (Cond.sameMethod y.cls y.cls y.name y.desc).before args (s.setVm vm0) = true := by
    have q := State.methodFound?_of_named n1 hy
    have hcn' : vm0.findClass y.cls = some mk.cls := hcn
    have hkp' : vm0.classes[mk.cls]? = some kp := hkp
    simp [Cond.before, Cond.holds, Cond.value, hcn', q, n1, hkp', hki]
  obtain ⟨cell, kc, e1, e2, e3, e4, -⟩ := E
  obtain ⟨kc', e5, -⟩ := hZ.alike.2.2 _ _ e3
  obtain ⟨vm₁, X₁, st1⟩ := X.invokespecialUp hx (owner := y.cls) hown (mvT (s := s.setVm vm0) hZ w1) hsame n1 n2 n3 n4 hni hdk ws'.2 hcn ws'.1.1.1 (by simp [Vm.isSubclass, Vm.isSubclassAux]) (a := a) (by rw [hT]; exact e1) (fun q e => by rw [e] at e4; cases e4) e5 (g := mkF m pc Ls (argsL.reverse ++ .ref a :: rest)) rfl (argsL := argsL) (rest := rest) (lenOf pd hll _ n6) rfl (by rw [hb]; exact hd)
  obtain ⟨v, B, X2, hS2, hgr, hpo, hst2⟩ := (oCtr.back (p := p) (e := e) (s := s) (args := args) (below := below) (R := R) (len := 3) (W := (rest.map fun v => v.category).sum) hM hZ w4 w3 hf hl hE hO hC.1 (hDk.sub hD)) m meth c ⟨T.setVm vm₁, locs, k, n⟩ (mkF m pc Ls rest) (.invokespecial idx) mk (.ref a :: argsL).toArray X₁ rfl (hsz.trans hm.symm) (by show decode c.code pc = _; rw [hb]; exact hd) (by show 2 * 0 + (rest.map fun v => v.category).sum ≤ _; omega) (X₁.named n1) ⟨rfl, hT, by show k + _ ≤ _; omega, by show n + _ ≤ _; omega⟩
  exact oGo.after I0 hk hn (as' := (.ref a :: argsL).toArray) (rest := rest) ⟨v, vm₁, B, X₁.warmed, X2, hS2, hgr, hpo, st1 _ hst2⟩ g
/-- System.arraycopy between two arrays of bytes, not the same one -/
theorem oGo.arraycopy {idx : Nat} {a b : Addr} {vs ws : List Value} {i j q : Nat} (hd : decode bytes pc = .ok (.invokestatic idx, 3)) (hp : pc + 3 = pc') (w1 : (Cond.methodLink own idx Jvm.Stand.acN).before a0 Z = true) (w2 : (Cond.native Jvm.Stand.acN).before a0 Z = true) (w3 : (Cond.static Jvm.Stand.acN).before a0 Z = true) (w4 : (Cond.initialized "java/lang/System").before a0 Z = true)
    (A : oArr Z h a .byte vs) (B : oArr Z h b .byte ws) (h1 : i + q ≤ vs.length) (h2 : j + q ≤ ws.length) (hsz : Ls.size = mx) (hf : 1 ≤ R.frames) (hlo : (st.map fun v => v.category).sum + (nativeFrameWords "java/lang/System" "arraycopy" 5 + 11) ≤ R.locals) (ha : b ∈ D)
    (g : ∀ h', Keep h h' [b] → h.size ≤ h'.size → oArr Z h' b .byte (ws.take j ++ (vs.drop i).take q ++ ws.drop (j + q)) → oGo l Z a0 EL wd p e s m args below meth c R own bytes mx rt nm Q O D h' k n pc' Ls st) : oGo l Z a0 EL wd p e s m args below meth c R own bytes mx rt nm Q O D h k n pc Ls (.int (Int32.ofNat q) :: .int (Int32.ofNat j) :: .ref b :: .int (Int32.ofNat i) :: .ref a :: st) := by
  subst hp
  have hv : vs.length < 2147483648 := by obtain ⟨_, _, _, z, _⟩ := A; exact z
  have hw : ws.length < 2147483648 := by obtain ⟨_, _, _, z, _⟩ := B; exact z
  obtain ⟨ka, A'⟩ := A.arv (.int 0)
  obtain ⟨kb, B'⟩ := B.arv (.int 0)
  have e1 := own_n32 (i := i) (by omega); have e2 := own_n32 (i := j) (by omega); have e3 := own_n32 (i := q) (by omega)
  have e4 := own_n32 hv; have e5 := own_n32 hw
  have eus : (List.range (Int32.ofNat q).toNatClampNeg).map (fun z => vs.getD ((Int32.ofNat i).toNatClampNeg + z) (.int 0)) = (vs.drop i).take q := by
    rw [e1, e3]
    apply List.ext_getElem?
    intro z
    by_cases hz : z < q
    · rw [List.getElem?_map, List.getElem?_range hz, List.getElem?_take_of_lt hz, List.getElem?_drop]
      have : i + z < vs.length := by omega
      simp [List.getD_eq_getElem?_getD, this]
    · rw [List.getElem?_eq_none (by simpa using hz), List.getElem?_eq_none (by simp; omega)]
  refine oGo.writes (ws := [b]) (P := fun h' => oArr Z h' b .byte (ws.take j ++ (vs.drop i).take q ++ ws.drop (j + q))) (fun T locs vm0 X hT hZ hown hb hx hn hm hF hDz => ?_) (fun x hx => by rw [List.mem_singleton.mp hx]; exact ha) (fun h' K P => g h' K K.1 P)
  obtain ⟨T', h', L', X', hT', hF', K, A2, hst⟩ := cpA (s := s.setVm vm0) X hx hZ hown w1 w2 w3 w4 hT A' B' (sp := Int32.ofNat i) (dp := Int32.ofNat j) (nn := Int32.ofNat q) (us := (vs.drop i).take q) (Or.inl ⟨rfl, rfl⟩) (own_nn (by omega)) (own_nn (by omega)) (own_nn (by omega)) (by rw [e1, e3, e4]; exact h1) (by rw [e2, e3, e5]; exact h2) eus.symm (by rw [e2, e3]; exact h2) hF (hDz b ha) (g := mkF m pc Ls (.int (Int32.ofNat q) :: .int (Int32.ofNat j) :: .ref b :: .int (Int32.ofNat i) :: .ref a :: st)) rfl (hsz.trans hm.symm) rfl (by rw [hb]; exact hd) hf (W := (st.map fun v => v.category).sum) (by show 2 * 0 + _ ≤ _; omega) hlo
  rw [e2, e3] at A2
  refine ⟨T', h', L', X', hT', hF', K, oArr.of_arv A2 ?_, hst⟩
  rw [e5]; simp; omega
/-- checkcast of an object whose class is known -/
theorem oGo.checkcast {idx : Nat} {a : Addr} {Cn K : String} (hd : decode bytes pc = .ok (.checkcast idx, 3)) (hp : pc + 3 = pc') (w : (Cond.classLink own idx K).before a0 Z = true) (F : Ins Z h a K true) (g : oGo l Z a0 EL wd p e s m args below meth c R own bytes mx rt nm Q O D h k n pc' Ls (.ref a :: st)) : oGo l Z a0 EL wd p e s m args below meth c R own bytes mx rt nm Q O D h k n pc Ls (.ref a :: st) := by
  subst hp; exact oGo.move (fun T locs vm0 X hT hZ hown hb hx hn hm => castY (s := s.setVm vm0) X hx hZ hown w hT F (g := mkF m pc Ls (.ref a :: st)) rfl rfl (by rw [hb]; exact hd)) g
theorem oGo.instanceof_y {idx : Nat} {a : Addr} {K : String} (hd : decode bytes pc = .ok (.instanceof idx, 3)) (hp : pc + 3 = pc') (w : (Cond.classLink own idx K).before a0 Z = true) (F : Ins Z h a K true) (g : oGo l Z a0 EL wd p e s m args below meth c R own bytes mx rt nm Q O D h k n pc' Ls (.int 1 :: st)) : oGo l Z a0 EL wd p e s m args below meth c R own bytes mx rt nm Q O D h k n pc Ls (.ref a :: st) := by
  subst hp; exact oGo.move (fun T locs vm0 X hT hZ hown hb hx hn hm => instY (s := s.setVm vm0) X hx hZ hown w hT F (g := mkF m pc Ls (.ref a :: st)) rfl rfl (by rw [hb]; exact hd)) g
end Logic2
/-! ### Latin-1 Strings -/
def oS (Z : State) (h : Heap) (x t : Addr) (cs : List Int32) : Prop := Exa Z h x "java/lang/String" ∧ Fld Z h x "java/lang/String" "value" "[B" (.ref t) ∧ Fld Z h x "java/lang/String" "coder" "B" (.int 0) ∧ oArr Z h t .byte (oI (cs.map lo8)) ∧ ∀ c ∈ cs, ¬ c < 0 ∧ ¬ 255 < c
section Str
variable {Z : State} {h h' : Heap} {x t a : Addr} {cs : List Int32} {ws : List Addr}
theorem oS.ext (S : oS Z h x t cs) (E : Ext h h') : oS Z h' x t cs := ⟨S.1.ext E, S.2.1.ext E, S.2.2.1.ext E, S.2.2.2.1.ext E, S.2.2.2.2⟩
theorem oS.keep (S : oS Z h x t cs) (K : Keep h h' ws) (q : x ∉ ws) (r : t ∉ ws) : oS Z h' x t cs := ⟨S.1.keep K, S.2.1.keep K q, S.2.2.1.keep K q, S.2.2.2.1.keep K r, S.2.2.2.2⟩
theorem oS.other {sl : Nat} {v : Value} (S : oS Z h x t cs) (W : Wr h h' a sl v) (q : x ≠ a) (r : t ≠ a) : oS Z h' x t cs := ⟨S.1.wr W, S.2.1.other W (Or.inl q), S.2.2.1.other W (Or.inl q), S.2.2.2.1.other W r, S.2.2.2.2⟩
theorem oS.len (S : oS Z h x t cs) : cs.length < 2147483648 := by obtain ⟨_, _, _, ⟨_, _, _, q, _⟩, _⟩ := S; simpa using q
end Str
theorem oGo.boolz {l : Launch} {Z : State} {a0 : Array Value} {EL : List (String × Nat)} {wd : Prop} {p : Program} {e : Env} {s : State} {m : MethodId} {args : Array Value} {below : List Frame} {meth : Method} {c : Code} {R : Room} {own : String} {bytes : ByteArray} {mx : Nat} {rt : Option FieldType} {nm : String}
  {Q : Option Value → Heap → Prop} {O : Option Value → Heap → Addr → Prop} {D : List Addr} {h : Heap} {k n : Nat} {pc pc' : Nat} {Ls : Array Slot} {st : List Value} {x : Int32}
  (h1 : decode bytes pc = .ok (.ifCond .eq 7, 3)) (h2 : decode bytes (pc + 3) = .ok (.iconst 1, 1)) (h3 : decode bytes (pc + 4) = .ok (.goto 4, 3)) (h4 : decode bytes (pc + 7) = .ok (.iconst 0, 1)) (hp : pc + 8 = pc')
  (g : ∀ z : Int32, (z = 0 ∨ z = 1) → oGo l Z a0 EL wd p e s m args below meth c R own bytes mx rt nm Q O D h k n pc' Ls (.int z :: st)) : oGo l Z a0 EL wd p e s m args below meth c R own bytes mx rt nm Q O D h k n pc Ls (.int x :: st) := by
  subst hp
  refine oGo.if_eq (pc1 := pc + 3) (pc2 := pc + 7) h1 rfl (by omega) (fun _ => ?_) (fun _ => ?_)
  · exact oGo.iconst (pc' := pc + 8) (v := 0) h4 rfl (by decide) (g 0 (Or.inl rfl))
  · exact oGo.iconst (pc' := pc + 4) (v := 1) h2 rfl (by decide) (oGo.goto (pc' := pc + 8) h3 (by omega) (g 1 (Or.inr rfl)))
def oG (a0 : Array Value) (Z : State) (EL : List (String × Nat)) : Prop := (∀ d ∈ tables_1, d.before a0 Z = true) ∧ EW Z a0 EL ∧ (∀ d ∈ jdkStatics_1, d.before a0 Z = true) ∧ ∀ p ∈ consts_1, p ∈ EL
theorem sCOMPACT {a0 : Array Value} {Z : State} {EL : List (String × Nat)} (hG : oG a0 Z EL) : ∃ z, Sta Z Z.heap "java/lang/String" "COMPACT_STRINGS" "Z" (.int z) ∧ ¬ z = 0 := by
  obtain ⟨z, e⟩ := is_v (Cond.before_iff.mp (hG.2.2.1 _ (List.mem_of_getElem? (i := 1) rfl)))
  exact ⟨z, Sta.start e (Or.inl (hG.2.2.1 _ (List.mem_of_getElem? (i := 0) rfl))), gotF (Cond.eq_ints e (Term.int_eval (0))) (not_v (Cond.before_iff.mp (hG.2.2.1 _ (List.mem_of_getElem? (i := 2) rfl))))⟩
theorem sSIOOBE {a0 : Array Value} {Z : State} {EL : List (String × Nat)} (hG : oG a0 Z EL) : ∃ v, Sta Z Z.heap "jdk/internal/util/Preconditions" "SIOOBE_FORMATTER" "Ljava/util/function/BiFunction;" v ∧ v.isRef = true := by
  obtain ⟨v, e, r⟩ := isR_v (Cond.before_iff.mp (hG.2.2.1 _ (List.mem_of_getElem? (i := 8) rfl)))
  exact ⟨v, Sta.start e (Or.inl (hG.2.2.1 _ (List.mem_of_getElem? (i := 7) rfl))), r⟩
theorem w0 {a0 : Array Value} {Z : State} {EL : List (String × Nat)} (hG : oG a0 Z EL) : ((Jvm.Cond.arrayClass Jvm.ClassFile.FieldType.char)).before a0 Z = true := hG.1 _ (List.mem_of_getElem? (i := 0) rfl)
theorem w1 {a0 : Array Value} {Z : State} {EL : List (String × Nat)} (hG : oG a0 Z EL) : ((Jvm.Cond.methodLink "com/example/gated_claim/gatedclaim/idempotency/IdempotencyKeyParsePinLaw" (7 : Nat) ({ cls := "com/example/gated_claim/gatedclaim/idempotency/IdempotencyKeyParsePinLaw", name := "ws", desc := "(II)C" } : Jvm.MethodName))).before a0 Z = true := hG.1 _ (List.mem_of_getElem? (i := 1) rfl)
theorem w2 {a0 : Array Value} {Z : State} {EL : List (String × Nat)} (hG : oG a0 Z EL) : ((Jvm.Cond.static ({ cls := "com/example/gated_claim/gatedclaim/idempotency/IdempotencyKeyParsePinLaw", name := "ws", desc := "(II)C" } : Jvm.MethodName))).before a0 Z = true := hG.1 _ (List.mem_of_getElem? (i := 2) rfl)
theorem w3 {a0 : Array Value} {Z : State} {EL : List (String × Nat)} (hG : oG a0 Z EL) : ((Jvm.Cond.initialized "com/example/gated_claim/gatedclaim/idempotency/IdempotencyKeyParsePinLaw")).before a0 Z = true := hG.1 _ (List.mem_of_getElem? (i := 3) rfl)
theorem w4 {a0 : Array Value} {Z : State} {EL : List (String × Nat)} (hG : oG a0 Z EL) : ((Jvm.Cond.code ({ cls := "com/example/gated_claim/gatedclaim/idempotency/IdempotencyKeyParsePinLaw", name := "ws", desc := "(II)C" } : Jvm.MethodName) method_3_code (2 : Nat) (Option.some Jvm.ClassFile.FieldType.char))).before a0 Z = true := hG.1 _ (List.mem_of_getElem? (i := 4) rfl)
theorem w5 {a0 : Array Value} {Z : State} {EL : List (String × Nat)} (hG : oG a0 Z EL) : ((Jvm.Cond.constant "com/example/gated_claim/gatedclaim/idempotency/IdempotencyKeyParsePinLaw" (13 : Nat) (2147483647 : Int32))).before a0 Z = true := hG.1 _ (List.mem_of_getElem? (i := 5) rfl)
theorem w6 {a0 : Array Value} {Z : State} {EL : List (String × Nat)} (hG : oG a0 Z EL) : ((Jvm.Cond.methodLink "com/example/gated_claim/gatedclaim/idempotency/IdempotencyKeyParsePinLaw" (22 : Nat) ({ cls := "com/example/gated_claim/gatedclaim/idempotency/IdempotencyKeyParsePinLaw", name := "bareChar", desc := "(I)C" } : Jvm.MethodName))).before a0 Z = true := hG.1 _ (List.mem_of_getElem? (i := 6) rfl)
theorem w7 {a0 : Array Value} {Z : State} {EL : List (String × Nat)} (hG : oG a0 Z EL) : ((Jvm.Cond.static ({ cls := "com/example/gated_claim/gatedclaim/idempotency/IdempotencyKeyParsePinLaw", name := "bareChar", desc := "(I)C" } : Jvm.MethodName))).before a0 Z = true := hG.1 _ (List.mem_of_getElem? (i := 7) rfl)
theorem w8 {a0 : Array Value} {Z : State} {EL : List (String × Nat)} (hG : oG a0 Z EL) : ((Jvm.Cond.code ({ cls := "com/example/gated_claim/gatedclaim/idempotency/IdempotencyKeyParsePinLaw", name := "bareChar", desc := "(I)C" } : Jvm.MethodName) method_7_code (2 : Nat) (Option.some Jvm.ClassFile.FieldType.char))).before a0 Z = true := hG.1 _ (List.mem_of_getElem? (i := 8) rfl)
theorem w9 {a0 : Array Value} {Z : State} {EL : List (String × Nat)} (hG : oG a0 Z EL) : ((Jvm.Cond.classLink "com/example/gated_claim/gatedclaim/idempotency/IdempotencyKeyParsePinLaw" (25 : Nat) "java/lang/String")).before a0 Z = true := hG.1 _ (List.mem_of_getElem? (i := 9) rfl)
theorem w10 {a0 : Array Value} {Z : State} {EL : List (String × Nat)} (hG : oG a0 Z EL) : ((Jvm.Cond.instantiable "java/lang/String" (4 : Nat))).before a0 Z = true := hG.1 _ (List.mem_of_getElem? (i := 10) rfl)
theorem w11 {a0 : Array Value} {Z : State} {EL : List (String × Nat)} (hG : oG a0 Z EL) : ((Jvm.Cond.initialized "java/lang/String")).before a0 Z = true := hG.1 _ (List.mem_of_getElem? (i := 11) rfl)
theorem w12 {a0 : Array Value} {Z : State} {EL : List (String × Nat)} (hG : oG a0 Z EL) : ((Jvm.Cond.methodLink "com/example/gated_claim/gatedclaim/idempotency/IdempotencyKeyParsePinLaw" (27 : Nat) ({ cls := "java/lang/String", name := "<init>", desc := "([C)V" } : Jvm.MethodName))).before a0 Z = true := hG.1 _ (List.mem_of_getElem? (i := 12) rfl)
theorem w13 {a0 : Array Value} {Z : State} {EL : List (String × Nat)} (hG : oG a0 Z EL) : ((Jvm.Cond.instanceMethod ({ cls := "java/lang/String", name := "<init>", desc := "([C)V" } : Jvm.MethodName))).before a0 Z = true := hG.1 _ (List.mem_of_getElem? (i := 13) rfl)
theorem w14 {a0 : Array Value} {Z : State} {EL : List (String × Nat)} (hG : oG a0 Z EL) : ((Jvm.Cond.code ({ cls := "java/lang/String", name := "<init>", desc := "([C)V" } : Jvm.MethodName) jdk_42_method_3_code (2 : Nat) (Option.none : Option Jvm.ClassFile.FieldType))).before a0 Z = true := hG.1 _ (List.mem_of_getElem? (i := 14) rfl)
theorem w15 {a0 : Array Value} {Z : State} {EL : List (String × Nat)} (hG : oG a0 Z EL) : ((Jvm.Cond.methodLink "java/lang/String" (27 : Nat) ({ cls := "java/lang/String", name := "<init>", desc := "([CIILjava/lang/Void;)V" } : Jvm.MethodName))).before a0 Z = true := hG.1 _ (List.mem_of_getElem? (i := 15) rfl)
theorem w16 {a0 : Array Value} {Z : State} {EL : List (String × Nat)} (hG : oG a0 Z EL) : ((Jvm.Cond.instanceMethod ({ cls := "java/lang/String", name := "<init>", desc := "([CIILjava/lang/Void;)V" } : Jvm.MethodName))).before a0 Z = true := hG.1 _ (List.mem_of_getElem? (i := 16) rfl)
theorem w18 {a0 : Array Value} {Z : State} {EL : List (String × Nat)} (hG : oG a0 Z EL) : ((Jvm.Cond.code ({ cls := "java/lang/String", name := "<init>", desc := "([CIILjava/lang/Void;)V" } : Jvm.MethodName) jdk_42_method_149_code (6 : Nat) (Option.none : Option Jvm.ClassFile.FieldType))).before a0 Z = true := hG.1 _ (List.mem_of_getElem? (i := 18) rfl)
theorem w19 {a0 : Array Value} {Z : State} {EL : List (String × Nat)} (hG : oG a0 Z EL) : ((Jvm.Cond.methodLink "java/lang/String" (1 : Nat) ({ cls := "java/lang/Object", name := "<init>", desc := "()V" } : Jvm.MethodName))).before a0 Z = true := hG.1 _ (List.mem_of_getElem? (i := 19) rfl)
theorem w20 {a0 : Array Value} {Z : State} {EL : List (String × Nat)} (hG : oG a0 Z EL) : ((Jvm.Cond.instanceMethod ({ cls := "java/lang/Object", name := "<init>", desc := "()V" } : Jvm.MethodName))).before a0 Z = true := hG.1 _ (List.mem_of_getElem? (i := 20) rfl)
theorem w21 {a0 : Array Value} {Z : State} {EL : List (String × Nat)} (hG : oG a0 Z EL) : ((Jvm.Cond.code ({ cls := "java/lang/Object", name := "<init>", desc := "()V" } : Jvm.MethodName) object_method_1_code (1 : Nat) (Option.none : Option Jvm.ClassFile.FieldType))).before a0 Z = true := hG.1 _ (List.mem_of_getElem? (i := 21) rfl)
theorem w22 {a0 : Array Value} {Z : State} {EL : List (String × Nat)} (hG : oG a0 Z EL) : ((Jvm.Cond.fieldLink "java/lang/String" (38 : Nat) "java/lang/String" "COMPACT_STRINGS" "Z")).before a0 Z = true := hG.1 _ (List.mem_of_getElem? (i := 22) rfl)
theorem w23 {a0 : Array Value} {Z : State} {EL : List (String × Nat)} (hG : oG a0 Z EL) : ((Jvm.Cond.methodLink "java/lang/String" (177 : Nat) ({ cls := "java/lang/StringUTF16", name := "compress", desc := "([CII)[B" } : Jvm.MethodName))).before a0 Z = true := hG.1 _ (List.mem_of_getElem? (i := 23) rfl)
theorem w24 {a0 : Array Value} {Z : State} {EL : List (String × Nat)} (hG : oG a0 Z EL) : ((Jvm.Cond.static ({ cls := "java/lang/StringUTF16", name := "compress", desc := "([CII)[B" } : Jvm.MethodName))).before a0 Z = true := hG.1 _ (List.mem_of_getElem? (i := 24) rfl)
theorem w25 {a0 : Array Value} {Z : State} {EL : List (String × Nat)} (hG : oG a0 Z EL) : ((Jvm.Cond.initialized "java/lang/StringUTF16")).before a0 Z = true := hG.1 _ (List.mem_of_getElem? (i := 25) rfl)
theorem w26 {a0 : Array Value} {Z : State} {EL : List (String × Nat)} (hG : oG a0 Z EL) : ((Jvm.Cond.code ({ cls := "java/lang/StringUTF16", name := "compress", desc := "([CII)[B" } : Jvm.MethodName) jdk_52_method_16_code (6 : Nat) (Option.some (Jvm.ClassFile.FieldType.array Jvm.ClassFile.FieldType.byte)))).before a0 Z = true := hG.1 _ (List.mem_of_getElem? (i := 26) rfl)
theorem w27 {a0 : Array Value} {Z : State} {EL : List (String × Nat)} (hG : oG a0 Z EL) : ((Jvm.Cond.arrayClass Jvm.ClassFile.FieldType.byte)).before a0 Z = true := hG.1 _ (List.mem_of_getElem? (i := 27) rfl)
theorem w28 {a0 : Array Value} {Z : State} {EL : List (String × Nat)} (hG : oG a0 Z EL) : ((Jvm.Cond.methodLink "java/lang/StringUTF16" (115 : Nat) ({ cls := "java/lang/StringUTF16", name := "compress", desc := "([CI[BII)I" } : Jvm.MethodName))).before a0 Z = true := hG.1 _ (List.mem_of_getElem? (i := 28) rfl)
theorem w29 {a0 : Array Value} {Z : State} {EL : List (String × Nat)} (hG : oG a0 Z EL) : ((Jvm.Cond.static ({ cls := "java/lang/StringUTF16", name := "compress", desc := "([CI[BII)I" } : Jvm.MethodName))).before a0 Z = true := hG.1 _ (List.mem_of_getElem? (i := 29) rfl)
theorem w30 {a0 : Array Value} {Z : State} {EL : List (String × Nat)} (hG : oG a0 Z EL) : ((Jvm.Cond.code ({ cls := "java/lang/StringUTF16", name := "compress", desc := "([CI[BII)I" } : Jvm.MethodName) jdk_52_method_21_code (7 : Nat) (Option.some Jvm.ClassFile.FieldType.int))).before a0 Z = true := hG.1 _ (List.mem_of_getElem? (i := 30) rfl)
theorem w31 {a0 : Array Value} {Z : State} {EL : List (String × Nat)} (hG : oG a0 Z EL) : ((Jvm.Cond.methodLink "java/lang/String" (47 : Nat) ({ cls := "java/lang/StringUTF16", name := "coderFromArrayLen", desc := "([BI)B" } : Jvm.MethodName))).before a0 Z = true := hG.1 _ (List.mem_of_getElem? (i := 31) rfl)
theorem w32 {a0 : Array Value} {Z : State} {EL : List (String × Nat)} (hG : oG a0 Z EL) : ((Jvm.Cond.static ({ cls := "java/lang/StringUTF16", name := "coderFromArrayLen", desc := "([BI)B" } : Jvm.MethodName))).before a0 Z = true := hG.1 _ (List.mem_of_getElem? (i := 32) rfl)
theorem w33 {a0 : Array Value} {Z : State} {EL : List (String × Nat)} (hG : oG a0 Z EL) : ((Jvm.Cond.code ({ cls := "java/lang/StringUTF16", name := "coderFromArrayLen", desc := "([BI)B" } : Jvm.MethodName) jdk_52_method_15_code (2 : Nat) (Option.some Jvm.ClassFile.FieldType.byte))).before a0 Z = true := hG.1 _ (List.mem_of_getElem? (i := 33) rfl)
theorem w34 {a0 : Array Value} {Z : State} {EL : List (String × Nat)} (hG : oG a0 Z EL) : ((Jvm.Cond.fieldLink "java/lang/String" (15 : Nat) "java/lang/String" "coder" "B")).before a0 Z = true := hG.1 _ (List.mem_of_getElem? (i := 34) rfl)
theorem w35 {a0 : Array Value} {Z : State} {EL : List (String × Nat)} (hG : oG a0 Z EL) : ((Jvm.Cond.laysFinal "java/lang/String" "java/lang/String" "coder" "B")).before a0 Z = true := hG.1 _ (List.mem_of_getElem? (i := 35) rfl)
theorem w36 {a0 : Array Value} {Z : State} {EL : List (String × Nat)} (hG : oG a0 Z EL) : ((Jvm.Cond.fieldLink "java/lang/String" (9 : Nat) "java/lang/String" "value" "[B")).before a0 Z = true := hG.1 _ (List.mem_of_getElem? (i := 36) rfl)
theorem w37 {a0 : Array Value} {Z : State} {EL : List (String × Nat)} (hG : oG a0 Z EL) : ((Jvm.Cond.laysFinal "java/lang/String" "java/lang/String" "value" "[B")).before a0 Z = true := hG.1 _ (List.mem_of_getElem? (i := 37) rfl)
theorem w38 {a0 : Array Value} {Z : State} {EL : List (String × Nat)} (hG : oG a0 Z EL) : ((Jvm.Cond.methodLink "com/example/gated_claim/gatedclaim/idempotency/IdempotencyKeyParsePinLaw" (30 : Nat) ({ cls := "com/example/gated_claim/gatedclaim/idempotency/IdempotencyKey", name := "parse", desc := "(Ljava/lang/String;)Lcom/example/gated_claim/gatedclaim/idempotency/IdempotencyKey;" } : Jvm.MethodName))).before a0 Z = true := hG.1 _ (List.mem_of_getElem? (i := 38) rfl)
theorem w39 {a0 : Array Value} {Z : State} {EL : List (String × Nat)} (hG : oG a0 Z EL) : ((Jvm.Cond.static ({ cls := "com/example/gated_claim/gatedclaim/idempotency/IdempotencyKey", name := "parse", desc := "(Ljava/lang/String;)Lcom/example/gated_claim/gatedclaim/idempotency/IdempotencyKey;" } : Jvm.MethodName))).before a0 Z = true := hG.1 _ (List.mem_of_getElem? (i := 39) rfl)
theorem w40 {a0 : Array Value} {Z : State} {EL : List (String × Nat)} (hG : oG a0 Z EL) : ((Jvm.Cond.initialized "com/example/gated_claim/gatedclaim/idempotency/IdempotencyKey")).before a0 Z = true := hG.1 _ (List.mem_of_getElem? (i := 40) rfl)
theorem w41 {a0 : Array Value} {Z : State} {EL : List (String × Nat)} (hG : oG a0 Z EL) : ((Jvm.Cond.code ({ cls := "com/example/gated_claim/gatedclaim/idempotency/IdempotencyKey", name := "parse", desc := "(Ljava/lang/String;)Lcom/example/gated_claim/gatedclaim/idempotency/IdempotencyKey;" } : Jvm.MethodName) prog_2_method_2_code (2 : Nat) (Option.some (Jvm.ClassFile.FieldType.object "com/example/gated_claim/gatedclaim/idempotency/IdempotencyKey")))).before a0 Z = true := hG.1 _ (List.mem_of_getElem? (i := 41) rfl)
theorem w42 {a0 : Array Value} {Z : State} {EL : List (String × Nat)} (hG : oG a0 Z EL) : ((Jvm.Cond.stringLink "com/example/gated_claim/gatedclaim/idempotency/IdempotencyKey" (47 : Nat) "fieldValue")).before a0 Z = true := hG.1 _ (List.mem_of_getElem? (i := 42) rfl)
theorem w43 {a0 : Array Value} {Z : State} {EL : List (String × Nat)} (hG : oG a0 Z EL) : ((Jvm.Cond.soleField "java/lang/String" "value")).before a0 Z = true := hG.1 _ (List.mem_of_getElem? (i := 43) rfl)
theorem w44 {a0 : Array Value} {Z : State} {EL : List (String × Nat)} (hG : oG a0 Z EL) : ((Jvm.Cond.soleField "java/lang/String" "coder")).before a0 Z = true := hG.1 _ (List.mem_of_getElem? (i := 44) rfl)
theorem w45 {a0 : Array Value} {Z : State} {EL : List (String × Nat)} (hG : oG a0 Z EL) : ((Jvm.Cond.methodLink "com/example/gated_claim/gatedclaim/idempotency/IdempotencyKey" (9 : Nat) ({ cls := "java/util/Objects", name := "requireNonNull", desc := "(Ljava/lang/Object;Ljava/lang/String;)Ljava/lang/Object;" } : Jvm.MethodName))).before a0 Z = true := hG.1 _ (List.mem_of_getElem? (i := 45) rfl)
theorem w46 {a0 : Array Value} {Z : State} {EL : List (String × Nat)} (hG : oG a0 Z EL) : ((Jvm.Cond.static ({ cls := "java/util/Objects", name := "requireNonNull", desc := "(Ljava/lang/Object;Ljava/lang/String;)Ljava/lang/Object;" } : Jvm.MethodName))).before a0 Z = true := hG.1 _ (List.mem_of_getElem? (i := 46) rfl)
theorem w47 {a0 : Array Value} {Z : State} {EL : List (String × Nat)} (hG : oG a0 Z EL) : ((Jvm.Cond.initialized "java/util/Objects")).before a0 Z = true := hG.1 _ (List.mem_of_getElem? (i := 47) rfl)
theorem w48 {a0 : Array Value} {Z : State} {EL : List (String × Nat)} (hG : oG a0 Z EL) : ((Jvm.Cond.code ({ cls := "java/util/Objects", name := "requireNonNull", desc := "(Ljava/lang/Object;Ljava/lang/String;)Ljava/lang/Object;" } : Jvm.MethodName) jdk_31_method_11_code (2 : Nat) (Option.some (Jvm.ClassFile.FieldType.object "java/lang/Object")))).before a0 Z = true := hG.1 _ (List.mem_of_getElem? (i := 48) rfl)
theorem w49 {a0 : Array Value} {Z : State} {EL : List (String × Nat)} (hG : oG a0 Z EL) : ((Jvm.Cond.classLink "com/example/gated_claim/gatedclaim/idempotency/IdempotencyKey" (16 : Nat) "java/lang/String")).before a0 Z = true := hG.1 _ (List.mem_of_getElem? (i := 49) rfl)
theorem w50 {a0 : Array Value} {Z : State} {EL : List (String × Nat)} (hG : oG a0 Z EL) : ((Jvm.Cond.methodLink "com/example/gated_claim/gatedclaim/idempotency/IdempotencyKey" (49 : Nat) ({ cls := "com/example/gated_claim/gatedclaim/idempotency/IdempotencyKey", name := "stripOptionalWhitespace", desc := "(Ljava/lang/String;)Ljava/lang/String;" } : Jvm.MethodName))).before a0 Z = true := hG.1 _ (List.mem_of_getElem? (i := 50) rfl)
theorem w51 {a0 : Array Value} {Z : State} {EL : List (String × Nat)} (hG : oG a0 Z EL) : ((Jvm.Cond.static ({ cls := "com/example/gated_claim/gatedclaim/idempotency/IdempotencyKey", name := "stripOptionalWhitespace", desc := "(Ljava/lang/String;)Ljava/lang/String;" } : Jvm.MethodName))).before a0 Z = true := hG.1 _ (List.mem_of_getElem? (i := 51) rfl)
theorem w52 {a0 : Array Value} {Z : State} {EL : List (String × Nat)} (hG : oG a0 Z EL) : ((Jvm.Cond.code ({ cls := "com/example/gated_claim/gatedclaim/idempotency/IdempotencyKey", name := "stripOptionalWhitespace", desc := "(Ljava/lang/String;)Ljava/lang/String;" } : Jvm.MethodName) prog_2_method_4_code (3 : Nat) (Option.some (Jvm.ClassFile.FieldType.object "java/lang/String")))).before a0 Z = true := hG.1 _ (List.mem_of_getElem? (i := 52) rfl)
theorem w53 {a0 : Array Value} {Z : State} {EL : List (String × Nat)} (hG : oG a0 Z EL) : ((Jvm.Cond.methodLink "com/example/gated_claim/gatedclaim/idempotency/IdempotencyKey" (28 : Nat) ({ cls := "java/lang/String", name := "length", desc := "()I" } : Jvm.MethodName))).before a0 Z = true := hG.1 _ (List.mem_of_getElem? (i := 53) rfl)
theorem w54 {a0 : Array Value} {Z : State} {EL : List (String × Nat)} (hG : oG a0 Z EL) : ((Jvm.Cond.declares ({ cls := "java/lang/String", name := "length", desc := "()I" } : Jvm.MethodName))).before a0 Z = true := hG.1 _ (List.mem_of_getElem? (i := 54) rfl)
theorem w55 {a0 : Array Value} {Z : State} {EL : List (String × Nat)} (hG : oG a0 Z EL) : ((Jvm.Cond.instanceMethod ({ cls := "java/lang/String", name := "length", desc := "()I" } : Jvm.MethodName))).before a0 Z = true := hG.1 _ (List.mem_of_getElem? (i := 55) rfl)
theorem w56 {a0 : Array Value} {Z : State} {EL : List (String × Nat)} (hG : oG a0 Z EL) : ((Jvm.Cond.selects "java/lang/String" ({ cls := "java/lang/String", name := "length", desc := "()I" } : Jvm.MethodName) ({ cls := "java/lang/String", name := "length", desc := "()I" } : Jvm.MethodName))).before a0 Z = true := hG.1 _ (List.mem_of_getElem? (i := 56) rfl)
theorem w57 {a0 : Array Value} {Z : State} {EL : List (String × Nat)} (hG : oG a0 Z EL) : ((Jvm.Cond.code ({ cls := "java/lang/String", name := "length", desc := "()I" } : Jvm.MethodName) jdk_42_method_54_code (1 : Nat) (Option.some Jvm.ClassFile.FieldType.int))).before a0 Z = true := hG.1 _ (List.mem_of_getElem? (i := 57) rfl)
theorem w58 {a0 : Array Value} {Z : State} {EL : List (String × Nat)} (hG : oG a0 Z EL) : ((Jvm.Cond.methodLink "java/lang/String" (335 : Nat) ({ cls := "java/lang/String", name := "coder", desc := "()B" } : Jvm.MethodName))).before a0 Z = true := hG.1 _ (List.mem_of_getElem? (i := 58) rfl)
theorem w59 {a0 : Array Value} {Z : State} {EL : List (String × Nat)} (hG : oG a0 Z EL) : ((Jvm.Cond.declares ({ cls := "java/lang/String", name := "coder", desc := "()B" } : Jvm.MethodName))).before a0 Z = true := hG.1 _ (List.mem_of_getElem? (i := 59) rfl)
theorem w60 {a0 : Array Value} {Z : State} {EL : List (String × Nat)} (hG : oG a0 Z EL) : ((Jvm.Cond.instanceMethod ({ cls := "java/lang/String", name := "coder", desc := "()B" } : Jvm.MethodName))).before a0 Z = true := hG.1 _ (List.mem_of_getElem? (i := 60) rfl)
theorem w61 {a0 : Array Value} {Z : State} {EL : List (String × Nat)} (hG : oG a0 Z EL) : ((Jvm.Cond.selects "java/lang/String" ({ cls := "java/lang/String", name := "coder", desc := "()B" } : Jvm.MethodName) ({ cls := "java/lang/String", name := "coder", desc := "()B" } : Jvm.MethodName))).before a0 Z = true := hG.1 _ (List.mem_of_getElem? (i := 61) rfl)
theorem w62 {a0 : Array Value} {Z : State} {EL : List (String × Nat)} (hG : oG a0 Z EL) : ((Jvm.Cond.code ({ cls := "java/lang/String", name := "coder", desc := "()B" } : Jvm.MethodName) jdk_42_method_152_code (1 : Nat) (Option.some Jvm.ClassFile.FieldType.byte))).before a0 Z = true := hG.1 _ (List.mem_of_getElem? (i := 62) rfl)
theorem w63 {a0 : Array Value} {Z : State} {EL : List (String × Nat)} (hG : oG a0 Z EL) : ((Jvm.Cond.methodLink "com/example/gated_claim/gatedclaim/idempotency/IdempotencyKey" (36 : Nat) ({ cls := "java/lang/String", name := "charAt", desc := "(I)C" } : Jvm.MethodName))).before a0 Z = true := hG.1 _ (List.mem_of_getElem? (i := 63) rfl)
theorem w64 {a0 : Array Value} {Z : State} {EL : List (String × Nat)} (hG : oG a0 Z EL) : ((Jvm.Cond.declares ({ cls := "java/lang/String", name := "charAt", desc := "(I)C" } : Jvm.MethodName))).before a0 Z = true := hG.1 _ (List.mem_of_getElem? (i := 64) rfl)
theorem w65 {a0 : Array Value} {Z : State} {EL : List (String × Nat)} (hG : oG a0 Z EL) : ((Jvm.Cond.instanceMethod ({ cls := "java/lang/String", name := "charAt", desc := "(I)C" } : Jvm.MethodName))).before a0 Z = true := hG.1 _ (List.mem_of_getElem? (i := 65) rfl)
theorem w66 {a0 : Array Value} {Z : State} {EL : List (String × Nat)} (hG : oG a0 Z EL) : ((Jvm.Cond.selects "java/lang/String" ({ cls := "java/lang/String", name := "charAt", desc := "(I)C" } : Jvm.MethodName) ({ cls := "java/lang/String", name := "charAt", desc := "(I)C" } : Jvm.MethodName))).before a0 Z = true := hG.1 _ (List.mem_of_getElem? (i := 66) rfl)
theorem w67 {a0 : Array Value} {Z : State} {EL : List (String × Nat)} (hG : oG a0 Z EL) : ((Jvm.Cond.code ({ cls := "java/lang/String", name := "charAt", desc := "(I)C" } : Jvm.MethodName) jdk_42_method_56_code (2 : Nat) (Option.some Jvm.ClassFile.FieldType.char))).before a0 Z = true := hG.1 _ (List.mem_of_getElem? (i := 67) rfl)
theorem w68 {a0 : Array Value} {Z : State} {EL : List (String × Nat)} (hG : oG a0 Z EL) : ((Jvm.Cond.methodLink "java/lang/String" (492 : Nat) ({ cls := "java/lang/String", name := "isLatin1", desc := "()Z" } : Jvm.MethodName))).before a0 Z = true := hG.1 _ (List.mem_of_getElem? (i := 68) rfl)
theorem w69 {a0 : Array Value} {Z : State} {EL : List (String × Nat)} (hG : oG a0 Z EL) : ((Jvm.Cond.declares ({ cls := "java/lang/String", name := "isLatin1", desc := "()Z" } : Jvm.MethodName))).before a0 Z = true := hG.1 _ (List.mem_of_getElem? (i := 69) rfl)
theorem w70 {a0 : Array Value} {Z : State} {EL : List (String × Nat)} (hG : oG a0 Z EL) : ((Jvm.Cond.instanceMethod ({ cls := "java/lang/String", name := "isLatin1", desc := "()Z" } : Jvm.MethodName))).before a0 Z = true := hG.1 _ (List.mem_of_getElem? (i := 70) rfl)
theorem w71 {a0 : Array Value} {Z : State} {EL : List (String × Nat)} (hG : oG a0 Z EL) : ((Jvm.Cond.selects "java/lang/String" ({ cls := "java/lang/String", name := "isLatin1", desc := "()Z" } : Jvm.MethodName) ({ cls := "java/lang/String", name := "isLatin1", desc := "()Z" } : Jvm.MethodName))).before a0 Z = true := hG.1 _ (List.mem_of_getElem? (i := 71) rfl)
theorem w72 {a0 : Array Value} {Z : State} {EL : List (String × Nat)} (hG : oG a0 Z EL) : ((Jvm.Cond.code ({ cls := "java/lang/String", name := "isLatin1", desc := "()Z" } : Jvm.MethodName) jdk_42_method_154_code (1 : Nat) (Option.some Jvm.ClassFile.FieldType.boolean))).before a0 Z = true := hG.1 _ (List.mem_of_getElem? (i := 72) rfl)
theorem w73 {a0 : Array Value} {Z : State} {EL : List (String × Nat)} (hG : oG a0 Z EL) : ((Jvm.Cond.methodLink "java/lang/String" (495 : Nat) ({ cls := "java/lang/StringLatin1", name := "charAt", desc := "([BI)C" } : Jvm.MethodName))).before a0 Z = true := hG.1 _ (List.mem_of_getElem? (i := 73) rfl)
theorem w74 {a0 : Array Value} {Z : State} {EL : List (String × Nat)} (hG : oG a0 Z EL) : ((Jvm.Cond.static ({ cls := "java/lang/StringLatin1", name := "charAt", desc := "([BI)C" } : Jvm.MethodName))).before a0 Z = true := hG.1 _ (List.mem_of_getElem? (i := 74) rfl)
theorem w75 {a0 : Array Value} {Z : State} {EL : List (String × Nat)} (hG : oG a0 Z EL) : ((Jvm.Cond.initialized "java/lang/StringLatin1")).before a0 Z = true := hG.1 _ (List.mem_of_getElem? (i := 75) rfl)
theorem w76 {a0 : Array Value} {Z : State} {EL : List (String × Nat)} (hG : oG a0 Z EL) : ((Jvm.Cond.code ({ cls := "java/lang/StringLatin1", name := "charAt", desc := "([BI)C" } : Jvm.MethodName) jdk_43_method_2_code (2 : Nat) (Option.some Jvm.ClassFile.FieldType.char))).before a0 Z = true := hG.1 _ (List.mem_of_getElem? (i := 76) rfl)
theorem w77 {a0 : Array Value} {Z : State} {EL : List (String × Nat)} (hG : oG a0 Z EL) : ((Jvm.Cond.methodLink "java/lang/StringLatin1" (9 : Nat) ({ cls := "java/lang/String", name := "checkIndex", desc := "(II)V" } : Jvm.MethodName))).before a0 Z = true := hG.1 _ (List.mem_of_getElem? (i := 77) rfl)
theorem w78 {a0 : Array Value} {Z : State} {EL : List (String × Nat)} (hG : oG a0 Z EL) : ((Jvm.Cond.static ({ cls := "java/lang/String", name := "checkIndex", desc := "(II)V" } : Jvm.MethodName))).before a0 Z = true := hG.1 _ (List.mem_of_getElem? (i := 78) rfl)
theorem w79 {a0 : Array Value} {Z : State} {EL : List (String × Nat)} (hG : oG a0 Z EL) : ((Jvm.Cond.code ({ cls := "java/lang/String", name := "checkIndex", desc := "(II)V" } : Jvm.MethodName) jdk_42_method_155_code (2 : Nat) (Option.none : Option Jvm.ClassFile.FieldType))).before a0 Z = true := hG.1 _ (List.mem_of_getElem? (i := 79) rfl)
theorem w80 {a0 : Array Value} {Z : State} {EL : List (String × Nat)} (hG : oG a0 Z EL) : ((Jvm.Cond.fieldLink "java/lang/String" (1053 : Nat) "jdk/internal/util/Preconditions" "SIOOBE_FORMATTER" "Ljava/util/function/BiFunction;")).before a0 Z = true := hG.1 _ (List.mem_of_getElem? (i := 80) rfl)
theorem w81 {a0 : Array Value} {Z : State} {EL : List (String × Nat)} (hG : oG a0 Z EL) : ((Jvm.Cond.initialized "jdk/internal/util/Preconditions")).before a0 Z = true := hG.1 _ (List.mem_of_getElem? (i := 81) rfl)
theorem w82 {a0 : Array Value} {Z : State} {EL : List (String × Nat)} (hG : oG a0 Z EL) : ((Jvm.Cond.methodLink "java/lang/String" (1059 : Nat) ({ cls := "jdk/internal/util/Preconditions", name := "checkIndex", desc := "(IILjava/util/function/BiFunction;)I" } : Jvm.MethodName))).before a0 Z = true := hG.1 _ (List.mem_of_getElem? (i := 82) rfl)
theorem w83 {a0 : Array Value} {Z : State} {EL : List (String × Nat)} (hG : oG a0 Z EL) : ((Jvm.Cond.static ({ cls := "jdk/internal/util/Preconditions", name := "checkIndex", desc := "(IILjava/util/function/BiFunction;)I" } : Jvm.MethodName))).before a0 Z = true := hG.1 _ (List.mem_of_getElem? (i := 83) rfl)
theorem w84 {a0 : Array Value} {Z : State} {EL : List (String × Nat)} (hG : oG a0 Z EL) : ((Jvm.Cond.code ({ cls := "jdk/internal/util/Preconditions", name := "checkIndex", desc := "(IILjava/util/function/BiFunction;)I" } : Jvm.MethodName) jdk_41_method_11_code (3 : Nat) (Option.some Jvm.ClassFile.FieldType.int))).before a0 Z = true := hG.1 _ (List.mem_of_getElem? (i := 84) rfl)
theorem w85 {a0 : Array Value} {Z : State} {EL : List (String × Nat)} (hG : oG a0 Z EL) : ((Jvm.Cond.methodLink "com/example/gated_claim/gatedclaim/idempotency/IdempotencyKey" (88 : Nat) ({ cls := "com/example/gated_claim/gatedclaim/idempotency/IdempotencyKey", name := "isOptionalWhitespace", desc := "(C)Z" } : Jvm.MethodName))).before a0 Z = true := hG.1 _ (List.mem_of_getElem? (i := 85) rfl)
theorem w86 {a0 : Array Value} {Z : State} {EL : List (String × Nat)} (hG : oG a0 Z EL) : ((Jvm.Cond.static ({ cls := "com/example/gated_claim/gatedclaim/idempotency/IdempotencyKey", name := "isOptionalWhitespace", desc := "(C)Z" } : Jvm.MethodName))).before a0 Z = true := hG.1 _ (List.mem_of_getElem? (i := 86) rfl)
theorem w87 {a0 : Array Value} {Z : State} {EL : List (String × Nat)} (hG : oG a0 Z EL) : ((Jvm.Cond.code ({ cls := "com/example/gated_claim/gatedclaim/idempotency/IdempotencyKey", name := "isOptionalWhitespace", desc := "(C)Z" } : Jvm.MethodName) prog_2_method_5_code (1 : Nat) (Option.some Jvm.ClassFile.FieldType.boolean))).before a0 Z = true := hG.1 _ (List.mem_of_getElem? (i := 87) rfl)
theorem w88 {a0 : Array Value} {Z : State} {EL : List (String × Nat)} (hG : oG a0 Z EL) : ((Jvm.Cond.methodLink "com/example/gated_claim/gatedclaim/idempotency/IdempotencyKey" (92 : Nat) ({ cls := "java/lang/String", name := "substring", desc := "(II)Ljava/lang/String;" } : Jvm.MethodName))).before a0 Z = true := hG.1 _ (List.mem_of_getElem? (i := 88) rfl)
theorem w89 {a0 : Array Value} {Z : State} {EL : List (String × Nat)} (hG : oG a0 Z EL) : ((Jvm.Cond.declares ({ cls := "java/lang/String", name := "substring", desc := "(II)Ljava/lang/String;" } : Jvm.MethodName))).before a0 Z = true := hG.1 _ (List.mem_of_getElem? (i := 89) rfl)
theorem w90 {a0 : Array Value} {Z : State} {EL : List (String × Nat)} (hG : oG a0 Z EL) : ((Jvm.Cond.instanceMethod ({ cls := "java/lang/String", name := "substring", desc := "(II)Ljava/lang/String;" } : Jvm.MethodName))).before a0 Z = true := hG.1 _ (List.mem_of_getElem? (i := 90) rfl)
theorem w91 {a0 : Array Value} {Z : State} {EL : List (String × Nat)} (hG : oG a0 Z EL) : ((Jvm.Cond.selects "java/lang/String" ({ cls := "java/lang/String", name := "substring", desc := "(II)Ljava/lang/String;" } : Jvm.MethodName) ({ cls := "java/lang/String", name := "substring", desc := "(II)Ljava/lang/String;" } : Jvm.MethodName))).before a0 Z = true := hG.1 _ (List.mem_of_getElem? (i := 91) rfl)
theorem w92 {a0 : Array Value} {Z : State} {EL : List (String × Nat)} (hG : oG a0 Z EL) : ((Jvm.Cond.code ({ cls := "java/lang/String", name := "substring", desc := "(II)Ljava/lang/String;" } : Jvm.MethodName) jdk_42_method_92_code (5 : Nat) (Option.some (Jvm.ClassFile.FieldType.object "java/lang/String")))).before a0 Z = true := hG.1 _ (List.mem_of_getElem? (i := 92) rfl)
theorem w93 {a0 : Array Value} {Z : State} {EL : List (String × Nat)} (hG : oG a0 Z EL) : ((Jvm.Cond.methodLink "java/lang/String" (505 : Nat) ({ cls := "java/lang/String", name := "length", desc := "()I" } : Jvm.MethodName))).before a0 Z = true := hG.1 _ (List.mem_of_getElem? (i := 93) rfl)
theorem w94 {a0 : Array Value} {Z : State} {EL : List (String × Nat)} (hG : oG a0 Z EL) : ((Jvm.Cond.methodLink "java/lang/String" (521 : Nat) ({ cls := "java/lang/String", name := "checkBoundsBeginEnd", desc := "(III)V" } : Jvm.MethodName))).before a0 Z = true := hG.1 _ (List.mem_of_getElem? (i := 94) rfl)
theorem w95 {a0 : Array Value} {Z : State} {EL : List (String × Nat)} (hG : oG a0 Z EL) : ((Jvm.Cond.static ({ cls := "java/lang/String", name := "checkBoundsBeginEnd", desc := "(III)V" } : Jvm.MethodName))).before a0 Z = true := hG.1 _ (List.mem_of_getElem? (i := 95) rfl)
theorem w96 {a0 : Array Value} {Z : State} {EL : List (String × Nat)} (hG : oG a0 Z EL) : ((Jvm.Cond.code ({ cls := "java/lang/String", name := "checkBoundsBeginEnd", desc := "(III)V" } : Jvm.MethodName) jdk_42_method_158_code (3 : Nat) (Option.none : Option Jvm.ClassFile.FieldType))).before a0 Z = true := hG.1 _ (List.mem_of_getElem? (i := 96) rfl)
theorem w97 {a0 : Array Value} {Z : State} {EL : List (String × Nat)} (hG : oG a0 Z EL) : ((Jvm.Cond.methodLink "java/lang/String" (1062 : Nat) ({ cls := "jdk/internal/util/Preconditions", name := "checkFromToIndex", desc := "(IIILjava/util/function/BiFunction;)I" } : Jvm.MethodName))).before a0 Z = true := hG.1 _ (List.mem_of_getElem? (i := 97) rfl)
theorem w98 {a0 : Array Value} {Z : State} {EL : List (String × Nat)} (hG : oG a0 Z EL) : ((Jvm.Cond.static ({ cls := "jdk/internal/util/Preconditions", name := "checkFromToIndex", desc := "(IIILjava/util/function/BiFunction;)I" } : Jvm.MethodName))).before a0 Z = true := hG.1 _ (List.mem_of_getElem? (i := 98) rfl)
theorem w99 {a0 : Array Value} {Z : State} {EL : List (String × Nat)} (hG : oG a0 Z EL) : ((Jvm.Cond.code ({ cls := "jdk/internal/util/Preconditions", name := "checkFromToIndex", desc := "(IIILjava/util/function/BiFunction;)I" } : Jvm.MethodName) jdk_41_method_12_code (4 : Nat) (Option.some Jvm.ClassFile.FieldType.int))).before a0 Z = true := hG.1 _ (List.mem_of_getElem? (i := 99) rfl)
theorem w100 {a0 : Array Value} {Z : State} {EL : List (String × Nat)} (hG : oG a0 Z EL) : ((Jvm.Cond.methodLink "java/lang/String" (685 : Nat) ({ cls := "java/lang/StringLatin1", name := "newString", desc := "([BII)Ljava/lang/String;" } : Jvm.MethodName))).before a0 Z = true := hG.1 _ (List.mem_of_getElem? (i := 100) rfl)
theorem w101 {a0 : Array Value} {Z : State} {EL : List (String × Nat)} (hG : oG a0 Z EL) : ((Jvm.Cond.static ({ cls := "java/lang/StringLatin1", name := "newString", desc := "([BII)Ljava/lang/String;" } : Jvm.MethodName))).before a0 Z = true := hG.1 _ (List.mem_of_getElem? (i := 101) rfl)
theorem w102 {a0 : Array Value} {Z : State} {EL : List (String × Nat)} (hG : oG a0 Z EL) : ((Jvm.Cond.code ({ cls := "java/lang/StringLatin1", name := "newString", desc := "([BII)Ljava/lang/String;" } : Jvm.MethodName) jdk_43_method_47_code (3 : Nat) (Option.some (Jvm.ClassFile.FieldType.object "java/lang/String")))).before a0 Z = true := hG.1 _ (List.mem_of_getElem? (i := 102) rfl)
theorem w103 {a0 : Array Value} {Z : State} {EL : List (String × Nat)} (hG : oG a0 Z EL) : ((Jvm.Cond.classLink "java/lang/StringLatin1" (1 : Nat) "java/lang/String")).before a0 Z = true := hG.1 _ (List.mem_of_getElem? (i := 103) rfl)
theorem w104 {a0 : Array Value} {Z : State} {EL : List (String × Nat)} (hG : oG a0 Z EL) : ((Jvm.Cond.methodLink "java/lang/StringLatin1" (232 : Nat) ({ cls := "java/util/Arrays", name := "copyOfRange", desc := "([BII)[B" } : Jvm.MethodName))).before a0 Z = true := hG.1 _ (List.mem_of_getElem? (i := 104) rfl)
theorem w105 {a0 : Array Value} {Z : State} {EL : List (String × Nat)} (hG : oG a0 Z EL) : ((Jvm.Cond.static ({ cls := "java/util/Arrays", name := "copyOfRange", desc := "([BII)[B" } : Jvm.MethodName))).before a0 Z = true := hG.1 _ (List.mem_of_getElem? (i := 105) rfl)
theorem w106 {a0 : Array Value} {Z : State} {EL : List (String × Nat)} (hG : oG a0 Z EL) : ((Jvm.Cond.initialized "java/util/Arrays")).before a0 Z = true := hG.1 _ (List.mem_of_getElem? (i := 106) rfl)
theorem w107 {a0 : Array Value} {Z : State} {EL : List (String × Nat)} (hG : oG a0 Z EL) : ((Jvm.Cond.code ({ cls := "java/util/Arrays", name := "copyOfRange", desc := "([BII)[B" } : Jvm.MethodName) jdk_65_method_132_code (3 : Nat) (Option.some (Jvm.ClassFile.FieldType.array Jvm.ClassFile.FieldType.byte)))).before a0 Z = true := hG.1 _ (List.mem_of_getElem? (i := 107) rfl)
theorem w108 {a0 : Array Value} {Z : State} {EL : List (String × Nat)} (hG : oG a0 Z EL) : ((Jvm.Cond.methodLink "java/util/Arrays" (339 : Nat) ({ cls := "java/util/Arrays", name := "copyOfRangeByte", desc := "([BII)[B" } : Jvm.MethodName))).before a0 Z = true := hG.1 _ (List.mem_of_getElem? (i := 108) rfl)
theorem w109 {a0 : Array Value} {Z : State} {EL : List (String × Nat)} (hG : oG a0 Z EL) : ((Jvm.Cond.static ({ cls := "java/util/Arrays", name := "copyOfRangeByte", desc := "([BII)[B" } : Jvm.MethodName))).before a0 Z = true := hG.1 _ (List.mem_of_getElem? (i := 109) rfl)
theorem w110 {a0 : Array Value} {Z : State} {EL : List (String × Nat)} (hG : oG a0 Z EL) : ((Jvm.Cond.code ({ cls := "java/util/Arrays", name := "copyOfRangeByte", desc := "([BII)[B" } : Jvm.MethodName) jdk_65_method_133_code (5 : Nat) (Option.some (Jvm.ClassFile.FieldType.array Jvm.ClassFile.FieldType.byte)))).before a0 Z = true := hG.1 _ (List.mem_of_getElem? (i := 110) rfl)
theorem w111 {a0 : Array Value} {Z : State} {EL : List (String × Nat)} (hG : oG a0 Z EL) : ((Jvm.Cond.methodLink "java/util/Arrays" (343 : Nat) ({ cls := "java/util/Arrays", name := "checkLength", desc := "(II)V" } : Jvm.MethodName))).before a0 Z = true := hG.1 _ (List.mem_of_getElem? (i := 111) rfl)
theorem w112 {a0 : Array Value} {Z : State} {EL : List (String × Nat)} (hG : oG a0 Z EL) : ((Jvm.Cond.static ({ cls := "java/util/Arrays", name := "checkLength", desc := "(II)V" } : Jvm.MethodName))).before a0 Z = true := hG.1 _ (List.mem_of_getElem? (i := 112) rfl)
theorem w113 {a0 : Array Value} {Z : State} {EL : List (String × Nat)} (hG : oG a0 Z EL) : ((Jvm.Cond.code ({ cls := "java/util/Arrays", name := "checkLength", desc := "(II)V" } : Jvm.MethodName) jdk_65_method_131_code (2 : Nat) (Option.none : Option Jvm.ClassFile.FieldType))).before a0 Z = true := hG.1 _ (List.mem_of_getElem? (i := 113) rfl)
theorem w114 {a0 : Array Value} {Z : State} {EL : List (String × Nat)} (hG : oG a0 Z EL) : ((Jvm.Cond.methodLink "java/util/Arrays" (304 : Nat) ({ cls := "java/lang/Math", name := "min", desc := "(II)I" } : Jvm.MethodName))).before a0 Z = true := hG.1 _ (List.mem_of_getElem? (i := 114) rfl)
theorem w115 {a0 : Array Value} {Z : State} {EL : List (String × Nat)} (hG : oG a0 Z EL) : ((Jvm.Cond.static ({ cls := "java/lang/Math", name := "min", desc := "(II)I" } : Jvm.MethodName))).before a0 Z = true := hG.1 _ (List.mem_of_getElem? (i := 115) rfl)
theorem w116 {a0 : Array Value} {Z : State} {EL : List (String × Nat)} (hG : oG a0 Z EL) : ((Jvm.Cond.initialized "java/lang/Math")).before a0 Z = true := hG.1 _ (List.mem_of_getElem? (i := 116) rfl)
theorem w117 {a0 : Array Value} {Z : State} {EL : List (String × Nat)} (hG : oG a0 Z EL) : ((Jvm.Cond.code ({ cls := "java/lang/Math", name := "min", desc := "(II)I" } : Jvm.MethodName) jdk_29_method_69_code (2 : Nat) (Option.some Jvm.ClassFile.FieldType.int))).before a0 Z = true := hG.1 _ (List.mem_of_getElem? (i := 117) rfl)
theorem w118 {a0 : Array Value} {Z : State} {EL : List (String × Nat)} (hG : oG a0 Z EL) : ((Jvm.Cond.methodLink "java/util/Arrays" (150 : Nat) ({ cls := "java/lang/System", name := "arraycopy", desc := "(Ljava/lang/Object;ILjava/lang/Object;II)V" } : Jvm.MethodName))).before a0 Z = true := hG.1 _ (List.mem_of_getElem? (i := 118) rfl)
theorem w119 {a0 : Array Value} {Z : State} {EL : List (String × Nat)} (hG : oG a0 Z EL) : ((Jvm.Cond.static ({ cls := "java/lang/System", name := "arraycopy", desc := "(Ljava/lang/Object;ILjava/lang/Object;II)V" } : Jvm.MethodName))).before a0 Z = true := hG.1 _ (List.mem_of_getElem? (i := 119) rfl)
theorem w120 {a0 : Array Value} {Z : State} {EL : List (String × Nat)} (hG : oG a0 Z EL) : ((Jvm.Cond.initialized "java/lang/System")).before a0 Z = true := hG.1 _ (List.mem_of_getElem? (i := 120) rfl)
theorem w121 {a0 : Array Value} {Z : State} {EL : List (String × Nat)} (hG : oG a0 Z EL) : ((Jvm.Cond.native ({ cls := "java/lang/System", name := "arraycopy", desc := "(Ljava/lang/Object;ILjava/lang/Object;II)V" } : Jvm.MethodName))).before a0 Z = true := hG.1 _ (List.mem_of_getElem? (i := 121) rfl)
theorem w122 {a0 : Array Value} {Z : State} {EL : List (String × Nat)} (hG : oG a0 Z EL) : ((Jvm.Cond.methodLink "java/lang/StringLatin1" (112 : Nat) ({ cls := "java/lang/String", name := "<init>", desc := "([BB)V" } : Jvm.MethodName))).before a0 Z = true := hG.1 _ (List.mem_of_getElem? (i := 122) rfl)
theorem w123 {a0 : Array Value} {Z : State} {EL : List (String × Nat)} (hG : oG a0 Z EL) : ((Jvm.Cond.instanceMethod ({ cls := "java/lang/String", name := "<init>", desc := "([BB)V" } : Jvm.MethodName))).before a0 Z = true := hG.1 _ (List.mem_of_getElem? (i := 123) rfl)
theorem w124 {a0 : Array Value} {Z : State} {EL : List (String × Nat)} (hG : oG a0 Z EL) : ((Jvm.Cond.code ({ cls := "java/lang/String", name := "<init>", desc := "([BB)V" } : Jvm.MethodName) jdk_42_method_151_code (3 : Nat) (Option.none : Option Jvm.ClassFile.FieldType))).before a0 Z = true := hG.1 _ (List.mem_of_getElem? (i := 124) rfl)
theorem w125 {a0 : Array Value} {Z : State} {EL : List (String × Nat)} (hG : oG a0 Z EL) : ((Jvm.Cond.stringLink "com/example/gated_claim/gatedclaim/idempotency/IdempotencyKey" (53 : Nat) "\"")).before a0 Z = true := hG.1 _ (List.mem_of_getElem? (i := 125) rfl)
theorem w126 {a0 : Array Value} {Z : State} {EL : List (String × Nat)} (hG : oG a0 Z EL) : ((Jvm.Cond.methodLink "com/example/gated_claim/gatedclaim/idempotency/IdempotencyKey" (55 : Nat) ({ cls := "java/lang/String", name := "startsWith", desc := "(Ljava/lang/String;)Z" } : Jvm.MethodName))).before a0 Z = true := hG.1 _ (List.mem_of_getElem? (i := 126) rfl)
theorem w127 {a0 : Array Value} {Z : State} {EL : List (String × Nat)} (hG : oG a0 Z EL) : ((Jvm.Cond.declares ({ cls := "java/lang/String", name := "startsWith", desc := "(Ljava/lang/String;)Z" } : Jvm.MethodName))).before a0 Z = true := hG.1 _ (List.mem_of_getElem? (i := 127) rfl)
theorem w128 {a0 : Array Value} {Z : State} {EL : List (String × Nat)} (hG : oG a0 Z EL) : ((Jvm.Cond.instanceMethod ({ cls := "java/lang/String", name := "startsWith", desc := "(Ljava/lang/String;)Z" } : Jvm.MethodName))).before a0 Z = true := hG.1 _ (List.mem_of_getElem? (i := 128) rfl)
theorem w129 {a0 : Array Value} {Z : State} {EL : List (String × Nat)} (hG : oG a0 Z EL) : ((Jvm.Cond.selects "java/lang/String" ({ cls := "java/lang/String", name := "startsWith", desc := "(Ljava/lang/String;)Z" } : Jvm.MethodName) ({ cls := "java/lang/String", name := "startsWith", desc := "(Ljava/lang/String;)Z" } : Jvm.MethodName))).before a0 Z = true := hG.1 _ (List.mem_of_getElem? (i := 129) rfl)
theorem w130 {a0 : Array Value} {Z : State} {EL : List (String × Nat)} (hG : oG a0 Z EL) : ((Jvm.Cond.code ({ cls := "java/lang/String", name := "startsWith", desc := "(Ljava/lang/String;)Z" } : Jvm.MethodName) jdk_42_method_76_code (2 : Nat) (Option.some Jvm.ClassFile.FieldType.boolean))).before a0 Z = true := hG.1 _ (List.mem_of_getElem? (i := 130) rfl)
theorem w131 {a0 : Array Value} {Z : State} {EL : List (String × Nat)} (hG : oG a0 Z EL) : ((Jvm.Cond.methodLink "java/lang/String" (624 : Nat) ({ cls := "java/lang/String", name := "startsWith", desc := "(Ljava/lang/String;I)Z" } : Jvm.MethodName))).before a0 Z = true := hG.1 _ (List.mem_of_getElem? (i := 131) rfl)
theorem w132 {a0 : Array Value} {Z : State} {EL : List (String × Nat)} (hG : oG a0 Z EL) : ((Jvm.Cond.declares ({ cls := "java/lang/String", name := "startsWith", desc := "(Ljava/lang/String;I)Z" } : Jvm.MethodName))).before a0 Z = true := hG.1 _ (List.mem_of_getElem? (i := 132) rfl)
theorem w133 {a0 : Array Value} {Z : State} {EL : List (String × Nat)} (hG : oG a0 Z EL) : ((Jvm.Cond.instanceMethod ({ cls := "java/lang/String", name := "startsWith", desc := "(Ljava/lang/String;I)Z" } : Jvm.MethodName))).before a0 Z = true := hG.1 _ (List.mem_of_getElem? (i := 133) rfl)
theorem w134 {a0 : Array Value} {Z : State} {EL : List (String × Nat)} (hG : oG a0 Z EL) : ((Jvm.Cond.selects "java/lang/String" ({ cls := "java/lang/String", name := "startsWith", desc := "(Ljava/lang/String;I)Z" } : Jvm.MethodName) ({ cls := "java/lang/String", name := "startsWith", desc := "(Ljava/lang/String;I)Z" } : Jvm.MethodName))).before a0 Z = true := hG.1 _ (List.mem_of_getElem? (i := 134) rfl)
theorem w135 {a0 : Array Value} {Z : State} {EL : List (String × Nat)} (hG : oG a0 Z EL) : ((Jvm.Cond.code ({ cls := "java/lang/String", name := "startsWith", desc := "(Ljava/lang/String;I)Z" } : Jvm.MethodName) jdk_42_method_75_code (8 : Nat) (Option.some Jvm.ClassFile.FieldType.boolean))).before a0 Z = true := hG.1 _ (List.mem_of_getElem? (i := 135) rfl)
theorem w136 {a0 : Array Value} {Z : State} {EL : List (String × Nat)} (hG : oG a0 Z EL) : ((Jvm.Cond.methodLink "java/lang/String" (607 : Nat) ({ cls := "jdk/internal/util/ArraysSupport", name := "mismatch", desc := "([BI[BII)I" } : Jvm.MethodName))).before a0 Z = true := hG.1 _ (List.mem_of_getElem? (i := 136) rfl)
theorem w137 {a0 : Array Value} {Z : State} {EL : List (String × Nat)} (hG : oG a0 Z EL) : ((Jvm.Cond.static ({ cls := "jdk/internal/util/ArraysSupport", name := "mismatch", desc := "([BI[BII)I" } : Jvm.MethodName))).before a0 Z = true := hG.1 _ (List.mem_of_getElem? (i := 137) rfl)
theorem w138 {a0 : Array Value} {Z : State} {EL : List (String × Nat)} (hG : oG a0 Z EL) : ((Jvm.Cond.initialized "jdk/internal/util/ArraysSupport")).before a0 Z = true := hG.1 _ (List.mem_of_getElem? (i := 138) rfl)
theorem w139 {a0 : Array Value} {Z : State} {EL : List (String × Nat)} (hG : oG a0 Z EL) : ((Jvm.Cond.code ({ cls := "jdk/internal/util/ArraysSupport", name := "mismatch", desc := "([BI[BII)I" } : Jvm.MethodName) jdk_48_method_14_code (8 : Nat) (Option.some Jvm.ClassFile.FieldType.int))).before a0 Z = true := hG.1 _ (List.mem_of_getElem? (i := 139) rfl)
theorem w140 {a0 : Array Value} {Z : State} {EL : List (String × Nat)} (hG : oG a0 Z EL) : ((Jvm.Cond.methodLink "com/example/gated_claim/gatedclaim/idempotency/IdempotencyKey" (63 : Nat) ({ cls := "java/lang/String", name := "indexOf", desc := "(I)I" } : Jvm.MethodName))).before a0 Z = true := hG.1 _ (List.mem_of_getElem? (i := 140) rfl)
theorem w141 {a0 : Array Value} {Z : State} {EL : List (String × Nat)} (hG : oG a0 Z EL) : ((Jvm.Cond.declares ({ cls := "java/lang/String", name := "indexOf", desc := "(I)I" } : Jvm.MethodName))).before a0 Z = true := hG.1 _ (List.mem_of_getElem? (i := 141) rfl)
theorem w142 {a0 : Array Value} {Z : State} {EL : List (String × Nat)} (hG : oG a0 Z EL) : ((Jvm.Cond.instanceMethod ({ cls := "java/lang/String", name := "indexOf", desc := "(I)I" } : Jvm.MethodName))).before a0 Z = true := hG.1 _ (List.mem_of_getElem? (i := 142) rfl)
theorem w143 {a0 : Array Value} {Z : State} {EL : List (String × Nat)} (hG : oG a0 Z EL) : ((Jvm.Cond.selects "java/lang/String" ({ cls := "java/lang/String", name := "indexOf", desc := "(I)I" } : Jvm.MethodName) ({ cls := "java/lang/String", name := "indexOf", desc := "(I)I" } : Jvm.MethodName))).before a0 Z = true := hG.1 _ (List.mem_of_getElem? (i := 143) rfl)
theorem w144 {a0 : Array Value} {Z : State} {EL : List (String × Nat)} (hG : oG a0 Z EL) : ((Jvm.Cond.code ({ cls := "java/lang/String", name := "indexOf", desc := "(I)I" } : Jvm.MethodName) jdk_42_method_79_code (2 : Nat) (Option.some Jvm.ClassFile.FieldType.int))).before a0 Z = true := hG.1 _ (List.mem_of_getElem? (i := 144) rfl)
theorem w145 {a0 : Array Value} {Z : State} {EL : List (String × Nat)} (hG : oG a0 Z EL) : ((Jvm.Cond.methodLink "java/lang/String" (633 : Nat) ({ cls := "java/lang/String", name := "indexOf", desc := "(II)I" } : Jvm.MethodName))).before a0 Z = true := hG.1 _ (List.mem_of_getElem? (i := 145) rfl)
theorem w146 {a0 : Array Value} {Z : State} {EL : List (String × Nat)} (hG : oG a0 Z EL) : ((Jvm.Cond.declares ({ cls := "java/lang/String", name := "indexOf", desc := "(II)I" } : Jvm.MethodName))).before a0 Z = true := hG.1 _ (List.mem_of_getElem? (i := 146) rfl)
theorem w147 {a0 : Array Value} {Z : State} {EL : List (String × Nat)} (hG : oG a0 Z EL) : ((Jvm.Cond.instanceMethod ({ cls := "java/lang/String", name := "indexOf", desc := "(II)I" } : Jvm.MethodName))).before a0 Z = true := hG.1 _ (List.mem_of_getElem? (i := 147) rfl)
theorem w148 {a0 : Array Value} {Z : State} {EL : List (String × Nat)} (hG : oG a0 Z EL) : ((Jvm.Cond.selects "java/lang/String" ({ cls := "java/lang/String", name := "indexOf", desc := "(II)I" } : Jvm.MethodName) ({ cls := "java/lang/String", name := "indexOf", desc := "(II)I" } : Jvm.MethodName))).before a0 Z = true := hG.1 _ (List.mem_of_getElem? (i := 148) rfl)
theorem w149 {a0 : Array Value} {Z : State} {EL : List (String × Nat)} (hG : oG a0 Z EL) : ((Jvm.Cond.code ({ cls := "java/lang/String", name := "indexOf", desc := "(II)I" } : Jvm.MethodName) jdk_42_method_80_code (3 : Nat) (Option.some Jvm.ClassFile.FieldType.int))).before a0 Z = true := hG.1 _ (List.mem_of_getElem? (i := 149) rfl)
theorem w150 {a0 : Array Value} {Z : State} {EL : List (String × Nat)} (hG : oG a0 Z EL) : ((Jvm.Cond.methodLink "java/lang/String" (637 : Nat) ({ cls := "java/lang/StringLatin1", name := "indexOf", desc := "([BIII)I" } : Jvm.MethodName))).before a0 Z = true := hG.1 _ (List.mem_of_getElem? (i := 150) rfl)
theorem w151 {a0 : Array Value} {Z : State} {EL : List (String × Nat)} (hG : oG a0 Z EL) : ((Jvm.Cond.static ({ cls := "java/lang/StringLatin1", name := "indexOf", desc := "([BIII)I" } : Jvm.MethodName))).before a0 Z = true := hG.1 _ (List.mem_of_getElem? (i := 151) rfl)
theorem w152 {a0 : Array Value} {Z : State} {EL : List (String × Nat)} (hG : oG a0 Z EL) : ((Jvm.Cond.code ({ cls := "java/lang/StringLatin1", name := "indexOf", desc := "([BIII)I" } : Jvm.MethodName) jdk_43_method_22_code (4 : Nat) (Option.some Jvm.ClassFile.FieldType.int))).before a0 Z = true := hG.1 _ (List.mem_of_getElem? (i := 152) rfl)
theorem w153 {a0 : Array Value} {Z : State} {EL : List (String × Nat)} (hG : oG a0 Z EL) : ((Jvm.Cond.methodLink "java/lang/StringLatin1" (88 : Nat) ({ cls := "java/lang/StringLatin1", name := "canEncode", desc := "(I)Z" } : Jvm.MethodName))).before a0 Z = true := hG.1 _ (List.mem_of_getElem? (i := 153) rfl)
theorem w154 {a0 : Array Value} {Z : State} {EL : List (String × Nat)} (hG : oG a0 Z EL) : ((Jvm.Cond.static ({ cls := "java/lang/StringLatin1", name := "canEncode", desc := "(I)Z" } : Jvm.MethodName))).before a0 Z = true := hG.1 _ (List.mem_of_getElem? (i := 154) rfl)
theorem w155 {a0 : Array Value} {Z : State} {EL : List (String × Nat)} (hG : oG a0 Z EL) : ((Jvm.Cond.code ({ cls := "java/lang/StringLatin1", name := "canEncode", desc := "(I)Z" } : Jvm.MethodName) jdk_43_method_4_code (1 : Nat) (Option.some Jvm.ClassFile.FieldType.boolean))).before a0 Z = true := hG.1 _ (List.mem_of_getElem? (i := 155) rfl)
theorem w156 {a0 : Array Value} {Z : State} {EL : List (String × Nat)} (hG : oG a0 Z EL) : ((Jvm.Cond.methodLink "java/lang/StringLatin1" (92 : Nat) ({ cls := "java/lang/Math", name := "max", desc := "(II)I" } : Jvm.MethodName))).before a0 Z = true := hG.1 _ (List.mem_of_getElem? (i := 156) rfl)
theorem w157 {a0 : Array Value} {Z : State} {EL : List (String × Nat)} (hG : oG a0 Z EL) : ((Jvm.Cond.static ({ cls := "java/lang/Math", name := "max", desc := "(II)I" } : Jvm.MethodName))).before a0 Z = true := hG.1 _ (List.mem_of_getElem? (i := 157) rfl)
theorem w158 {a0 : Array Value} {Z : State} {EL : List (String × Nat)} (hG : oG a0 Z EL) : ((Jvm.Cond.code ({ cls := "java/lang/Math", name := "max", desc := "(II)I" } : Jvm.MethodName) jdk_29_method_65_code (2 : Nat) (Option.some Jvm.ClassFile.FieldType.int))).before a0 Z = true := hG.1 _ (List.mem_of_getElem? (i := 158) rfl)
theorem w159 {a0 : Array Value} {Z : State} {EL : List (String × Nat)} (hG : oG a0 Z EL) : ((Jvm.Cond.methodLink "java/lang/StringLatin1" (38 : Nat) ({ cls := "java/lang/Math", name := "min", desc := "(II)I" } : Jvm.MethodName))).before a0 Z = true := hG.1 _ (List.mem_of_getElem? (i := 159) rfl)
theorem w160 {a0 : Array Value} {Z : State} {EL : List (String × Nat)} (hG : oG a0 Z EL) : ((Jvm.Cond.methodLink "java/lang/StringLatin1" (95 : Nat) ({ cls := "java/lang/StringLatin1", name := "indexOfChar", desc := "([BIII)I" } : Jvm.MethodName))).before a0 Z = true := hG.1 _ (List.mem_of_getElem? (i := 160) rfl)
theorem w161 {a0 : Array Value} {Z : State} {EL : List (String × Nat)} (hG : oG a0 Z EL) : ((Jvm.Cond.static ({ cls := "java/lang/StringLatin1", name := "indexOfChar", desc := "([BIII)I" } : Jvm.MethodName))).before a0 Z = true := hG.1 _ (List.mem_of_getElem? (i := 161) rfl)
theorem w162 {a0 : Array Value} {Z : State} {EL : List (String × Nat)} (hG : oG a0 Z EL) : ((Jvm.Cond.code ({ cls := "java/lang/StringLatin1", name := "indexOfChar", desc := "([BIII)I" } : Jvm.MethodName) jdk_43_method_23_code (6 : Nat) (Option.some Jvm.ClassFile.FieldType.int))).before a0 Z = true := hG.1 _ (List.mem_of_getElem? (i := 162) rfl)
theorem w163 {a0 : Array Value} {Z : State} {EL : List (String × Nat)} (hG : oG a0 Z EL) : ((Jvm.Cond.classLink "com/example/gated_claim/gatedclaim/idempotency/IdempotencyKey" (32 : Nat) "com/example/gated_claim/gatedclaim/idempotency/IdempotencyKey")).before a0 Z = true := hG.1 _ (List.mem_of_getElem? (i := 163) rfl)
theorem w164 {a0 : Array Value} {Z : State} {EL : List (String × Nat)} (hG : oG a0 Z EL) : ((Jvm.Cond.instantiable "com/example/gated_claim/gatedclaim/idempotency/IdempotencyKey" (1 : Nat))).before a0 Z = true := hG.1 _ (List.mem_of_getElem? (i := 164) rfl)
theorem w165 {a0 : Array Value} {Z : State} {EL : List (String × Nat)} (hG : oG a0 Z EL) : ((Jvm.Cond.methodLink "com/example/gated_claim/gatedclaim/idempotency/IdempotencyKey" (62 : Nat) ({ cls := "com/example/gated_claim/gatedclaim/idempotency/IdempotencyKey", name := "<init>", desc := "(Ljava/lang/String;)V" } : Jvm.MethodName))).before a0 Z = true := hG.1 _ (List.mem_of_getElem? (i := 165) rfl)
theorem w166 {a0 : Array Value} {Z : State} {EL : List (String × Nat)} (hG : oG a0 Z EL) : ((Jvm.Cond.instanceMethod ({ cls := "com/example/gated_claim/gatedclaim/idempotency/IdempotencyKey", name := "<init>", desc := "(Ljava/lang/String;)V" } : Jvm.MethodName))).before a0 Z = true := hG.1 _ (List.mem_of_getElem? (i := 166) rfl)
theorem w167 {a0 : Array Value} {Z : State} {EL : List (String × Nat)} (hG : oG a0 Z EL) : ((Jvm.Cond.code ({ cls := "com/example/gated_claim/gatedclaim/idempotency/IdempotencyKey", name := "<init>", desc := "(Ljava/lang/String;)V" } : Jvm.MethodName) prog_2_method_1_code (4 : Nat) (Option.none : Option Jvm.ClassFile.FieldType))).before a0 Z = true := hG.1 _ (List.mem_of_getElem? (i := 167) rfl)
theorem w168 {a0 : Array Value} {Z : State} {EL : List (String × Nat)} (hG : oG a0 Z EL) : ((Jvm.Cond.methodLink "com/example/gated_claim/gatedclaim/idempotency/IdempotencyKey" (1 : Nat) ({ cls := "java/lang/Record", name := "<init>", desc := "()V" } : Jvm.MethodName))).before a0 Z = true := hG.1 _ (List.mem_of_getElem? (i := 168) rfl)
theorem w169 {a0 : Array Value} {Z : State} {EL : List (String × Nat)} (hG : oG a0 Z EL) : ((Jvm.Cond.instanceMethod ({ cls := "java/lang/Record", name := "<init>", desc := "()V" } : Jvm.MethodName))).before a0 Z = true := hG.1 _ (List.mem_of_getElem? (i := 169) rfl)
theorem w171 {a0 : Array Value} {Z : State} {EL : List (String × Nat)} (hG : oG a0 Z EL) : ((Jvm.Cond.initialized "java/lang/Record")).before a0 Z = true := hG.1 _ (List.mem_of_getElem? (i := 171) rfl)
theorem w172 {a0 : Array Value} {Z : State} {EL : List (String × Nat)} (hG : oG a0 Z EL) : ((Jvm.Cond.code ({ cls := "java/lang/Record", name := "<init>", desc := "()V" } : Jvm.MethodName) jdk_30_method_1_code (1 : Nat) (Option.none : Option Jvm.ClassFile.FieldType))).before a0 Z = true := hG.1 _ (List.mem_of_getElem? (i := 172) rfl)
theorem w173 {a0 : Array Value} {Z : State} {EL : List (String × Nat)} (hG : oG a0 Z EL) : ((Jvm.Cond.methodLink "java/lang/Record" (1 : Nat) ({ cls := "java/lang/Object", name := "<init>", desc := "()V" } : Jvm.MethodName))).before a0 Z = true := hG.1 _ (List.mem_of_getElem? (i := 173) rfl)
theorem w174 {a0 : Array Value} {Z : State} {EL : List (String × Nat)} (hG : oG a0 Z EL) : ((Jvm.Cond.stringLink "com/example/gated_claim/gatedclaim/idempotency/IdempotencyKey" (7 : Nat) "value")).before a0 Z = true := hG.1 _ (List.mem_of_getElem? (i := 174) rfl)
theorem w175 {a0 : Array Value} {Z : State} {EL : List (String × Nat)} (hG : oG a0 Z EL) : ((Jvm.Cond.methodLink "com/example/gated_claim/gatedclaim/idempotency/IdempotencyKey" (15 : Nat) ({ cls := "java/lang/String", name := "isEmpty", desc := "()Z" } : Jvm.MethodName))).before a0 Z = true := hG.1 _ (List.mem_of_getElem? (i := 175) rfl)
theorem w176 {a0 : Array Value} {Z : State} {EL : List (String × Nat)} (hG : oG a0 Z EL) : ((Jvm.Cond.declares ({ cls := "java/lang/String", name := "isEmpty", desc := "()Z" } : Jvm.MethodName))).before a0 Z = true := hG.1 _ (List.mem_of_getElem? (i := 176) rfl)
theorem w177 {a0 : Array Value} {Z : State} {EL : List (String × Nat)} (hG : oG a0 Z EL) : ((Jvm.Cond.instanceMethod ({ cls := "java/lang/String", name := "isEmpty", desc := "()Z" } : Jvm.MethodName))).before a0 Z = true := hG.1 _ (List.mem_of_getElem? (i := 177) rfl)
theorem w178 {a0 : Array Value} {Z : State} {EL : List (String × Nat)} (hG : oG a0 Z EL) : ((Jvm.Cond.selects "java/lang/String" ({ cls := "java/lang/String", name := "isEmpty", desc := "()Z" } : Jvm.MethodName) ({ cls := "java/lang/String", name := "isEmpty", desc := "()Z" } : Jvm.MethodName))).before a0 Z = true := hG.1 _ (List.mem_of_getElem? (i := 178) rfl)
theorem w179 {a0 : Array Value} {Z : State} {EL : List (String × Nat)} (hG : oG a0 Z EL) : ((Jvm.Cond.code ({ cls := "java/lang/String", name := "isEmpty", desc := "()Z" } : Jvm.MethodName) jdk_42_method_55_code (1 : Nat) (Option.some Jvm.ClassFile.FieldType.boolean))).before a0 Z = true := hG.1 _ (List.mem_of_getElem? (i := 179) rfl)
theorem w180 {a0 : Array Value} {Z : State} {EL : List (String × Nat)} (hG : oG a0 Z EL) : ((Jvm.Cond.fieldLink "com/example/gated_claim/gatedclaim/idempotency/IdempotencyKey" (44 : Nat) "com/example/gated_claim/gatedclaim/idempotency/IdempotencyKey" "value" "Ljava/lang/String;")).before a0 Z = true := hG.1 _ (List.mem_of_getElem? (i := 180) rfl)
theorem w181 {a0 : Array Value} {Z : State} {EL : List (String × Nat)} (hG : oG a0 Z EL) : ((Jvm.Cond.laysFinal "com/example/gated_claim/gatedclaim/idempotency/IdempotencyKey" "com/example/gated_claim/gatedclaim/idempotency/IdempotencyKey" "value" "Ljava/lang/String;")).before a0 Z = true := hG.1 _ (List.mem_of_getElem? (i := 181) rfl)
theorem w182 {a0 : Array Value} {Z : State} {EL : List (String × Nat)} (hG : oG a0 Z EL) : ((Jvm.Cond.methodLink "com/example/gated_claim/gatedclaim/idempotency/IdempotencyKeyParsePinLaw" (36 : Nat) ({ cls := "com/example/gated_claim/gatedclaim/idempotency/IdempotencyKey", name := "value", desc := "()Ljava/lang/String;" } : Jvm.MethodName))).before a0 Z = true := hG.1 _ (List.mem_of_getElem? (i := 182) rfl)
theorem w183 {a0 : Array Value} {Z : State} {EL : List (String × Nat)} (hG : oG a0 Z EL) : ((Jvm.Cond.declares ({ cls := "com/example/gated_claim/gatedclaim/idempotency/IdempotencyKey", name := "value", desc := "()Ljava/lang/String;" } : Jvm.MethodName))).before a0 Z = true := hG.1 _ (List.mem_of_getElem? (i := 183) rfl)
theorem w184 {a0 : Array Value} {Z : State} {EL : List (String × Nat)} (hG : oG a0 Z EL) : ((Jvm.Cond.instanceMethod ({ cls := "com/example/gated_claim/gatedclaim/idempotency/IdempotencyKey", name := "value", desc := "()Ljava/lang/String;" } : Jvm.MethodName))).before a0 Z = true := hG.1 _ (List.mem_of_getElem? (i := 184) rfl)
theorem w185 {a0 : Array Value} {Z : State} {EL : List (String × Nat)} (hG : oG a0 Z EL) : ((Jvm.Cond.selects "com/example/gated_claim/gatedclaim/idempotency/IdempotencyKey" ({ cls := "com/example/gated_claim/gatedclaim/idempotency/IdempotencyKey", name := "value", desc := "()Ljava/lang/String;" } : Jvm.MethodName) ({ cls := "com/example/gated_claim/gatedclaim/idempotency/IdempotencyKey", name := "value", desc := "()Ljava/lang/String;" } : Jvm.MethodName))).before a0 Z = true := hG.1 _ (List.mem_of_getElem? (i := 185) rfl)
theorem w186 {a0 : Array Value} {Z : State} {EL : List (String × Nat)} (hG : oG a0 Z EL) : ((Jvm.Cond.code ({ cls := "com/example/gated_claim/gatedclaim/idempotency/IdempotencyKey", name := "value", desc := "()Ljava/lang/String;" } : Jvm.MethodName) prog_2_method_9_code (1 : Nat) (Option.some (Jvm.ClassFile.FieldType.object "java/lang/String")))).before a0 Z = true := hG.1 _ (List.mem_of_getElem? (i := 186) rfl)
theorem w187 {a0 : Array Value} {Z : State} {EL : List (String × Nat)} (hG : oG a0 Z EL) : ((Jvm.Cond.methodLink "com/example/gated_claim/gatedclaim/idempotency/IdempotencyKeyParsePinLaw" (40 : Nat) ({ cls := "java/lang/String", name := "length", desc := "()I" } : Jvm.MethodName))).before a0 Z = true := hG.1 _ (List.mem_of_getElem? (i := 187) rfl)
theorem w188 {a0 : Array Value} {Z : State} {EL : List (String × Nat)} (hG : oG a0 Z EL) : ((Jvm.Cond.methodLink "com/example/gated_claim/gatedclaim/idempotency/IdempotencyKeyParsePinLaw" (44 : Nat) ({ cls := "java/lang/String", name := "charAt", desc := "(I)C" } : Jvm.MethodName))).before a0 Z = true := hG.1 _ (List.mem_of_getElem? (i := 188) rfl)
theorem w189 {a0 : Array Value} {Z : State} {EL : List (String × Nat)} (hG : oG a0 Z EL) : ((Jvm.Cond.methodLink "com/example/gated_claim/gatedclaim/idempotency/IdempotencyKeyParsePinLaw" (14 : Nat) ({ cls := "com/example/gated_claim/gatedclaim/idempotency/IdempotencyKeyParsePinLaw", name := "putUnit", desc := "([CII)I" } : Jvm.MethodName))).before a0 Z = true := hG.1 _ (List.mem_of_getElem? (i := 189) rfl)
theorem w190 {a0 : Array Value} {Z : State} {EL : List (String × Nat)} (hG : oG a0 Z EL) : ((Jvm.Cond.static ({ cls := "com/example/gated_claim/gatedclaim/idempotency/IdempotencyKeyParsePinLaw", name := "putUnit", desc := "([CII)I" } : Jvm.MethodName))).before a0 Z = true := hG.1 _ (List.mem_of_getElem? (i := 190) rfl)
theorem w191 {a0 : Array Value} {Z : State} {EL : List (String × Nat)} (hG : oG a0 Z EL) : ((Jvm.Cond.code ({ cls := "com/example/gated_claim/gatedclaim/idempotency/IdempotencyKeyParsePinLaw", name := "putUnit", desc := "([CII)I" } : Jvm.MethodName) method_6_code (3 : Nat) (Option.some Jvm.ClassFile.FieldType.int))).before a0 Z = true := hG.1 _ (List.mem_of_getElem? (i := 191) rfl)
theorem w192 {a0 : Array Value} {Z : State} {EL : List (String × Nat)} (hG : oG a0 Z EL) : ((Jvm.Cond.methodLink "com/example/gated_claim/gatedclaim/idempotency/IdempotencyKeyParsePinLaw" (47 : Nat) ({ cls := "com/example/gated_claim/gatedclaim/idempotency/IdempotencyKeyParsePinLaw", name := "plainQuoted", desc := "(I)C" } : Jvm.MethodName))).before a0 Z = true := hG.1 _ (List.mem_of_getElem? (i := 192) rfl)
theorem w193 {a0 : Array Value} {Z : State} {EL : List (String × Nat)} (hG : oG a0 Z EL) : ((Jvm.Cond.static ({ cls := "com/example/gated_claim/gatedclaim/idempotency/IdempotencyKeyParsePinLaw", name := "plainQuoted", desc := "(I)C" } : Jvm.MethodName))).before a0 Z = true := hG.1 _ (List.mem_of_getElem? (i := 193) rfl)
theorem w194 {a0 : Array Value} {Z : State} {EL : List (String × Nat)} (hG : oG a0 Z EL) : ((Jvm.Cond.code ({ cls := "com/example/gated_claim/gatedclaim/idempotency/IdempotencyKeyParsePinLaw", name := "plainQuoted", desc := "(I)C" } : Jvm.MethodName) method_4_code (2 : Nat) (Option.some Jvm.ClassFile.FieldType.char))).before a0 Z = true := hG.1 _ (List.mem_of_getElem? (i := 194) rfl)
theorem w195 {a0 : Array Value} {Z : State} {EL : List (String × Nat)} (hG : oG a0 Z EL) : ((Jvm.Cond.methodLink "com/example/gated_claim/gatedclaim/idempotency/IdempotencyKeyParsePinLaw" (18 : Nat) ({ cls := "com/example/gated_claim/gatedclaim/idempotency/IdempotencyKeyParsePinLaw", name := "keyChar", desc := "(I)C" } : Jvm.MethodName))).before a0 Z = true := hG.1 _ (List.mem_of_getElem? (i := 195) rfl)
theorem w196 {a0 : Array Value} {Z : State} {EL : List (String × Nat)} (hG : oG a0 Z EL) : ((Jvm.Cond.static ({ cls := "com/example/gated_claim/gatedclaim/idempotency/IdempotencyKeyParsePinLaw", name := "keyChar", desc := "(I)C" } : Jvm.MethodName))).before a0 Z = true := hG.1 _ (List.mem_of_getElem? (i := 196) rfl)
theorem w197 {a0 : Array Value} {Z : State} {EL : List (String × Nat)} (hG : oG a0 Z EL) : ((Jvm.Cond.code ({ cls := "com/example/gated_claim/gatedclaim/idempotency/IdempotencyKeyParsePinLaw", name := "keyChar", desc := "(I)C" } : Jvm.MethodName) method_5_code (1 : Nat) (Option.some Jvm.ClassFile.FieldType.char))).before a0 Z = true := hG.1 _ (List.mem_of_getElem? (i := 197) rfl)
theorem w198 {a0 : Array Value} {Z : State} {EL : List (String × Nat)} (hG : oG a0 Z EL) : ((Jvm.Cond.methodLink "com/example/gated_claim/gatedclaim/idempotency/IdempotencyKey" (59 : Nat) ({ cls := "com/example/gated_claim/gatedclaim/idempotency/IdempotencyKey", name := "unquote", desc := "(Ljava/lang/String;)Ljava/lang/String;" } : Jvm.MethodName))).before a0 Z = true := hG.1 _ (List.mem_of_getElem? (i := 198) rfl)
theorem w199 {a0 : Array Value} {Z : State} {EL : List (String × Nat)} (hG : oG a0 Z EL) : ((Jvm.Cond.static ({ cls := "com/example/gated_claim/gatedclaim/idempotency/IdempotencyKey", name := "unquote", desc := "(Ljava/lang/String;)Ljava/lang/String;" } : Jvm.MethodName))).before a0 Z = true := hG.1 _ (List.mem_of_getElem? (i := 199) rfl)
theorem w200 {a0 : Array Value} {Z : State} {EL : List (String × Nat)} (hG : oG a0 Z EL) : ((Jvm.Cond.code ({ cls := "com/example/gated_claim/gatedclaim/idempotency/IdempotencyKey", name := "unquote", desc := "(Ljava/lang/String;)Ljava/lang/String;" } : Jvm.MethodName) prog_2_method_3_code (4 : Nat) (Option.some (Jvm.ClassFile.FieldType.object "java/lang/String")))).before a0 Z = true := hG.1 _ (List.mem_of_getElem? (i := 200) rfl)
theorem w201 {a0 : Array Value} {Z : State} {EL : List (String × Nat)} (hG : oG a0 Z EL) : ((Jvm.Cond.classLink "com/example/gated_claim/gatedclaim/idempotency/IdempotencyKey" (69 : Nat) "java/lang/StringBuilder")).before a0 Z = true := hG.1 _ (List.mem_of_getElem? (i := 201) rfl)
theorem w202 {a0 : Array Value} {Z : State} {EL : List (String × Nat)} (hG : oG a0 Z EL) : ((Jvm.Cond.instantiable "java/lang/StringBuilder" (4 : Nat))).before a0 Z = true := hG.1 _ (List.mem_of_getElem? (i := 202) rfl)
theorem w203 {a0 : Array Value} {Z : State} {EL : List (String × Nat)} (hG : oG a0 Z EL) : ((Jvm.Cond.initialized "java/lang/StringBuilder")).before a0 Z = true := hG.1 _ (List.mem_of_getElem? (i := 203) rfl)
theorem w204 {a0 : Array Value} {Z : State} {EL : List (String × Nat)} (hG : oG a0 Z EL) : ((Jvm.Cond.methodLink "com/example/gated_claim/gatedclaim/idempotency/IdempotencyKey" (71 : Nat) ({ cls := "java/lang/StringBuilder", name := "<init>", desc := "(I)V" } : Jvm.MethodName))).before a0 Z = true := hG.1 _ (List.mem_of_getElem? (i := 204) rfl)
theorem w205 {a0 : Array Value} {Z : State} {EL : List (String × Nat)} (hG : oG a0 Z EL) : ((Jvm.Cond.instanceMethod ({ cls := "java/lang/StringBuilder", name := "<init>", desc := "(I)V" } : Jvm.MethodName))).before a0 Z = true := hG.1 _ (List.mem_of_getElem? (i := 205) rfl)
theorem w206 {a0 : Array Value} {Z : State} {EL : List (String × Nat)} (hG : oG a0 Z EL) : ((Jvm.Cond.code ({ cls := "java/lang/StringBuilder", name := "<init>", desc := "(I)V" } : Jvm.MethodName) jdk_67_method_2_code (2 : Nat) (Option.none : Option Jvm.ClassFile.FieldType))).before a0 Z = true := hG.1 _ (List.mem_of_getElem? (i := 206) rfl)
theorem w207 {a0 : Array Value} {Z : State} {EL : List (String × Nat)} (hG : oG a0 Z EL) : ((Jvm.Cond.methodLink "java/lang/StringBuilder" (1 : Nat) ({ cls := "java/lang/AbstractStringBuilder", name := "<init>", desc := "(I)V" } : Jvm.MethodName))).before a0 Z = true := hG.1 _ (List.mem_of_getElem? (i := 207) rfl)
theorem w208 {a0 : Array Value} {Z : State} {EL : List (String × Nat)} (hG : oG a0 Z EL) : ((Jvm.Cond.instanceMethod ({ cls := "java/lang/AbstractStringBuilder", name := "<init>", desc := "(I)V" } : Jvm.MethodName))).before a0 Z = true := hG.1 _ (List.mem_of_getElem? (i := 208) rfl)
theorem w211 {a0 : Array Value} {Z : State} {EL : List (String × Nat)} (hG : oG a0 Z EL) : ((Jvm.Cond.initialized "java/lang/AbstractStringBuilder")).before a0 Z = true := hG.1 _ (List.mem_of_getElem? (i := 211) rfl)
theorem w212 {a0 : Array Value} {Z : State} {EL : List (String × Nat)} (hG : oG a0 Z EL) : ((Jvm.Cond.code ({ cls := "java/lang/AbstractStringBuilder", name := "<init>", desc := "(I)V" } : Jvm.MethodName) jdk_68_method_2_code (2 : Nat) (Option.none : Option Jvm.ClassFile.FieldType))).before a0 Z = true := hG.1 _ (List.mem_of_getElem? (i := 212) rfl)
theorem w213 {a0 : Array Value} {Z : State} {EL : List (String × Nat)} (hG : oG a0 Z EL) : ((Jvm.Cond.methodLink "java/lang/AbstractStringBuilder" (3 : Nat) ({ cls := "java/lang/Object", name := "<init>", desc := "()V" } : Jvm.MethodName))).before a0 Z = true := hG.1 _ (List.mem_of_getElem? (i := 213) rfl)
theorem w214 {a0 : Array Value} {Z : State} {EL : List (String × Nat)} (hG : oG a0 Z EL) : ((Jvm.Cond.fieldLink "java/lang/AbstractStringBuilder" (18 : Nat) "java/lang/String" "COMPACT_STRINGS" "Z")).before a0 Z = true := hG.1 _ (List.mem_of_getElem? (i := 214) rfl)
theorem w215 {a0 : Array Value} {Z : State} {EL : List (String × Nat)} (hG : oG a0 Z EL) : ((Jvm.Cond.fieldLink "java/lang/AbstractStringBuilder" (15 : Nat) "java/lang/AbstractStringBuilder" "value" "[B")).before a0 Z = true := hG.1 _ (List.mem_of_getElem? (i := 215) rfl)
theorem w216 {a0 : Array Value} {Z : State} {EL : List (String × Nat)} (hG : oG a0 Z EL) : ((Jvm.Cond.lays "java/lang/StringBuilder" "java/lang/AbstractStringBuilder" "value" "[B")).before a0 Z = true := hG.1 _ (List.mem_of_getElem? (i := 216) rfl)
theorem w217 {a0 : Array Value} {Z : State} {EL : List (String × Nat)} (hG : oG a0 Z EL) : ((Jvm.Cond.fieldLink "java/lang/AbstractStringBuilder" (22 : Nat) "java/lang/AbstractStringBuilder" "coder" "B")).before a0 Z = true := hG.1 _ (List.mem_of_getElem? (i := 217) rfl)
theorem w218 {a0 : Array Value} {Z : State} {EL : List (String × Nat)} (hG : oG a0 Z EL) : ((Jvm.Cond.lays "java/lang/StringBuilder" "java/lang/AbstractStringBuilder" "coder" "B")).before a0 Z = true := hG.1 _ (List.mem_of_getElem? (i := 218) rfl)
theorem w219 {a0 : Array Value} {Z : State} {EL : List (String × Nat)} (hG : oG a0 Z EL) : ((Jvm.Cond.methodLink "com/example/gated_claim/gatedclaim/idempotency/IdempotencyKey" (82 : Nat) ({ cls := "java/lang/StringBuilder", name := "append", desc := "(C)Ljava/lang/StringBuilder;" } : Jvm.MethodName))).before a0 Z = true := hG.1 _ (List.mem_of_getElem? (i := 219) rfl)
theorem w220 {a0 : Array Value} {Z : State} {EL : List (String × Nat)} (hG : oG a0 Z EL) : ((Jvm.Cond.declares ({ cls := "java/lang/StringBuilder", name := "append", desc := "(C)Ljava/lang/StringBuilder;" } : Jvm.MethodName))).before a0 Z = true := hG.1 _ (List.mem_of_getElem? (i := 220) rfl)
theorem w221 {a0 : Array Value} {Z : State} {EL : List (String × Nat)} (hG : oG a0 Z EL) : ((Jvm.Cond.instanceMethod ({ cls := "java/lang/StringBuilder", name := "append", desc := "(C)Ljava/lang/StringBuilder;" } : Jvm.MethodName))).before a0 Z = true := hG.1 _ (List.mem_of_getElem? (i := 221) rfl)
theorem w222 {a0 : Array Value} {Z : State} {EL : List (String × Nat)} (hG : oG a0 Z EL) : ((Jvm.Cond.selects "java/lang/StringBuilder" ({ cls := "java/lang/StringBuilder", name := "append", desc := "(C)Ljava/lang/StringBuilder;" } : Jvm.MethodName) ({ cls := "java/lang/StringBuilder", name := "append", desc := "(C)Ljava/lang/StringBuilder;" } : Jvm.MethodName))).before a0 Z = true := hG.1 _ (List.mem_of_getElem? (i := 222) rfl)
theorem w223 {a0 : Array Value} {Z : State} {EL : List (String × Nat)} (hG : oG a0 Z EL) : ((Jvm.Cond.code ({ cls := "java/lang/StringBuilder", name := "append", desc := "(C)Ljava/lang/StringBuilder;" } : Jvm.MethodName) jdk_67_method_14_code (2 : Nat) (Option.some (Jvm.ClassFile.FieldType.object "java/lang/StringBuilder")))).before a0 Z = true := hG.1 _ (List.mem_of_getElem? (i := 223) rfl)
theorem w224 {a0 : Array Value} {Z : State} {EL : List (String × Nat)} (hG : oG a0 Z EL) : ((Jvm.Cond.methodLink "java/lang/StringBuilder" (50 : Nat) ({ cls := "java/lang/AbstractStringBuilder", name := "append", desc := "(C)Ljava/lang/AbstractStringBuilder;" } : Jvm.MethodName))).before a0 Z = true := hG.1 _ (List.mem_of_getElem? (i := 224) rfl)
theorem w225 {a0 : Array Value} {Z : State} {EL : List (String × Nat)} (hG : oG a0 Z EL) : ((Jvm.Cond.instanceMethod ({ cls := "java/lang/AbstractStringBuilder", name := "append", desc := "(C)Ljava/lang/AbstractStringBuilder;" } : Jvm.MethodName))).before a0 Z = true := hG.1 _ (List.mem_of_getElem? (i := 225) rfl)
theorem w226 {a0 : Array Value} {Z : State} {EL : List (String × Nat)} (hG : oG a0 Z EL) : ((Jvm.Cond.superclass "java/lang/StringBuilder" "java/lang/AbstractStringBuilder")).before a0 Z = true := hG.1 _ (List.mem_of_getElem? (i := 226) rfl)
theorem w228 {a0 : Array Value} {Z : State} {EL : List (String × Nat)} (hG : oG a0 Z EL) : ((Jvm.Cond.code ({ cls := "java/lang/AbstractStringBuilder", name := "append", desc := "(C)Ljava/lang/AbstractStringBuilder;" } : Jvm.MethodName) jdk_68_method_31_code (2 : Nat) (Option.some (Jvm.ClassFile.FieldType.object "java/lang/AbstractStringBuilder")))).before a0 Z = true := hG.1 _ (List.mem_of_getElem? (i := 228) rfl)
theorem w229 {a0 : Array Value} {Z : State} {EL : List (String × Nat)} (hG : oG a0 Z EL) : ((Jvm.Cond.fieldLink "java/lang/AbstractStringBuilder" (79 : Nat) "java/lang/AbstractStringBuilder" "count" "I")).before a0 Z = true := hG.1 _ (List.mem_of_getElem? (i := 229) rfl)
theorem w230 {a0 : Array Value} {Z : State} {EL : List (String × Nat)} (hG : oG a0 Z EL) : ((Jvm.Cond.lays "java/lang/StringBuilder" "java/lang/AbstractStringBuilder" "count" "I")).before a0 Z = true := hG.1 _ (List.mem_of_getElem? (i := 230) rfl)
theorem w231 {a0 : Array Value} {Z : State} {EL : List (String × Nat)} (hG : oG a0 Z EL) : ((Jvm.Cond.methodLink "java/lang/AbstractStringBuilder" (100 : Nat) ({ cls := "java/lang/AbstractStringBuilder", name := "ensureCapacityInternal", desc := "(I)V" } : Jvm.MethodName))).before a0 Z = true := hG.1 _ (List.mem_of_getElem? (i := 231) rfl)
theorem w232 {a0 : Array Value} {Z : State} {EL : List (String × Nat)} (hG : oG a0 Z EL) : ((Jvm.Cond.instanceMethod ({ cls := "java/lang/AbstractStringBuilder", name := "ensureCapacityInternal", desc := "(I)V" } : Jvm.MethodName))).before a0 Z = true := hG.1 _ (List.mem_of_getElem? (i := 232) rfl)
theorem w233 {a0 : Array Value} {Z : State} {EL : List (String × Nat)} (hG : oG a0 Z EL) : ((Jvm.Cond.privateMethod ({ cls := "java/lang/AbstractStringBuilder", name := "ensureCapacityInternal", desc := "(I)V" } : Jvm.MethodName))).before a0 Z = true := hG.1 _ (List.mem_of_getElem? (i := 233) rfl)
theorem w234 {a0 : Array Value} {Z : State} {EL : List (String × Nat)} (hG : oG a0 Z EL) : ((Jvm.Cond.selects "java/lang/StringBuilder" ({ cls := "java/lang/AbstractStringBuilder", name := "ensureCapacityInternal", desc := "(I)V" } : Jvm.MethodName) ({ cls := "java/lang/AbstractStringBuilder", name := "ensureCapacityInternal", desc := "(I)V" } : Jvm.MethodName))).before a0 Z = true := hG.1 _ (List.mem_of_getElem? (i := 234) rfl)
theorem w235 {a0 : Array Value} {Z : State} {EL : List (String × Nat)} (hG : oG a0 Z EL) : ((Jvm.Cond.code ({ cls := "java/lang/AbstractStringBuilder", name := "ensureCapacityInternal", desc := "(I)V" } : Jvm.MethodName) jdk_68_method_9_code (3 : Nat) (Option.none : Option Jvm.ClassFile.FieldType))).before a0 Z = true := hG.1 _ (List.mem_of_getElem? (i := 235) rfl)
theorem w236 {a0 : Array Value} {Z : State} {EL : List (String × Nat)} (hG : oG a0 Z EL) : ((Jvm.Cond.methodLink "java/lang/AbstractStringBuilder" (83 : Nat) ({ cls := "java/lang/AbstractStringBuilder", name := "isLatin1", desc := "()Z" } : Jvm.MethodName))).before a0 Z = true := hG.1 _ (List.mem_of_getElem? (i := 236) rfl)
theorem w237 {a0 : Array Value} {Z : State} {EL : List (String × Nat)} (hG : oG a0 Z EL) : ((Jvm.Cond.declares ({ cls := "java/lang/AbstractStringBuilder", name := "isLatin1", desc := "()Z" } : Jvm.MethodName))).before a0 Z = true := hG.1 _ (List.mem_of_getElem? (i := 237) rfl)
theorem w238 {a0 : Array Value} {Z : State} {EL : List (String × Nat)} (hG : oG a0 Z EL) : ((Jvm.Cond.instanceMethod ({ cls := "java/lang/AbstractStringBuilder", name := "isLatin1", desc := "()Z" } : Jvm.MethodName))).before a0 Z = true := hG.1 _ (List.mem_of_getElem? (i := 238) rfl)
theorem w239 {a0 : Array Value} {Z : State} {EL : List (String × Nat)} (hG : oG a0 Z EL) : ((Jvm.Cond.selects "java/lang/StringBuilder" ({ cls := "java/lang/AbstractStringBuilder", name := "isLatin1", desc := "()Z" } : Jvm.MethodName) ({ cls := "java/lang/AbstractStringBuilder", name := "isLatin1", desc := "()Z" } : Jvm.MethodName))).before a0 Z = true := hG.1 _ (List.mem_of_getElem? (i := 239) rfl)
theorem w240 {a0 : Array Value} {Z : State} {EL : List (String × Nat)} (hG : oG a0 Z EL) : ((Jvm.Cond.code ({ cls := "java/lang/AbstractStringBuilder", name := "isLatin1", desc := "()Z" } : Jvm.MethodName) jdk_68_method_68_code (1 : Nat) (Option.some Jvm.ClassFile.FieldType.boolean))).before a0 Z = true := hG.1 _ (List.mem_of_getElem? (i := 240) rfl)
theorem w241 {a0 : Array Value} {Z : State} {EL : List (String × Nat)} (hG : oG a0 Z EL) : ((Jvm.Cond.methodLink "java/lang/AbstractStringBuilder" (191 : Nat) ({ cls := "java/lang/StringLatin1", name := "canEncode", desc := "(C)Z" } : Jvm.MethodName))).before a0 Z = true := hG.1 _ (List.mem_of_getElem? (i := 241) rfl)
theorem w242 {a0 : Array Value} {Z : State} {EL : List (String × Nat)} (hG : oG a0 Z EL) : ((Jvm.Cond.static ({ cls := "java/lang/StringLatin1", name := "canEncode", desc := "(C)Z" } : Jvm.MethodName))).before a0 Z = true := hG.1 _ (List.mem_of_getElem? (i := 242) rfl)
theorem w243 {a0 : Array Value} {Z : State} {EL : List (String × Nat)} (hG : oG a0 Z EL) : ((Jvm.Cond.code ({ cls := "java/lang/StringLatin1", name := "canEncode", desc := "(C)Z" } : Jvm.MethodName) jdk_43_method_3_code (1 : Nat) (Option.some Jvm.ClassFile.FieldType.boolean))).before a0 Z = true := hG.1 _ (List.mem_of_getElem? (i := 243) rfl)
theorem w244 {a0 : Array Value} {Z : State} {EL : List (String × Nat)} (hG : oG a0 Z EL) : ((Jvm.Cond.methodLink "com/example/gated_claim/gatedclaim/idempotency/IdempotencyKey" (76 : Nat) ({ cls := "java/lang/StringBuilder", name := "toString", desc := "()Ljava/lang/String;" } : Jvm.MethodName))).before a0 Z = true := hG.1 _ (List.mem_of_getElem? (i := 244) rfl)
theorem w245 {a0 : Array Value} {Z : State} {EL : List (String × Nat)} (hG : oG a0 Z EL) : ((Jvm.Cond.declares ({ cls := "java/lang/StringBuilder", name := "toString", desc := "()Ljava/lang/String;" } : Jvm.MethodName))).before a0 Z = true := hG.1 _ (List.mem_of_getElem? (i := 245) rfl)
theorem w246 {a0 : Array Value} {Z : State} {EL : List (String × Nat)} (hG : oG a0 Z EL) : ((Jvm.Cond.instanceMethod ({ cls := "java/lang/StringBuilder", name := "toString", desc := "()Ljava/lang/String;" } : Jvm.MethodName))).before a0 Z = true := hG.1 _ (List.mem_of_getElem? (i := 246) rfl)
theorem w247 {a0 : Array Value} {Z : State} {EL : List (String × Nat)} (hG : oG a0 Z EL) : ((Jvm.Cond.selects "java/lang/StringBuilder" ({ cls := "java/lang/StringBuilder", name := "toString", desc := "()Ljava/lang/String;" } : Jvm.MethodName) ({ cls := "java/lang/StringBuilder", name := "toString", desc := "()Ljava/lang/String;" } : Jvm.MethodName))).before a0 Z = true := hG.1 _ (List.mem_of_getElem? (i := 247) rfl)
theorem w248 {a0 : Array Value} {Z : State} {EL : List (String × Nat)} (hG : oG a0 Z EL) : ((Jvm.Cond.code ({ cls := "java/lang/StringBuilder", name := "toString", desc := "()Ljava/lang/String;" } : Jvm.MethodName) jdk_67_method_42_code (1 : Nat) (Option.some (Jvm.ClassFile.FieldType.object "java/lang/String")))).before a0 Z = true := hG.1 _ (List.mem_of_getElem? (i := 248) rfl)
theorem w249 {a0 : Array Value} {Z : State} {EL : List (String × Nat)} (hG : oG a0 Z EL) : ((Jvm.Cond.classLink "java/lang/StringBuilder" (18 : Nat) "java/lang/String")).before a0 Z = true := hG.1 _ (List.mem_of_getElem? (i := 249) rfl)
theorem w250 {a0 : Array Value} {Z : State} {EL : List (String × Nat)} (hG : oG a0 Z EL) : ((Jvm.Cond.methodLink "java/lang/StringBuilder" (137 : Nat) ({ cls := "java/lang/String", name := "<init>", desc := "(Ljava/lang/StringBuilder;)V" } : Jvm.MethodName))).before a0 Z = true := hG.1 _ (List.mem_of_getElem? (i := 250) rfl)
theorem w251 {a0 : Array Value} {Z : State} {EL : List (String × Nat)} (hG : oG a0 Z EL) : ((Jvm.Cond.instanceMethod ({ cls := "java/lang/String", name := "<init>", desc := "(Ljava/lang/StringBuilder;)V" } : Jvm.MethodName))).before a0 Z = true := hG.1 _ (List.mem_of_getElem? (i := 251) rfl)
theorem w252 {a0 : Array Value} {Z : State} {EL : List (String × Nat)} (hG : oG a0 Z EL) : ((Jvm.Cond.code ({ cls := "java/lang/String", name := "<init>", desc := "(Ljava/lang/StringBuilder;)V" } : Jvm.MethodName) jdk_42_method_53_code (2 : Nat) (Option.none : Option Jvm.ClassFile.FieldType))).before a0 Z = true := hG.1 _ (List.mem_of_getElem? (i := 252) rfl)
theorem w253 {a0 : Array Value} {Z : State} {EL : List (String × Nat)} (hG : oG a0 Z EL) : ((Jvm.Cond.methodLink "java/lang/String" (489 : Nat) ({ cls := "java/lang/String", name := "<init>", desc := "(Ljava/lang/AbstractStringBuilder;Ljava/lang/Void;)V" } : Jvm.MethodName))).before a0 Z = true := hG.1 _ (List.mem_of_getElem? (i := 253) rfl)
theorem w254 {a0 : Array Value} {Z : State} {EL : List (String × Nat)} (hG : oG a0 Z EL) : ((Jvm.Cond.instanceMethod ({ cls := "java/lang/String", name := "<init>", desc := "(Ljava/lang/AbstractStringBuilder;Ljava/lang/Void;)V" } : Jvm.MethodName))).before a0 Z = true := hG.1 _ (List.mem_of_getElem? (i := 254) rfl)
theorem w255 {a0 : Array Value} {Z : State} {EL : List (String × Nat)} (hG : oG a0 Z EL) : ((Jvm.Cond.code ({ cls := "java/lang/String", name := "<init>", desc := "(Ljava/lang/AbstractStringBuilder;Ljava/lang/Void;)V" } : Jvm.MethodName) jdk_42_method_150_code (5 : Nat) (Option.none : Option Jvm.ClassFile.FieldType))).before a0 Z = true := hG.1 _ (List.mem_of_getElem? (i := 255) rfl)
theorem w256 {a0 : Array Value} {Z : State} {EL : List (String × Nat)} (hG : oG a0 Z EL) : ((Jvm.Cond.methodLink "java/lang/String" (552 : Nat) ({ cls := "java/lang/AbstractStringBuilder", name := "getValue", desc := "()[B" } : Jvm.MethodName))).before a0 Z = true := hG.1 _ (List.mem_of_getElem? (i := 256) rfl)
theorem w257 {a0 : Array Value} {Z : State} {EL : List (String × Nat)} (hG : oG a0 Z EL) : ((Jvm.Cond.declares ({ cls := "java/lang/AbstractStringBuilder", name := "getValue", desc := "()[B" } : Jvm.MethodName))).before a0 Z = true := hG.1 _ (List.mem_of_getElem? (i := 257) rfl)
theorem w258 {a0 : Array Value} {Z : State} {EL : List (String × Nat)} (hG : oG a0 Z EL) : ((Jvm.Cond.instanceMethod ({ cls := "java/lang/AbstractStringBuilder", name := "getValue", desc := "()[B" } : Jvm.MethodName))).before a0 Z = true := hG.1 _ (List.mem_of_getElem? (i := 258) rfl)
theorem w259 {a0 : Array Value} {Z : State} {EL : List (String × Nat)} (hG : oG a0 Z EL) : ((Jvm.Cond.selects "java/lang/StringBuilder" ({ cls := "java/lang/AbstractStringBuilder", name := "getValue", desc := "()[B" } : Jvm.MethodName) ({ cls := "java/lang/AbstractStringBuilder", name := "getValue", desc := "()[B" } : Jvm.MethodName))).before a0 Z = true := hG.1 _ (List.mem_of_getElem? (i := 259) rfl)
theorem w260 {a0 : Array Value} {Z : State} {EL : List (String × Nat)} (hG : oG a0 Z EL) : ((Jvm.Cond.code ({ cls := "java/lang/AbstractStringBuilder", name := "getValue", desc := "()[B" } : Jvm.MethodName) jdk_68_method_64_code (1 : Nat) (Option.some (Jvm.ClassFile.FieldType.array Jvm.ClassFile.FieldType.byte)))).before a0 Z = true := hG.1 _ (List.mem_of_getElem? (i := 260) rfl)
theorem w261 {a0 : Array Value} {Z : State} {EL : List (String × Nat)} (hG : oG a0 Z EL) : ((Jvm.Cond.methodLink "java/lang/String" (549 : Nat) ({ cls := "java/lang/AbstractStringBuilder", name := "length", desc := "()I" } : Jvm.MethodName))).before a0 Z = true := hG.1 _ (List.mem_of_getElem? (i := 261) rfl)
theorem w262 {a0 : Array Value} {Z : State} {EL : List (String × Nat)} (hG : oG a0 Z EL) : ((Jvm.Cond.declares ({ cls := "java/lang/AbstractStringBuilder", name := "length", desc := "()I" } : Jvm.MethodName))).before a0 Z = true := hG.1 _ (List.mem_of_getElem? (i := 262) rfl)
theorem w263 {a0 : Array Value} {Z : State} {EL : List (String × Nat)} (hG : oG a0 Z EL) : ((Jvm.Cond.instanceMethod ({ cls := "java/lang/AbstractStringBuilder", name := "length", desc := "()I" } : Jvm.MethodName))).before a0 Z = true := hG.1 _ (List.mem_of_getElem? (i := 263) rfl)
theorem w264 {a0 : Array Value} {Z : State} {EL : List (String × Nat)} (hG : oG a0 Z EL) : ((Jvm.Cond.selects "java/lang/StringBuilder" ({ cls := "java/lang/AbstractStringBuilder", name := "length", desc := "()I" } : Jvm.MethodName) ({ cls := "java/lang/StringBuilder", name := "length", desc := "()I" } : Jvm.MethodName))).before a0 Z = true := hG.1 _ (List.mem_of_getElem? (i := 264) rfl)
theorem w265 {a0 : Array Value} {Z : State} {EL : List (String × Nat)} (hG : oG a0 Z EL) : ((Jvm.Cond.instanceMethod ({ cls := "java/lang/StringBuilder", name := "length", desc := "()I" } : Jvm.MethodName))).before a0 Z = true := hG.1 _ (List.mem_of_getElem? (i := 265) rfl)
theorem w266 {a0 : Array Value} {Z : State} {EL : List (String × Nat)} (hG : oG a0 Z EL) : ((Jvm.Cond.code ({ cls := "java/lang/StringBuilder", name := "length", desc := "()I" } : Jvm.MethodName) jdk_67_method_93_code (1 : Nat) (Option.some Jvm.ClassFile.FieldType.int))).before a0 Z = true := hG.1 _ (List.mem_of_getElem? (i := 266) rfl)
theorem w267 {a0 : Array Value} {Z : State} {EL : List (String × Nat)} (hG : oG a0 Z EL) : ((Jvm.Cond.methodLink "java/lang/StringBuilder" (343 : Nat) ({ cls := "java/lang/AbstractStringBuilder", name := "length", desc := "()I" } : Jvm.MethodName))).before a0 Z = true := hG.1 _ (List.mem_of_getElem? (i := 267) rfl)
theorem w268 {a0 : Array Value} {Z : State} {EL : List (String × Nat)} (hG : oG a0 Z EL) : ((Jvm.Cond.code ({ cls := "java/lang/AbstractStringBuilder", name := "length", desc := "()I" } : Jvm.MethodName) jdk_68_method_6_code (1 : Nat) (Option.some Jvm.ClassFile.FieldType.int))).before a0 Z = true := hG.1 _ (List.mem_of_getElem? (i := 268) rfl)
theorem w269 {a0 : Array Value} {Z : State} {EL : List (String × Nat)} (hG : oG a0 Z EL) : ((Jvm.Cond.methodLink "java/lang/String" (1047 : Nat) ({ cls := "java/lang/AbstractStringBuilder", name := "isLatin1", desc := "()Z" } : Jvm.MethodName))).before a0 Z = true := hG.1 _ (List.mem_of_getElem? (i := 269) rfl)
theorem w270 {a0 : Array Value} {Z : State} {EL : List (String × Nat)} (hG : oG a0 Z EL) : ((Jvm.Cond.methodLink "java/lang/String" (54 : Nat) ({ cls := "java/util/Arrays", name := "copyOfRange", desc := "([BII)[B" } : Jvm.MethodName))).before a0 Z = true := hG.1 _ (List.mem_of_getElem? (i := 270) rfl)
theorem strAt {a0 : Array Value} {Z : State} {EL : List (String × Nat)} (hG : oG a0 Z EL) : ∀ a ∈ Bundle.stringAtoms, a.before a0 Z = true := by
  intro a ha
  simp only [Bundle.stringAtoms, Bundle.sN, List.mem_cons, List.not_mem_nil, or_false] at ha
  rcases ha with rfl | rfl | rfl | rfl | rfl | rfl | rfl
  · exact w11 hG
  · exact w10 hG
  · exact w27 hG
  · exact w37 hG
  · exact w35 hG
  · exact w43 hG
  · exact w44 hG
theorem d1_0 : decode method_3_code 0 = .ok (.iload_n 0, 1) := by decide +kernel
theorem d1_1 : decode method_3_code 1 = .ok (.iload_n 1, 1) := by decide +kernel
theorem d1_2 : decode method_3_code 2 = .ok (.iushr, 1) := by decide +kernel
theorem d1_3 : decode method_3_code 3 = .ok (.iconst 1, 1) := by decide +kernel
theorem d1_4 : decode method_3_code 4 = .ok (.iand, 1) := by decide +kernel
theorem d1_5 : decode method_3_code 5 = .ok (.ifCond .eq 8, 3) := by decide +kernel
theorem d1_8 : decode method_3_code 8 = .ok (.bipush 9, 2) := by decide +kernel
theorem d1_10 : decode method_3_code 10 = .ok (.goto 5, 3) := by decide +kernel
theorem d1_13 : decode method_3_code 13 = .ok (.bipush 32, 2) := by decide +kernel
theorem d1_15 : decode method_3_code 15 = .ok (.ireturn, 1) := by decide +kernel
theorem d2_0 : decode method_7_code 0 = .ok (.bipush 33, 2) := by decide +kernel
theorem d2_2 : decode method_7_code 2 = .ok (.iload_n 0, 1) := by decide +kernel
theorem d2_3 : decode method_7_code 3 = .ok (.iadd, 1) := by decide +kernel
theorem d2_4 : decode method_7_code 4 = .ok (.istore_n 1, 1) := by decide +kernel
theorem d2_5 : decode method_7_code 5 = .ok (.iload_n 1, 1) := by decide +kernel
theorem d2_6 : decode method_7_code 6 = .ok (.bipush 34, 2) := by decide +kernel
theorem d2_8 : decode method_7_code 8 = .ok (.if_icmp .lt 6, 3) := by decide +kernel
theorem d2_11 : decode method_7_code 11 = .ok (.iinc 1 1, 3) := by decide +kernel
theorem d2_14 : decode method_7_code 14 = .ok (.iload_n 1, 1) := by decide +kernel
theorem d2_15 : decode method_7_code 15 = .ok (.i2c, 1) := by decide +kernel
theorem d2_16 : decode method_7_code 16 = .ok (.ireturn, 1) := by decide +kernel
theorem d3_0 : decode jdk_42_method_3_code 0 = .ok (.aload_n 0, 1) := by decide +kernel
theorem d3_1 : decode jdk_42_method_3_code 1 = .ok (.aload_n 1, 1) := by decide +kernel
theorem d3_2 : decode jdk_42_method_3_code 2 = .ok (.iconst 0, 1) := by decide +kernel
theorem d3_3 : decode jdk_42_method_3_code 3 = .ok (.aload_n 1, 1) := by decide +kernel
theorem d3_4 : decode jdk_42_method_3_code 4 = .ok (.arraylength, 1) := by decide +kernel
theorem d3_5 : decode jdk_42_method_3_code 5 = .ok (.aconst_null, 1) := by decide +kernel
theorem d3_6 : decode jdk_42_method_3_code 6 = .ok (.invokespecial 27, 3) := by decide +kernel
theorem d3_9 : decode jdk_42_method_3_code 9 = .ok (.return_, 1) := by decide +kernel
theorem d4_0 : decode jdk_42_method_149_code 0 = .ok (.aload_n 0, 1) := by decide +kernel
theorem d4_1 : decode jdk_42_method_149_code 1 = .ok (.invokespecial 1, 3) := by decide +kernel
theorem d4_4 : decode jdk_42_method_149_code 4 = .ok (.iload_n 3, 1) := by decide +kernel
theorem d4_5 : decode jdk_42_method_149_code 5 = .ok (.ifCond .ne 22, 3) := by decide +kernel
theorem d4_27 : decode jdk_42_method_149_code 27 = .ok (.getstatic 38, 3) := by decide +kernel
theorem d4_30 : decode jdk_42_method_149_code 30 = .ok (.ifCond .eq 28, 3) := by decide +kernel
theorem d4_33 : decode jdk_42_method_149_code 33 = .ok (.aload_n 1, 1) := by decide +kernel
theorem d4_34 : decode jdk_42_method_149_code 34 = .ok (.iload_n 2, 1) := by decide +kernel
theorem d4_35 : decode jdk_42_method_149_code 35 = .ok (.iload_n 3, 1) := by decide +kernel
theorem d4_36 : decode jdk_42_method_149_code 36 = .ok (.invokestatic 177, 3) := by decide +kernel
theorem d4_39 : decode jdk_42_method_149_code 39 = .ok (.astore 5, 2) := by decide +kernel
theorem d4_41 : decode jdk_42_method_149_code 41 = .ok (.aload_n 0, 1) := by decide +kernel
theorem d4_42 : decode jdk_42_method_149_code 42 = .ok (.aload 5, 2) := by decide +kernel
theorem d4_44 : decode jdk_42_method_149_code 44 = .ok (.iload_n 3, 1) := by decide +kernel
theorem d4_45 : decode jdk_42_method_149_code 45 = .ok (.invokestatic 47, 3) := by decide +kernel
theorem d4_48 : decode jdk_42_method_149_code 48 = .ok (.putfield 15, 3) := by decide +kernel
theorem d4_51 : decode jdk_42_method_149_code 51 = .ok (.aload_n 0, 1) := by decide +kernel
theorem d4_52 : decode jdk_42_method_149_code 52 = .ok (.aload 5, 2) := by decide +kernel
theorem d4_54 : decode jdk_42_method_149_code 54 = .ok (.putfield 9, 3) := by decide +kernel
theorem d4_57 : decode jdk_42_method_149_code 57 = .ok (.return_, 1) := by decide +kernel
theorem d6_0 : decode jdk_52_method_16_code 0 = .ok (.iload_n 2, 1) := by decide +kernel
theorem d6_1 : decode jdk_52_method_16_code 1 = .ok (.newarray .byte, 2) := by decide +kernel
theorem d6_3 : decode jdk_52_method_16_code 3 = .ok (.astore_n 3, 1) := by decide +kernel
theorem d6_4 : decode jdk_52_method_16_code 4 = .ok (.aload_n 0, 1) := by decide +kernel
theorem d6_5 : decode jdk_52_method_16_code 5 = .ok (.iload_n 1, 1) := by decide +kernel
theorem d6_6 : decode jdk_52_method_16_code 6 = .ok (.aload_n 3, 1) := by decide +kernel
theorem d6_7 : decode jdk_52_method_16_code 7 = .ok (.iconst 0, 1) := by decide +kernel
theorem d6_8 : decode jdk_52_method_16_code 8 = .ok (.iload_n 2, 1) := by decide +kernel
theorem d6_9 : decode jdk_52_method_16_code 9 = .ok (.invokestatic 115, 3) := by decide +kernel
theorem d6_12 : decode jdk_52_method_16_code 12 = .ok (.istore 4, 2) := by decide +kernel
theorem d6_14 : decode jdk_52_method_16_code 14 = .ok (.iload 4, 2) := by decide +kernel
theorem d6_16 : decode jdk_52_method_16_code 16 = .ok (.iload_n 2, 1) := by decide +kernel
theorem d6_17 : decode jdk_52_method_16_code 17 = .ok (.if_icmp .eq 40, 3) := by decide +kernel
theorem d6_57 : decode jdk_52_method_16_code 57 = .ok (.aload_n 3, 1) := by decide +kernel
theorem d6_58 : decode jdk_52_method_16_code 58 = .ok (.areturn, 1) := by decide +kernel
theorem d7_0 : decode jdk_52_method_21_code 0 = .ok (.iconst 0, 1) := by decide +kernel
theorem d7_1 : decode jdk_52_method_21_code 1 = .ok (.istore 5, 2) := by decide +kernel
theorem d7_3 : decode jdk_52_method_21_code 3 = .ok (.iload 5, 2) := by decide +kernel
theorem d7_5 : decode jdk_52_method_21_code 5 = .ok (.iload 4, 2) := by decide +kernel
theorem d7_7 : decode jdk_52_method_21_code 7 = .ok (.if_icmp .ge 37, 3) := by decide +kernel
theorem d7_10 : decode jdk_52_method_21_code 10 = .ok (.aload_n 0, 1) := by decide +kernel
theorem d7_11 : decode jdk_52_method_21_code 11 = .ok (.iload_n 1, 1) := by decide +kernel
theorem d7_12 : decode jdk_52_method_21_code 12 = .ok (.caload, 1) := by decide +kernel
theorem d7_13 : decode jdk_52_method_21_code 13 = .ok (.istore 6, 2) := by decide +kernel
theorem d7_15 : decode jdk_52_method_21_code 15 = .ok (.iload 6, 2) := by decide +kernel
theorem d7_17 : decode jdk_52_method_21_code 17 = .ok (.sipush 255, 3) := by decide +kernel
theorem d7_20 : decode jdk_52_method_21_code 20 = .ok (.if_icmp .le 6, 3) := by decide +kernel
theorem d7_23 : decode jdk_52_method_21_code 23 = .ok (.iload 5, 2) := by decide +kernel
theorem d7_25 : decode jdk_52_method_21_code 25 = .ok (.ireturn, 1) := by decide +kernel
theorem d7_26 : decode jdk_52_method_21_code 26 = .ok (.aload_n 2, 1) := by decide +kernel
theorem d7_27 : decode jdk_52_method_21_code 27 = .ok (.iload_n 3, 1) := by decide +kernel
theorem d7_28 : decode jdk_52_method_21_code 28 = .ok (.iload 6, 2) := by decide +kernel
theorem d7_30 : decode jdk_52_method_21_code 30 = .ok (.i2b, 1) := by decide +kernel
theorem d7_31 : decode jdk_52_method_21_code 31 = .ok (.bastore, 1) := by decide +kernel
theorem d7_32 : decode jdk_52_method_21_code 32 = .ok (.iinc 1 1, 3) := by decide +kernel
theorem d7_35 : decode jdk_52_method_21_code 35 = .ok (.iinc 3 1, 3) := by decide +kernel
theorem d7_38 : decode jdk_52_method_21_code 38 = .ok (.iinc 5 1, 3) := by decide +kernel
theorem d7_41 : decode jdk_52_method_21_code 41 = .ok (.goto (-38), 3) := by decide +kernel
theorem d7_44 : decode jdk_52_method_21_code 44 = .ok (.iload 4, 2) := by decide +kernel
theorem d7_46 : decode jdk_52_method_21_code 46 = .ok (.ireturn, 1) := by decide +kernel
theorem d8_0 : decode jdk_52_method_15_code 0 = .ok (.iload_n 1, 1) := by decide +kernel
theorem d8_1 : decode jdk_52_method_15_code 1 = .ok (.aload_n 0, 1) := by decide +kernel
theorem d8_2 : decode jdk_52_method_15_code 2 = .ok (.arraylength, 1) := by decide +kernel
theorem d8_3 : decode jdk_52_method_15_code 3 = .ok (.isub, 1) := by decide +kernel
theorem d8_4 : decode jdk_52_method_15_code 4 = .ok (.bipush 31, 2) := by decide +kernel
theorem d8_6 : decode jdk_52_method_15_code 6 = .ok (.iushr, 1) := by decide +kernel
theorem d8_7 : decode jdk_52_method_15_code 7 = .ok (.i2b, 1) := by decide +kernel
theorem d8_8 : decode jdk_52_method_15_code 8 = .ok (.ireturn, 1) := by decide +kernel
theorem d9_0 : decode prog_2_method_2_code 0 = .ok (.aload_n 0, 1) := by decide +kernel
theorem d9_1 : decode prog_2_method_2_code 1 = .ok (.ldc 47, 2) := by decide +kernel
theorem d9_3 : decode prog_2_method_2_code 3 = .ok (.invokestatic 9, 3) := by decide +kernel
theorem d9_6 : decode prog_2_method_2_code 6 = .ok (.checkcast 16, 3) := by decide +kernel
theorem d9_9 : decode prog_2_method_2_code 9 = .ok (.invokestatic 49, 3) := by decide +kernel
theorem d9_12 : decode prog_2_method_2_code 12 = .ok (.astore_n 1, 1) := by decide +kernel
theorem d9_13 : decode prog_2_method_2_code 13 = .ok (.aload_n 1, 1) := by decide +kernel
theorem d9_14 : decode prog_2_method_2_code 14 = .ok (.ldc 53, 2) := by decide +kernel
theorem d9_16 : decode prog_2_method_2_code 16 = .ok (.invokevirtual 55, 3) := by decide +kernel
theorem d9_19 : decode prog_2_method_2_code 19 = .ok (.ifCond .eq 15, 3) := by decide +kernel
theorem d9_22 : decode prog_2_method_2_code 22 = .ok (.new 32, 3) := by decide +kernel
theorem d9_25 : decode prog_2_method_2_code 25 = .ok (.dup, 1) := by decide +kernel
theorem d9_26 : decode prog_2_method_2_code 26 = .ok (.aload_n 1, 1) := by decide +kernel
theorem d9_27 : decode prog_2_method_2_code 27 = .ok (.invokestatic 59, 3) := by decide +kernel
theorem d9_30 : decode prog_2_method_2_code 30 = .ok (.invokespecial 62, 3) := by decide +kernel
theorem d9_33 : decode prog_2_method_2_code 33 = .ok (.areturn, 1) := by decide +kernel
theorem d9_34 : decode prog_2_method_2_code 34 = .ok (.aload_n 1, 1) := by decide +kernel
theorem d9_35 : decode prog_2_method_2_code 35 = .ok (.bipush 32, 2) := by decide +kernel
theorem d9_37 : decode prog_2_method_2_code 37 = .ok (.invokevirtual 63, 3) := by decide +kernel
theorem d9_40 : decode prog_2_method_2_code 40 = .ok (.ifCond .ge 12, 3) := by decide +kernel
theorem d9_43 : decode prog_2_method_2_code 43 = .ok (.aload_n 1, 1) := by decide +kernel
theorem d9_44 : decode prog_2_method_2_code 44 = .ok (.bipush 34, 2) := by decide +kernel
theorem d9_46 : decode prog_2_method_2_code 46 = .ok (.invokevirtual 63, 3) := by decide +kernel
theorem d9_49 : decode prog_2_method_2_code 49 = .ok (.ifCond .lt 13, 3) := by decide +kernel
theorem d9_62 : decode prog_2_method_2_code 62 = .ok (.new 32, 3) := by decide +kernel
theorem d9_65 : decode prog_2_method_2_code 65 = .ok (.dup, 1) := by decide +kernel
theorem d9_66 : decode prog_2_method_2_code 66 = .ok (.aload_n 1, 1) := by decide +kernel
theorem d9_67 : decode prog_2_method_2_code 67 = .ok (.invokespecial 62, 3) := by decide +kernel
theorem d9_70 : decode prog_2_method_2_code 70 = .ok (.areturn, 1) := by decide +kernel
theorem d10_0 : decode jdk_31_method_11_code 0 = .ok (.aload_n 0, 1) := by decide +kernel
theorem d10_1 : decode jdk_31_method_11_code 1 = .ok (.ifnonnull 12, 3) := by decide +kernel
theorem d10_13 : decode jdk_31_method_11_code 13 = .ok (.aload_n 0, 1) := by decide +kernel
theorem d10_14 : decode jdk_31_method_11_code 14 = .ok (.areturn, 1) := by decide +kernel
theorem d11_0 : decode prog_2_method_4_code 0 = .ok (.iconst 0, 1) := by decide +kernel
theorem d11_1 : decode prog_2_method_4_code 1 = .ok (.istore_n 1, 1) := by decide +kernel
theorem d11_2 : decode prog_2_method_4_code 2 = .ok (.aload_n 0, 1) := by decide +kernel
theorem d11_3 : decode prog_2_method_4_code 3 = .ok (.invokevirtual 28, 3) := by decide +kernel
theorem d11_6 : decode prog_2_method_4_code 6 = .ok (.istore_n 2, 1) := by decide +kernel
theorem d11_7 : decode prog_2_method_4_code 7 = .ok (.iload_n 1, 1) := by decide +kernel
theorem d11_8 : decode prog_2_method_4_code 8 = .ok (.iload_n 2, 1) := by decide +kernel
theorem d11_9 : decode prog_2_method_4_code 9 = .ok (.if_icmp .ge 20, 3) := by decide +kernel
theorem d11_12 : decode prog_2_method_4_code 12 = .ok (.aload_n 0, 1) := by decide +kernel
theorem d11_13 : decode prog_2_method_4_code 13 = .ok (.iload_n 1, 1) := by decide +kernel
theorem d11_14 : decode prog_2_method_4_code 14 = .ok (.invokevirtual 36, 3) := by decide +kernel
theorem d11_17 : decode prog_2_method_4_code 17 = .ok (.invokestatic 88, 3) := by decide +kernel
theorem d11_20 : decode prog_2_method_4_code 20 = .ok (.ifCond .eq 9, 3) := by decide +kernel
theorem d11_23 : decode prog_2_method_4_code 23 = .ok (.iinc 1 1, 3) := by decide +kernel
theorem d11_26 : decode prog_2_method_4_code 26 = .ok (.goto (-19), 3) := by decide +kernel
theorem d11_29 : decode prog_2_method_4_code 29 = .ok (.iload_n 2, 1) := by decide +kernel
theorem d11_30 : decode prog_2_method_4_code 30 = .ok (.iload_n 1, 1) := by decide +kernel
theorem d11_31 : decode prog_2_method_4_code 31 = .ok (.if_icmp .le 22, 3) := by decide +kernel
theorem d11_34 : decode prog_2_method_4_code 34 = .ok (.aload_n 0, 1) := by decide +kernel
theorem d11_35 : decode prog_2_method_4_code 35 = .ok (.iload_n 2, 1) := by decide +kernel
theorem d11_36 : decode prog_2_method_4_code 36 = .ok (.iconst 1, 1) := by decide +kernel
theorem d11_37 : decode prog_2_method_4_code 37 = .ok (.isub, 1) := by decide +kernel
theorem d11_38 : decode prog_2_method_4_code 38 = .ok (.invokevirtual 36, 3) := by decide +kernel
theorem d11_41 : decode prog_2_method_4_code 41 = .ok (.invokestatic 88, 3) := by decide +kernel
theorem d11_44 : decode prog_2_method_4_code 44 = .ok (.ifCond .eq 9, 3) := by decide +kernel
theorem d11_47 : decode prog_2_method_4_code 47 = .ok (.iinc 2 (-1), 3) := by decide +kernel
theorem d11_50 : decode prog_2_method_4_code 50 = .ok (.goto (-21), 3) := by decide +kernel
theorem d11_53 : decode prog_2_method_4_code 53 = .ok (.aload_n 0, 1) := by decide +kernel
theorem d11_54 : decode prog_2_method_4_code 54 = .ok (.iload_n 1, 1) := by decide +kernel
theorem d11_55 : decode prog_2_method_4_code 55 = .ok (.iload_n 2, 1) := by decide +kernel
theorem d11_56 : decode prog_2_method_4_code 56 = .ok (.invokevirtual 92, 3) := by decide +kernel
theorem d11_59 : decode prog_2_method_4_code 59 = .ok (.areturn, 1) := by decide +kernel
theorem d12_0 : decode jdk_42_method_54_code 0 = .ok (.aload_n 0, 1) := by decide +kernel
theorem d12_1 : decode jdk_42_method_54_code 1 = .ok (.getfield 9, 3) := by decide +kernel
theorem d12_4 : decode jdk_42_method_54_code 4 = .ok (.arraylength, 1) := by decide +kernel
theorem d12_5 : decode jdk_42_method_54_code 5 = .ok (.aload_n 0, 1) := by decide +kernel
theorem d12_6 : decode jdk_42_method_54_code 6 = .ok (.invokevirtual 335, 3) := by decide +kernel
theorem d12_9 : decode jdk_42_method_54_code 9 = .ok (.ishr, 1) := by decide +kernel
theorem d12_10 : decode jdk_42_method_54_code 10 = .ok (.ireturn, 1) := by decide +kernel
theorem d13_0 : decode jdk_42_method_152_code 0 = .ok (.getstatic 38, 3) := by decide +kernel
theorem d13_3 : decode jdk_42_method_152_code 3 = .ok (.ifCond .eq 10, 3) := by decide +kernel
theorem d13_6 : decode jdk_42_method_152_code 6 = .ok (.aload_n 0, 1) := by decide +kernel
theorem d13_7 : decode jdk_42_method_152_code 7 = .ok (.getfield 15, 3) := by decide +kernel
theorem d13_10 : decode jdk_42_method_152_code 10 = .ok (.goto 4, 3) := by decide +kernel
theorem d13_14 : decode jdk_42_method_152_code 14 = .ok (.ireturn, 1) := by decide +kernel
theorem d14_0 : decode jdk_42_method_56_code 0 = .ok (.aload_n 0, 1) := by decide +kernel
theorem d14_1 : decode jdk_42_method_56_code 1 = .ok (.invokevirtual 492, 3) := by decide +kernel
theorem d14_4 : decode jdk_42_method_56_code 4 = .ok (.ifCond .eq 12, 3) := by decide +kernel
theorem d14_7 : decode jdk_42_method_56_code 7 = .ok (.aload_n 0, 1) := by decide +kernel
theorem d14_8 : decode jdk_42_method_56_code 8 = .ok (.getfield 9, 3) := by decide +kernel
theorem d14_11 : decode jdk_42_method_56_code 11 = .ok (.iload_n 1, 1) := by decide +kernel
theorem d14_12 : decode jdk_42_method_56_code 12 = .ok (.invokestatic 495, 3) := by decide +kernel
theorem d14_15 : decode jdk_42_method_56_code 15 = .ok (.ireturn, 1) := by decide +kernel
theorem d15_0 : decode jdk_42_method_154_code 0 = .ok (.getstatic 38, 3) := by decide +kernel
theorem d15_3 : decode jdk_42_method_154_code 3 = .ok (.ifCond .eq 14, 3) := by decide +kernel
theorem d15_6 : decode jdk_42_method_154_code 6 = .ok (.aload_n 0, 1) := by decide +kernel
theorem d15_7 : decode jdk_42_method_154_code 7 = .ok (.getfield 15, 3) := by decide +kernel
theorem d15_10 : decode jdk_42_method_154_code 10 = .ok (.ifCond .ne 7, 3) := by decide +kernel
theorem d15_13 : decode jdk_42_method_154_code 13 = .ok (.iconst 1, 1) := by decide +kernel
theorem d15_14 : decode jdk_42_method_154_code 14 = .ok (.goto 4, 3) := by decide +kernel
theorem d15_17 : decode jdk_42_method_154_code 17 = .ok (.iconst 0, 1) := by decide +kernel
theorem d15_18 : decode jdk_42_method_154_code 18 = .ok (.ireturn, 1) := by decide +kernel
theorem d16_0 : decode jdk_43_method_2_code 0 = .ok (.iload_n 1, 1) := by decide +kernel
theorem d16_1 : decode jdk_43_method_2_code 1 = .ok (.aload_n 0, 1) := by decide +kernel
theorem d16_2 : decode jdk_43_method_2_code 2 = .ok (.arraylength, 1) := by decide +kernel
theorem d16_3 : decode jdk_43_method_2_code 3 = .ok (.invokestatic 9, 3) := by decide +kernel
theorem d16_6 : decode jdk_43_method_2_code 6 = .ok (.aload_n 0, 1) := by decide +kernel
theorem d16_7 : decode jdk_43_method_2_code 7 = .ok (.iload_n 1, 1) := by decide +kernel
theorem d16_8 : decode jdk_43_method_2_code 8 = .ok (.baload, 1) := by decide +kernel
theorem d16_9 : decode jdk_43_method_2_code 9 = .ok (.sipush 255, 3) := by decide +kernel
theorem d16_12 : decode jdk_43_method_2_code 12 = .ok (.iand, 1) := by decide +kernel
theorem d16_13 : decode jdk_43_method_2_code 13 = .ok (.i2c, 1) := by decide +kernel
theorem d16_14 : decode jdk_43_method_2_code 14 = .ok (.ireturn, 1) := by decide +kernel
theorem d17_0 : decode jdk_42_method_155_code 0 = .ok (.iload_n 0, 1) := by decide +kernel
theorem d17_1 : decode jdk_42_method_155_code 1 = .ok (.iload_n 1, 1) := by decide +kernel
theorem d17_2 : decode jdk_42_method_155_code 2 = .ok (.getstatic 1053, 3) := by decide +kernel
theorem d17_5 : decode jdk_42_method_155_code 5 = .ok (.invokestatic 1059, 3) := by decide +kernel
theorem d17_8 : decode jdk_42_method_155_code 8 = .ok (.pop, 1) := by decide +kernel
theorem d17_9 : decode jdk_42_method_155_code 9 = .ok (.return_, 1) := by decide +kernel
theorem d18_0 : decode jdk_41_method_11_code 0 = .ok (.iload_n 0, 1) := by decide +kernel
theorem d18_1 : decode jdk_41_method_11_code 1 = .ok (.ifCond .lt 8, 3) := by decide +kernel
theorem d18_4 : decode jdk_41_method_11_code 4 = .ok (.iload_n 0, 1) := by decide +kernel
theorem d18_5 : decode jdk_41_method_11_code 5 = .ok (.iload_n 1, 1) := by decide +kernel
theorem d18_6 : decode jdk_41_method_11_code 6 = .ok (.if_icmp .lt 10, 3) := by decide +kernel
theorem d18_16 : decode jdk_41_method_11_code 16 = .ok (.iload_n 0, 1) := by decide +kernel
theorem d18_17 : decode jdk_41_method_11_code 17 = .ok (.ireturn, 1) := by decide +kernel
theorem d19_0 : decode prog_2_method_5_code 0 = .ok (.iload_n 0, 1) := by decide +kernel
theorem d19_1 : decode prog_2_method_5_code 1 = .ok (.bipush 32, 2) := by decide +kernel
theorem d19_3 : decode prog_2_method_5_code 3 = .ok (.if_icmp .eq 9, 3) := by decide +kernel
theorem d19_6 : decode prog_2_method_5_code 6 = .ok (.iload_n 0, 1) := by decide +kernel
theorem d19_7 : decode prog_2_method_5_code 7 = .ok (.bipush 9, 2) := by decide +kernel
theorem d19_9 : decode prog_2_method_5_code 9 = .ok (.if_icmp .ne 7, 3) := by decide +kernel
theorem d19_12 : decode prog_2_method_5_code 12 = .ok (.iconst 1, 1) := by decide +kernel
theorem d19_13 : decode prog_2_method_5_code 13 = .ok (.goto 4, 3) := by decide +kernel
theorem d19_16 : decode prog_2_method_5_code 16 = .ok (.iconst 0, 1) := by decide +kernel
theorem d19_17 : decode prog_2_method_5_code 17 = .ok (.ireturn, 1) := by decide +kernel
theorem d20_0 : decode jdk_42_method_92_code 0 = .ok (.aload_n 0, 1) := by decide +kernel
theorem d20_1 : decode jdk_42_method_92_code 1 = .ok (.invokevirtual 505, 3) := by decide +kernel
theorem d20_4 : decode jdk_42_method_92_code 4 = .ok (.istore_n 3, 1) := by decide +kernel
theorem d20_5 : decode jdk_42_method_92_code 5 = .ok (.iload_n 1, 1) := by decide +kernel
theorem d20_6 : decode jdk_42_method_92_code 6 = .ok (.iload_n 2, 1) := by decide +kernel
theorem d20_7 : decode jdk_42_method_92_code 7 = .ok (.iload_n 3, 1) := by decide +kernel
theorem d20_8 : decode jdk_42_method_92_code 8 = .ok (.invokestatic 521, 3) := by decide +kernel
theorem d20_11 : decode jdk_42_method_92_code 11 = .ok (.iload_n 1, 1) := by decide +kernel
theorem d20_12 : decode jdk_42_method_92_code 12 = .ok (.ifCond .ne 10, 3) := by decide +kernel
theorem d20_15 : decode jdk_42_method_92_code 15 = .ok (.iload_n 2, 1) := by decide +kernel
theorem d20_16 : decode jdk_42_method_92_code 16 = .ok (.iload_n 3, 1) := by decide +kernel
theorem d20_17 : decode jdk_42_method_92_code 17 = .ok (.if_icmp .ne 5, 3) := by decide +kernel
theorem d20_20 : decode jdk_42_method_92_code 20 = .ok (.aload_n 0, 1) := by decide +kernel
theorem d20_21 : decode jdk_42_method_92_code 21 = .ok (.areturn, 1) := by decide +kernel
theorem d20_22 : decode jdk_42_method_92_code 22 = .ok (.iload_n 2, 1) := by decide +kernel
theorem d20_23 : decode jdk_42_method_92_code 23 = .ok (.iload_n 1, 1) := by decide +kernel
theorem d20_24 : decode jdk_42_method_92_code 24 = .ok (.isub, 1) := by decide +kernel
theorem d20_25 : decode jdk_42_method_92_code 25 = .ok (.istore 4, 2) := by decide +kernel
theorem d20_27 : decode jdk_42_method_92_code 27 = .ok (.aload_n 0, 1) := by decide +kernel
theorem d20_28 : decode jdk_42_method_92_code 28 = .ok (.invokevirtual 492, 3) := by decide +kernel
theorem d20_31 : decode jdk_42_method_92_code 31 = .ok (.ifCond .eq 16, 3) := by decide +kernel
theorem d20_34 : decode jdk_42_method_92_code 34 = .ok (.aload_n 0, 1) := by decide +kernel
theorem d20_35 : decode jdk_42_method_92_code 35 = .ok (.getfield 9, 3) := by decide +kernel
theorem d20_38 : decode jdk_42_method_92_code 38 = .ok (.iload_n 1, 1) := by decide +kernel
theorem d20_39 : decode jdk_42_method_92_code 39 = .ok (.iload 4, 2) := by decide +kernel
theorem d20_41 : decode jdk_42_method_92_code 41 = .ok (.invokestatic 685, 3) := by decide +kernel
theorem d20_44 : decode jdk_42_method_92_code 44 = .ok (.goto 13, 3) := by decide +kernel
theorem d20_57 : decode jdk_42_method_92_code 57 = .ok (.areturn, 1) := by decide +kernel
theorem d21_0 : decode jdk_42_method_158_code 0 = .ok (.iload_n 0, 1) := by decide +kernel
theorem d21_1 : decode jdk_42_method_158_code 1 = .ok (.iload_n 1, 1) := by decide +kernel
theorem d21_2 : decode jdk_42_method_158_code 2 = .ok (.iload_n 2, 1) := by decide +kernel
theorem d21_3 : decode jdk_42_method_158_code 3 = .ok (.getstatic 1053, 3) := by decide +kernel
theorem d21_6 : decode jdk_42_method_158_code 6 = .ok (.invokestatic 1062, 3) := by decide +kernel
theorem d21_9 : decode jdk_42_method_158_code 9 = .ok (.pop, 1) := by decide +kernel
theorem d21_10 : decode jdk_42_method_158_code 10 = .ok (.return_, 1) := by decide +kernel
theorem d22_0 : decode jdk_41_method_12_code 0 = .ok (.iload_n 0, 1) := by decide +kernel
theorem d22_1 : decode jdk_41_method_12_code 1 = .ok (.ifCond .lt 13, 3) := by decide +kernel
theorem d22_4 : decode jdk_41_method_12_code 4 = .ok (.iload_n 0, 1) := by decide +kernel
theorem d22_5 : decode jdk_41_method_12_code 5 = .ok (.iload_n 1, 1) := by decide +kernel
theorem d22_6 : decode jdk_41_method_12_code 6 = .ok (.if_icmp .gt 8, 3) := by decide +kernel
theorem d22_9 : decode jdk_41_method_12_code 9 = .ok (.iload_n 1, 1) := by decide +kernel
theorem d22_10 : decode jdk_41_method_12_code 10 = .ok (.iload_n 2, 1) := by decide +kernel
theorem d22_11 : decode jdk_41_method_12_code 11 = .ok (.if_icmp .le 11, 3) := by decide +kernel
theorem d22_22 : decode jdk_41_method_12_code 22 = .ok (.iload_n 0, 1) := by decide +kernel
theorem d22_23 : decode jdk_41_method_12_code 23 = .ok (.ireturn, 1) := by decide +kernel
theorem d23_0 : decode jdk_43_method_47_code 0 = .ok (.iload_n 2, 1) := by decide +kernel
theorem d23_1 : decode jdk_43_method_47_code 1 = .ok (.ifCond .ne 6, 3) := by decide +kernel
theorem d23_7 : decode jdk_43_method_47_code 7 = .ok (.new 1, 3) := by decide +kernel
theorem d23_10 : decode jdk_43_method_47_code 10 = .ok (.dup, 1) := by decide +kernel
theorem d23_11 : decode jdk_43_method_47_code 11 = .ok (.aload_n 0, 1) := by decide +kernel
theorem d23_12 : decode jdk_43_method_47_code 12 = .ok (.iload_n 1, 1) := by decide +kernel
theorem d23_13 : decode jdk_43_method_47_code 13 = .ok (.iload_n 1, 1) := by decide +kernel
theorem d23_14 : decode jdk_43_method_47_code 14 = .ok (.iload_n 2, 1) := by decide +kernel
theorem d23_15 : decode jdk_43_method_47_code 15 = .ok (.iadd, 1) := by decide +kernel
theorem d23_16 : decode jdk_43_method_47_code 16 = .ok (.invokestatic 232, 3) := by decide +kernel
theorem d23_19 : decode jdk_43_method_47_code 19 = .ok (.iconst 0, 1) := by decide +kernel
theorem d23_20 : decode jdk_43_method_47_code 20 = .ok (.invokespecial 112, 3) := by decide +kernel
theorem d23_23 : decode jdk_43_method_47_code 23 = .ok (.areturn, 1) := by decide +kernel
theorem d24_0 : decode jdk_65_method_132_code 0 = .ok (.iload_n 1, 1) := by decide +kernel
theorem d24_1 : decode jdk_65_method_132_code 1 = .ok (.ifCond .ne 9, 3) := by decide +kernel
theorem d24_4 : decode jdk_65_method_132_code 4 = .ok (.iload_n 2, 1) := by decide +kernel
theorem d24_5 : decode jdk_65_method_132_code 5 = .ok (.aload_n 0, 1) := by decide +kernel
theorem d24_6 : decode jdk_65_method_132_code 6 = .ok (.arraylength, 1) := by decide +kernel
theorem d24_7 : decode jdk_65_method_132_code 7 = .ok (.if_icmp .eq 10, 3) := by decide +kernel
theorem d24_10 : decode jdk_65_method_132_code 10 = .ok (.aload_n 0, 1) := by decide +kernel
theorem d24_11 : decode jdk_65_method_132_code 11 = .ok (.iload_n 1, 1) := by decide +kernel
theorem d24_12 : decode jdk_65_method_132_code 12 = .ok (.iload_n 2, 1) := by decide +kernel
theorem d24_13 : decode jdk_65_method_132_code 13 = .ok (.invokestatic 339, 3) := by decide +kernel
theorem d24_16 : decode jdk_65_method_132_code 16 = .ok (.areturn, 1) := by decide +kernel
theorem d25_0 : decode jdk_65_method_133_code 0 = .ok (.iload_n 1, 1) := by decide +kernel
theorem d25_1 : decode jdk_65_method_133_code 1 = .ok (.iload_n 2, 1) := by decide +kernel
theorem d25_2 : decode jdk_65_method_133_code 2 = .ok (.invokestatic 343, 3) := by decide +kernel
theorem d25_5 : decode jdk_65_method_133_code 5 = .ok (.iload_n 2, 1) := by decide +kernel
theorem d25_6 : decode jdk_65_method_133_code 6 = .ok (.iload_n 1, 1) := by decide +kernel
theorem d25_7 : decode jdk_65_method_133_code 7 = .ok (.isub, 1) := by decide +kernel
theorem d25_8 : decode jdk_65_method_133_code 8 = .ok (.istore_n 3, 1) := by decide +kernel
theorem d25_9 : decode jdk_65_method_133_code 9 = .ok (.iload_n 3, 1) := by decide +kernel
theorem d25_10 : decode jdk_65_method_133_code 10 = .ok (.newarray .byte, 2) := by decide +kernel
theorem d25_12 : decode jdk_65_method_133_code 12 = .ok (.astore 4, 2) := by decide +kernel
theorem d25_14 : decode jdk_65_method_133_code 14 = .ok (.aload_n 0, 1) := by decide +kernel
theorem d25_15 : decode jdk_65_method_133_code 15 = .ok (.iload_n 1, 1) := by decide +kernel
theorem d25_16 : decode jdk_65_method_133_code 16 = .ok (.aload 4, 2) := by decide +kernel
theorem d25_18 : decode jdk_65_method_133_code 18 = .ok (.iconst 0, 1) := by decide +kernel
theorem d25_19 : decode jdk_65_method_133_code 19 = .ok (.aload_n 0, 1) := by decide +kernel
theorem d25_20 : decode jdk_65_method_133_code 20 = .ok (.arraylength, 1) := by decide +kernel
theorem d25_21 : decode jdk_65_method_133_code 21 = .ok (.iload_n 1, 1) := by decide +kernel
theorem d25_22 : decode jdk_65_method_133_code 22 = .ok (.isub, 1) := by decide +kernel
theorem d25_23 : decode jdk_65_method_133_code 23 = .ok (.iload_n 3, 1) := by decide +kernel
theorem d25_24 : decode jdk_65_method_133_code 24 = .ok (.invokestatic 304, 3) := by decide +kernel
theorem d25_27 : decode jdk_65_method_133_code 27 = .ok (.invokestatic 150, 3) := by decide +kernel
theorem d25_30 : decode jdk_65_method_133_code 30 = .ok (.aload 4, 2) := by decide +kernel
theorem d25_32 : decode jdk_65_method_133_code 32 = .ok (.areturn, 1) := by decide +kernel
theorem d26_0 : decode jdk_65_method_131_code 0 = .ok (.iload_n 1, 1) := by decide +kernel
theorem d26_1 : decode jdk_65_method_131_code 1 = .ok (.iload_n 0, 1) := by decide +kernel
theorem d26_2 : decode jdk_65_method_131_code 2 = .ok (.if_icmp .ge 35, 3) := by decide +kernel
theorem d26_37 : decode jdk_65_method_131_code 37 = .ok (.return_, 1) := by decide +kernel
theorem d27_0 : decode jdk_29_method_69_code 0 = .ok (.iload_n 0, 1) := by decide +kernel
theorem d27_1 : decode jdk_29_method_69_code 1 = .ok (.iload_n 1, 1) := by decide +kernel
theorem d27_2 : decode jdk_29_method_69_code 2 = .ok (.if_icmp .gt 7, 3) := by decide +kernel
theorem d27_5 : decode jdk_29_method_69_code 5 = .ok (.iload_n 0, 1) := by decide +kernel
theorem d27_6 : decode jdk_29_method_69_code 6 = .ok (.goto 4, 3) := by decide +kernel
theorem d27_9 : decode jdk_29_method_69_code 9 = .ok (.iload_n 1, 1) := by decide +kernel
theorem d27_10 : decode jdk_29_method_69_code 10 = .ok (.ireturn, 1) := by decide +kernel
theorem d28_0 : decode jdk_42_method_151_code 0 = .ok (.aload_n 0, 1) := by decide +kernel
theorem d28_1 : decode jdk_42_method_151_code 1 = .ok (.invokespecial 1, 3) := by decide +kernel
theorem d28_4 : decode jdk_42_method_151_code 4 = .ok (.aload_n 0, 1) := by decide +kernel
theorem d28_5 : decode jdk_42_method_151_code 5 = .ok (.aload_n 1, 1) := by decide +kernel
theorem d28_6 : decode jdk_42_method_151_code 6 = .ok (.putfield 9, 3) := by decide +kernel
theorem d28_9 : decode jdk_42_method_151_code 9 = .ok (.aload_n 0, 1) := by decide +kernel
theorem d28_10 : decode jdk_42_method_151_code 10 = .ok (.iload_n 2, 1) := by decide +kernel
theorem d28_11 : decode jdk_42_method_151_code 11 = .ok (.putfield 15, 3) := by decide +kernel
theorem d28_14 : decode jdk_42_method_151_code 14 = .ok (.return_, 1) := by decide +kernel
theorem d29_0 : decode jdk_42_method_76_code 0 = .ok (.aload_n 0, 1) := by decide +kernel
theorem d29_1 : decode jdk_42_method_76_code 1 = .ok (.aload_n 1, 1) := by decide +kernel
theorem d29_2 : decode jdk_42_method_76_code 2 = .ok (.iconst 0, 1) := by decide +kernel
theorem d29_3 : decode jdk_42_method_76_code 3 = .ok (.invokevirtual 624, 3) := by decide +kernel
theorem d29_6 : decode jdk_42_method_76_code 6 = .ok (.ireturn, 1) := by decide +kernel
theorem d30_0 : decode jdk_42_method_75_code 0 = .ok (.iload_n 2, 1) := by decide +kernel
theorem d30_1 : decode jdk_42_method_75_code 1 = .ok (.ifCond .lt 16, 3) := by decide +kernel
theorem d30_4 : decode jdk_42_method_75_code 4 = .ok (.iload_n 2, 1) := by decide +kernel
theorem d30_5 : decode jdk_42_method_75_code 5 = .ok (.aload_n 0, 1) := by decide +kernel
theorem d30_6 : decode jdk_42_method_75_code 6 = .ok (.invokevirtual 505, 3) := by decide +kernel
theorem d30_9 : decode jdk_42_method_75_code 9 = .ok (.aload_n 1, 1) := by decide +kernel
theorem d30_10 : decode jdk_42_method_75_code 10 = .ok (.invokevirtual 505, 3) := by decide +kernel
theorem d30_13 : decode jdk_42_method_75_code 13 = .ok (.isub, 1) := by decide +kernel
theorem d30_14 : decode jdk_42_method_75_code 14 = .ok (.if_icmp .le 5, 3) := by decide +kernel
theorem d30_19 : decode jdk_42_method_75_code 19 = .ok (.aload_n 0, 1) := by decide +kernel
theorem d30_20 : decode jdk_42_method_75_code 20 = .ok (.getfield 9, 3) := by decide +kernel
theorem d30_23 : decode jdk_42_method_75_code 23 = .ok (.astore_n 3, 1) := by decide +kernel
theorem d30_24 : decode jdk_42_method_75_code 24 = .ok (.aload_n 1, 1) := by decide +kernel
theorem d30_25 : decode jdk_42_method_75_code 25 = .ok (.getfield 9, 3) := by decide +kernel
theorem d30_28 : decode jdk_42_method_75_code 28 = .ok (.astore 4, 2) := by decide +kernel
theorem d30_30 : decode jdk_42_method_75_code 30 = .ok (.iconst 0, 1) := by decide +kernel
theorem d30_31 : decode jdk_42_method_75_code 31 = .ok (.istore 5, 2) := by decide +kernel
theorem d30_33 : decode jdk_42_method_75_code 33 = .ok (.aload 4, 2) := by decide +kernel
theorem d30_35 : decode jdk_42_method_75_code 35 = .ok (.arraylength, 1) := by decide +kernel
theorem d30_36 : decode jdk_42_method_75_code 36 = .ok (.istore 6, 2) := by decide +kernel
theorem d30_38 : decode jdk_42_method_75_code 38 = .ok (.aload_n 0, 1) := by decide +kernel
theorem d30_39 : decode jdk_42_method_75_code 39 = .ok (.invokevirtual 335, 3) := by decide +kernel
theorem d30_42 : decode jdk_42_method_75_code 42 = .ok (.istore 7, 2) := by decide +kernel
theorem d30_44 : decode jdk_42_method_75_code 44 = .ok (.iload 7, 2) := by decide +kernel
theorem d30_46 : decode jdk_42_method_75_code 46 = .ok (.aload_n 1, 1) := by decide +kernel
theorem d30_47 : decode jdk_42_method_75_code 47 = .ok (.invokevirtual 335, 3) := by decide +kernel
theorem d30_50 : decode jdk_42_method_75_code 50 = .ok (.if_icmp .ne 32, 3) := by decide +kernel
theorem d30_53 : decode jdk_42_method_75_code 53 = .ok (.iload 7, 2) := by decide +kernel
theorem d30_55 : decode jdk_42_method_75_code 55 = .ok (.iconst 1, 1) := by decide +kernel
theorem d30_56 : decode jdk_42_method_75_code 56 = .ok (.if_icmp .ne 7, 3) := by decide +kernel
theorem d30_63 : decode jdk_42_method_75_code 63 = .ok (.aload_n 3, 1) := by decide +kernel
theorem d30_64 : decode jdk_42_method_75_code 64 = .ok (.iload_n 2, 1) := by decide +kernel
theorem d30_65 : decode jdk_42_method_75_code 65 = .ok (.aload 4, 2) := by decide +kernel
theorem d30_67 : decode jdk_42_method_75_code 67 = .ok (.iconst 0, 1) := by decide +kernel
theorem d30_68 : decode jdk_42_method_75_code 68 = .ok (.iload 6, 2) := by decide +kernel
theorem d30_70 : decode jdk_42_method_75_code 70 = .ok (.invokestatic 607, 3) := by decide +kernel
theorem d30_73 : decode jdk_42_method_75_code 73 = .ok (.ifCond .ge 7, 3) := by decide +kernel
theorem d30_76 : decode jdk_42_method_75_code 76 = .ok (.iconst 1, 1) := by decide +kernel
theorem d30_77 : decode jdk_42_method_75_code 77 = .ok (.goto 4, 3) := by decide +kernel
theorem d30_80 : decode jdk_42_method_75_code 80 = .ok (.iconst 0, 1) := by decide +kernel
theorem d30_81 : decode jdk_42_method_75_code 81 = .ok (.ireturn, 1) := by decide +kernel
theorem d31_0 : decode jdk_48_method_14_code 0 = .ok (.iconst 0, 1) := by decide +kernel
theorem d31_1 : decode jdk_48_method_14_code 1 = .ok (.istore 5, 2) := by decide +kernel
theorem d31_3 : decode jdk_48_method_14_code 3 = .ok (.iload 4, 2) := by decide +kernel
theorem d31_5 : decode jdk_48_method_14_code 5 = .ok (.bipush 7, 2) := by decide +kernel
theorem d31_7 : decode jdk_48_method_14_code 7 = .ok (.if_icmp .le 63, 3) := by decide +kernel
theorem d31_70 : decode jdk_48_method_14_code 70 = .ok (.iload 5, 2) := by decide +kernel
theorem d31_72 : decode jdk_48_method_14_code 72 = .ok (.iload 4, 2) := by decide +kernel
theorem d31_74 : decode jdk_48_method_14_code 74 = .ok (.if_icmp .ge 27, 3) := by decide +kernel
theorem d31_77 : decode jdk_48_method_14_code 77 = .ok (.aload_n 0, 1) := by decide +kernel
theorem d31_78 : decode jdk_48_method_14_code 78 = .ok (.iload_n 1, 1) := by decide +kernel
theorem d31_79 : decode jdk_48_method_14_code 79 = .ok (.iload 5, 2) := by decide +kernel
theorem d31_81 : decode jdk_48_method_14_code 81 = .ok (.iadd, 1) := by decide +kernel
theorem d31_82 : decode jdk_48_method_14_code 82 = .ok (.baload, 1) := by decide +kernel
theorem d31_83 : decode jdk_48_method_14_code 83 = .ok (.aload_n 2, 1) := by decide +kernel
theorem d31_84 : decode jdk_48_method_14_code 84 = .ok (.iload_n 3, 1) := by decide +kernel
theorem d31_85 : decode jdk_48_method_14_code 85 = .ok (.iload 5, 2) := by decide +kernel
theorem d31_87 : decode jdk_48_method_14_code 87 = .ok (.iadd, 1) := by decide +kernel
theorem d31_88 : decode jdk_48_method_14_code 88 = .ok (.baload, 1) := by decide +kernel
theorem d31_89 : decode jdk_48_method_14_code 89 = .ok (.if_icmp .eq 6, 3) := by decide +kernel
theorem d31_92 : decode jdk_48_method_14_code 92 = .ok (.iload 5, 2) := by decide +kernel
theorem d31_94 : decode jdk_48_method_14_code 94 = .ok (.ireturn, 1) := by decide +kernel
theorem d31_95 : decode jdk_48_method_14_code 95 = .ok (.iinc 5 1, 3) := by decide +kernel
theorem d31_98 : decode jdk_48_method_14_code 98 = .ok (.goto (-28), 3) := by decide +kernel
theorem d31_101 : decode jdk_48_method_14_code 101 = .ok (.iconst (-1), 1) := by decide +kernel
theorem d31_102 : decode jdk_48_method_14_code 102 = .ok (.ireturn, 1) := by decide +kernel
theorem d32_0 : decode jdk_42_method_79_code 0 = .ok (.aload_n 0, 1) := by decide +kernel
theorem d32_1 : decode jdk_42_method_79_code 1 = .ok (.iload_n 1, 1) := by decide +kernel
theorem d32_2 : decode jdk_42_method_79_code 2 = .ok (.iconst 0, 1) := by decide +kernel
theorem d32_3 : decode jdk_42_method_79_code 3 = .ok (.invokevirtual 633, 3) := by decide +kernel
theorem d32_6 : decode jdk_42_method_79_code 6 = .ok (.ireturn, 1) := by decide +kernel
theorem d33_0 : decode jdk_42_method_80_code 0 = .ok (.aload_n 0, 1) := by decide +kernel
theorem d33_1 : decode jdk_42_method_80_code 1 = .ok (.invokevirtual 492, 3) := by decide +kernel
theorem d33_4 : decode jdk_42_method_80_code 4 = .ok (.ifCond .eq 19, 3) := by decide +kernel
theorem d33_7 : decode jdk_42_method_80_code 7 = .ok (.aload_n 0, 1) := by decide +kernel
theorem d33_8 : decode jdk_42_method_80_code 8 = .ok (.getfield 9, 3) := by decide +kernel
theorem d33_11 : decode jdk_42_method_80_code 11 = .ok (.iload_n 1, 1) := by decide +kernel
theorem d33_12 : decode jdk_42_method_80_code 12 = .ok (.iload_n 2, 1) := by decide +kernel
theorem d33_13 : decode jdk_42_method_80_code 13 = .ok (.aload_n 0, 1) := by decide +kernel
theorem d33_14 : decode jdk_42_method_80_code 14 = .ok (.invokevirtual 505, 3) := by decide +kernel
theorem d33_17 : decode jdk_42_method_80_code 17 = .ok (.invokestatic 637, 3) := by decide +kernel
theorem d33_20 : decode jdk_42_method_80_code 20 = .ok (.goto 16, 3) := by decide +kernel
theorem d33_36 : decode jdk_42_method_80_code 36 = .ok (.ireturn, 1) := by decide +kernel
theorem d34_0 : decode jdk_43_method_22_code 0 = .ok (.iload_n 1, 1) := by decide +kernel
theorem d34_1 : decode jdk_43_method_22_code 1 = .ok (.invokestatic 88, 3) := by decide +kernel
theorem d34_4 : decode jdk_43_method_22_code 4 = .ok (.ifCond .ne 5, 3) := by decide +kernel
theorem d34_9 : decode jdk_43_method_22_code 9 = .ok (.iload_n 2, 1) := by decide +kernel
theorem d34_10 : decode jdk_43_method_22_code 10 = .ok (.iconst 0, 1) := by decide +kernel
theorem d34_11 : decode jdk_43_method_22_code 11 = .ok (.invokestatic 92, 3) := by decide +kernel
theorem d34_14 : decode jdk_43_method_22_code 14 = .ok (.istore_n 2, 1) := by decide +kernel
theorem d34_15 : decode jdk_43_method_22_code 15 = .ok (.iload_n 3, 1) := by decide +kernel
theorem d34_16 : decode jdk_43_method_22_code 16 = .ok (.aload_n 0, 1) := by decide +kernel
theorem d34_17 : decode jdk_43_method_22_code 17 = .ok (.arraylength, 1) := by decide +kernel
theorem d34_18 : decode jdk_43_method_22_code 18 = .ok (.invokestatic 38, 3) := by decide +kernel
theorem d34_21 : decode jdk_43_method_22_code 21 = .ok (.istore_n 3, 1) := by decide +kernel
theorem d34_22 : decode jdk_43_method_22_code 22 = .ok (.iload_n 2, 1) := by decide +kernel
theorem d34_23 : decode jdk_43_method_22_code 23 = .ok (.iload_n 3, 1) := by decide +kernel
theorem d34_24 : decode jdk_43_method_22_code 24 = .ok (.if_icmp .lt 5, 3) := by decide +kernel
theorem d34_29 : decode jdk_43_method_22_code 29 = .ok (.aload_n 0, 1) := by decide +kernel
theorem d34_30 : decode jdk_43_method_22_code 30 = .ok (.iload_n 1, 1) := by decide +kernel
theorem d34_31 : decode jdk_43_method_22_code 31 = .ok (.iload_n 2, 1) := by decide +kernel
theorem d34_32 : decode jdk_43_method_22_code 32 = .ok (.iload_n 3, 1) := by decide +kernel
theorem d34_33 : decode jdk_43_method_22_code 33 = .ok (.invokestatic 95, 3) := by decide +kernel
theorem d34_36 : decode jdk_43_method_22_code 36 = .ok (.ireturn, 1) := by decide +kernel
theorem d35_0 : decode jdk_43_method_4_code 0 = .ok (.iload_n 0, 1) := by decide +kernel
theorem d35_1 : decode jdk_43_method_4_code 1 = .ok (.ifCond .lt 14, 3) := by decide +kernel
theorem d35_4 : decode jdk_43_method_4_code 4 = .ok (.iload_n 0, 1) := by decide +kernel
theorem d35_5 : decode jdk_43_method_4_code 5 = .ok (.sipush 255, 3) := by decide +kernel
theorem d35_8 : decode jdk_43_method_4_code 8 = .ok (.if_icmp .gt 7, 3) := by decide +kernel
theorem d35_11 : decode jdk_43_method_4_code 11 = .ok (.iconst 1, 1) := by decide +kernel
theorem d35_12 : decode jdk_43_method_4_code 12 = .ok (.goto 4, 3) := by decide +kernel
theorem d35_16 : decode jdk_43_method_4_code 16 = .ok (.ireturn, 1) := by decide +kernel
theorem d36_0 : decode jdk_29_method_65_code 0 = .ok (.iload_n 0, 1) := by decide +kernel
theorem d36_1 : decode jdk_29_method_65_code 1 = .ok (.iload_n 1, 1) := by decide +kernel
theorem d36_2 : decode jdk_29_method_65_code 2 = .ok (.if_icmp .lt 7, 3) := by decide +kernel
theorem d36_5 : decode jdk_29_method_65_code 5 = .ok (.iload_n 0, 1) := by decide +kernel
theorem d36_6 : decode jdk_29_method_65_code 6 = .ok (.goto 4, 3) := by decide +kernel
theorem d36_9 : decode jdk_29_method_65_code 9 = .ok (.iload_n 1, 1) := by decide +kernel
theorem d36_10 : decode jdk_29_method_65_code 10 = .ok (.ireturn, 1) := by decide +kernel
theorem d37_0 : decode jdk_43_method_23_code 0 = .ok (.iload_n 1, 1) := by decide +kernel
theorem d37_1 : decode jdk_43_method_23_code 1 = .ok (.i2b, 1) := by decide +kernel
theorem d37_2 : decode jdk_43_method_23_code 2 = .ok (.istore 4, 2) := by decide +kernel
theorem d37_4 : decode jdk_43_method_23_code 4 = .ok (.iload_n 2, 1) := by decide +kernel
theorem d37_5 : decode jdk_43_method_23_code 5 = .ok (.istore 5, 2) := by decide +kernel
theorem d37_7 : decode jdk_43_method_23_code 7 = .ok (.iload 5, 2) := by decide +kernel
theorem d37_9 : decode jdk_43_method_23_code 9 = .ok (.iload_n 3, 1) := by decide +kernel
theorem d37_10 : decode jdk_43_method_23_code 10 = .ok (.if_icmp .ge 21, 3) := by decide +kernel
theorem d37_13 : decode jdk_43_method_23_code 13 = .ok (.aload_n 0, 1) := by decide +kernel
theorem d37_14 : decode jdk_43_method_23_code 14 = .ok (.iload 5, 2) := by decide +kernel
theorem d37_16 : decode jdk_43_method_23_code 16 = .ok (.baload, 1) := by decide +kernel
theorem d37_17 : decode jdk_43_method_23_code 17 = .ok (.iload 4, 2) := by decide +kernel
theorem d37_19 : decode jdk_43_method_23_code 19 = .ok (.if_icmp .ne 6, 3) := by decide +kernel
theorem d37_25 : decode jdk_43_method_23_code 25 = .ok (.iinc 5 1, 3) := by decide +kernel
theorem d37_28 : decode jdk_43_method_23_code 28 = .ok (.goto (-21), 3) := by decide +kernel
theorem d37_31 : decode jdk_43_method_23_code 31 = .ok (.iconst (-1), 1) := by decide +kernel
theorem d37_32 : decode jdk_43_method_23_code 32 = .ok (.ireturn, 1) := by decide +kernel
theorem d38_0 : decode prog_2_method_1_code 0 = .ok (.aload_n 0, 1) := by decide +kernel
theorem d38_1 : decode prog_2_method_1_code 1 = .ok (.invokespecial 1, 3) := by decide +kernel
theorem d38_4 : decode prog_2_method_1_code 4 = .ok (.aload_n 1, 1) := by decide +kernel
theorem d38_5 : decode prog_2_method_1_code 5 = .ok (.ldc 7, 2) := by decide +kernel
theorem d38_7 : decode prog_2_method_1_code 7 = .ok (.invokestatic 9, 3) := by decide +kernel
theorem d38_10 : decode prog_2_method_1_code 10 = .ok (.pop, 1) := by decide +kernel
theorem d38_11 : decode prog_2_method_1_code 11 = .ok (.aload_n 1, 1) := by decide +kernel
theorem d38_12 : decode prog_2_method_1_code 12 = .ok (.invokevirtual 15, 3) := by decide +kernel
theorem d38_15 : decode prog_2_method_1_code 15 = .ok (.ifCond .eq 13, 3) := by decide +kernel
theorem d38_28 : decode prog_2_method_1_code 28 = .ok (.aload_n 1, 1) := by decide +kernel
theorem d38_29 : decode prog_2_method_1_code 29 = .ok (.invokevirtual 28, 3) := by decide +kernel
theorem d38_32 : decode prog_2_method_1_code 32 = .ok (.sipush 255, 3) := by decide +kernel
theorem d38_35 : decode prog_2_method_1_code 35 = .ok (.if_icmp .le 13, 3) := by decide +kernel
theorem d38_48 : decode prog_2_method_1_code 48 = .ok (.iconst 0, 1) := by decide +kernel
theorem d38_49 : decode prog_2_method_1_code 49 = .ok (.istore_n 2, 1) := by decide +kernel
theorem d38_50 : decode prog_2_method_1_code 50 = .ok (.iload_n 2, 1) := by decide +kernel
theorem d38_51 : decode prog_2_method_1_code 51 = .ok (.aload_n 1, 1) := by decide +kernel
theorem d38_52 : decode prog_2_method_1_code 52 = .ok (.invokevirtual 28, 3) := by decide +kernel
theorem d38_55 : decode prog_2_method_1_code 55 = .ok (.if_icmp .ge 43, 3) := by decide +kernel
theorem d38_58 : decode prog_2_method_1_code 58 = .ok (.aload_n 1, 1) := by decide +kernel
theorem d38_59 : decode prog_2_method_1_code 59 = .ok (.iload_n 2, 1) := by decide +kernel
theorem d38_60 : decode prog_2_method_1_code 60 = .ok (.invokevirtual 36, 3) := by decide +kernel
theorem d38_63 : decode prog_2_method_1_code 63 = .ok (.istore_n 3, 1) := by decide +kernel
theorem d38_64 : decode prog_2_method_1_code 64 = .ok (.iload_n 3, 1) := by decide +kernel
theorem d38_65 : decode prog_2_method_1_code 65 = .ok (.bipush 32, 2) := by decide +kernel
theorem d38_67 : decode prog_2_method_1_code 67 = .ok (.if_icmp .lt 9, 3) := by decide +kernel
theorem d38_70 : decode prog_2_method_1_code 70 = .ok (.iload_n 3, 1) := by decide +kernel
theorem d38_71 : decode prog_2_method_1_code 71 = .ok (.bipush 126, 2) := by decide +kernel
theorem d38_73 : decode prog_2_method_1_code 73 = .ok (.if_icmp .le 19, 3) := by decide +kernel
theorem d38_92 : decode prog_2_method_1_code 92 = .ok (.iinc 2 1, 3) := by decide +kernel
theorem d38_95 : decode prog_2_method_1_code 95 = .ok (.goto (-45), 3) := by decide +kernel
theorem d38_98 : decode prog_2_method_1_code 98 = .ok (.aload_n 0, 1) := by decide +kernel
theorem d38_99 : decode prog_2_method_1_code 99 = .ok (.aload_n 1, 1) := by decide +kernel
theorem d38_100 : decode prog_2_method_1_code 100 = .ok (.putfield 44, 3) := by decide +kernel
theorem d38_103 : decode prog_2_method_1_code 103 = .ok (.return_, 1) := by decide +kernel
theorem d39_0 : decode jdk_30_method_1_code 0 = .ok (.aload_n 0, 1) := by decide +kernel
theorem d39_1 : decode jdk_30_method_1_code 1 = .ok (.invokespecial 1, 3) := by decide +kernel
theorem d39_4 : decode jdk_30_method_1_code 4 = .ok (.return_, 1) := by decide +kernel
theorem d40_0 : decode jdk_42_method_55_code 0 = .ok (.aload_n 0, 1) := by decide +kernel
theorem d40_1 : decode jdk_42_method_55_code 1 = .ok (.getfield 9, 3) := by decide +kernel
theorem d40_4 : decode jdk_42_method_55_code 4 = .ok (.arraylength, 1) := by decide +kernel
theorem d40_5 : decode jdk_42_method_55_code 5 = .ok (.ifCond .ne 7, 3) := by decide +kernel
theorem d40_12 : decode jdk_42_method_55_code 12 = .ok (.iconst 0, 1) := by decide +kernel
theorem d40_13 : decode jdk_42_method_55_code 13 = .ok (.ireturn, 1) := by decide +kernel
theorem d41_0 : decode prog_2_method_9_code 0 = .ok (.aload_n 0, 1) := by decide +kernel
theorem d41_1 : decode prog_2_method_9_code 1 = .ok (.getfield 44, 3) := by decide +kernel
theorem d41_4 : decode prog_2_method_9_code 4 = .ok (.areturn, 1) := by decide +kernel
theorem d42_0 : decode method_6_code 0 = .ok (.iload_n 2, 1) := by decide +kernel
theorem d42_1 : decode method_6_code 1 = .ok (.bipush 93, 2) := by decide +kernel
theorem d42_3 : decode method_6_code 3 = .ok (.if_icmp .lt 21, 3) := by decide +kernel
theorem d42_6 : decode method_6_code 6 = .ok (.aload_n 0, 1) := by decide +kernel
theorem d42_7 : decode method_6_code 7 = .ok (.iload_n 1, 1) := by decide +kernel
theorem d42_8 : decode method_6_code 8 = .ok (.bipush 92, 2) := by decide +kernel
theorem d42_10 : decode method_6_code 10 = .ok (.castore, 1) := by decide +kernel
theorem d42_11 : decode method_6_code 11 = .ok (.aload_n 0, 1) := by decide +kernel
theorem d42_12 : decode method_6_code 12 = .ok (.iload_n 1, 1) := by decide +kernel
theorem d42_13 : decode method_6_code 13 = .ok (.iconst 1, 1) := by decide +kernel
theorem d42_14 : decode method_6_code 14 = .ok (.iadd, 1) := by decide +kernel
theorem d42_15 : decode method_6_code 15 = .ok (.iload_n 2, 1) := by decide +kernel
theorem d42_16 : decode method_6_code 16 = .ok (.invokestatic 18, 3) := by decide +kernel
theorem d42_19 : decode method_6_code 19 = .ok (.castore, 1) := by decide +kernel
theorem d42_20 : decode method_6_code 20 = .ok (.iload_n 1, 1) := by decide +kernel
theorem d42_21 : decode method_6_code 21 = .ok (.iconst 2, 1) := by decide +kernel
theorem d42_22 : decode method_6_code 22 = .ok (.iadd, 1) := by decide +kernel
theorem d42_23 : decode method_6_code 23 = .ok (.ireturn, 1) := by decide +kernel
theorem d42_24 : decode method_6_code 24 = .ok (.aload_n 0, 1) := by decide +kernel
theorem d42_25 : decode method_6_code 25 = .ok (.iload_n 1, 1) := by decide +kernel
theorem d42_26 : decode method_6_code 26 = .ok (.iload_n 2, 1) := by decide +kernel
theorem d42_27 : decode method_6_code 27 = .ok (.invokestatic 47, 3) := by decide +kernel
theorem d42_30 : decode method_6_code 30 = .ok (.castore, 1) := by decide +kernel
theorem d42_31 : decode method_6_code 31 = .ok (.iload_n 1, 1) := by decide +kernel
theorem d42_32 : decode method_6_code 32 = .ok (.iconst 1, 1) := by decide +kernel
theorem d42_33 : decode method_6_code 33 = .ok (.iadd, 1) := by decide +kernel
theorem d42_34 : decode method_6_code 34 = .ok (.ireturn, 1) := by decide +kernel
theorem d43_0 : decode method_4_code 0 = .ok (.bipush 32, 2) := by decide +kernel
theorem d43_2 : decode method_4_code 2 = .ok (.iload_n 0, 1) := by decide +kernel
theorem d43_3 : decode method_4_code 3 = .ok (.iadd, 1) := by decide +kernel
theorem d43_4 : decode method_4_code 4 = .ok (.istore_n 1, 1) := by decide +kernel
theorem d43_5 : decode method_4_code 5 = .ok (.iload_n 1, 1) := by decide +kernel
theorem d43_6 : decode method_4_code 6 = .ok (.bipush 34, 2) := by decide +kernel
theorem d43_8 : decode method_4_code 8 = .ok (.if_icmp .lt 6, 3) := by decide +kernel
theorem d43_11 : decode method_4_code 11 = .ok (.iinc 1 1, 3) := by decide +kernel
theorem d43_14 : decode method_4_code 14 = .ok (.iload_n 1, 1) := by decide +kernel
theorem d43_15 : decode method_4_code 15 = .ok (.bipush 92, 2) := by decide +kernel
theorem d43_17 : decode method_4_code 17 = .ok (.if_icmp .lt 6, 3) := by decide +kernel
theorem d43_20 : decode method_4_code 20 = .ok (.iinc 1 1, 3) := by decide +kernel
theorem d43_23 : decode method_4_code 23 = .ok (.iload_n 1, 1) := by decide +kernel
theorem d43_24 : decode method_4_code 24 = .ok (.i2c, 1) := by decide +kernel
theorem d43_25 : decode method_4_code 25 = .ok (.ireturn, 1) := by decide +kernel
theorem d44_0 : decode method_5_code 0 = .ok (.iload_n 0, 1) := by decide +kernel
theorem d44_1 : decode method_5_code 1 = .ok (.bipush 93, 2) := by decide +kernel
theorem d44_3 : decode method_5_code 3 = .ok (.if_icmp .ne 6, 3) := by decide +kernel
theorem d44_6 : decode method_5_code 6 = .ok (.bipush 34, 2) := by decide +kernel
theorem d44_8 : decode method_5_code 8 = .ok (.ireturn, 1) := by decide +kernel
theorem d44_9 : decode method_5_code 9 = .ok (.iload_n 0, 1) := by decide +kernel
theorem d44_10 : decode method_5_code 10 = .ok (.bipush 94, 2) := by decide +kernel
theorem d44_12 : decode method_5_code 12 = .ok (.if_icmp .ne 6, 3) := by decide +kernel
theorem d44_15 : decode method_5_code 15 = .ok (.bipush 92, 2) := by decide +kernel
theorem d44_17 : decode method_5_code 17 = .ok (.ireturn, 1) := by decide +kernel
theorem d44_18 : decode method_5_code 18 = .ok (.iload_n 0, 1) := by decide +kernel
theorem d44_19 : decode method_5_code 19 = .ok (.invokestatic 47, 3) := by decide +kernel
theorem d44_22 : decode method_5_code 22 = .ok (.ireturn, 1) := by decide +kernel
theorem d45_0 : decode prog_2_method_3_code 0 = .ok (.new 69, 3) := by decide +kernel
theorem d45_3 : decode prog_2_method_3_code 3 = .ok (.dup, 1) := by decide +kernel
theorem d45_4 : decode prog_2_method_3_code 4 = .ok (.aload_n 0, 1) := by decide +kernel
theorem d45_5 : decode prog_2_method_3_code 5 = .ok (.invokevirtual 28, 3) := by decide +kernel
theorem d45_8 : decode prog_2_method_3_code 8 = .ok (.invokespecial 71, 3) := by decide +kernel
theorem d45_11 : decode prog_2_method_3_code 11 = .ok (.astore_n 1, 1) := by decide +kernel
theorem d45_12 : decode prog_2_method_3_code 12 = .ok (.iconst 1, 1) := by decide +kernel
theorem d45_13 : decode prog_2_method_3_code 13 = .ok (.istore_n 2, 1) := by decide +kernel
theorem d45_14 : decode prog_2_method_3_code 14 = .ok (.iload_n 2, 1) := by decide +kernel
theorem d45_15 : decode prog_2_method_3_code 15 = .ok (.aload_n 0, 1) := by decide +kernel
theorem d45_16 : decode prog_2_method_3_code 16 = .ok (.invokevirtual 28, 3) := by decide +kernel
theorem d45_19 : decode prog_2_method_3_code 19 = .ok (.if_icmp .ge 98, 3) := by decide +kernel
theorem d45_22 : decode prog_2_method_3_code 22 = .ok (.aload_n 0, 1) := by decide +kernel
theorem d45_23 : decode prog_2_method_3_code 23 = .ok (.iload_n 2, 1) := by decide +kernel
theorem d45_24 : decode prog_2_method_3_code 24 = .ok (.iinc 2 1, 3) := by decide +kernel
theorem d45_27 : decode prog_2_method_3_code 27 = .ok (.invokevirtual 36, 3) := by decide +kernel
theorem d45_30 : decode prog_2_method_3_code 30 = .ok (.istore_n 3, 1) := by decide +kernel
theorem d45_31 : decode prog_2_method_3_code 31 = .ok (.iload_n 3, 1) := by decide +kernel
theorem d45_32 : decode prog_2_method_3_code 32 = .ok (.bipush 34, 2) := by decide +kernel
theorem d45_34 : decode prog_2_method_3_code 34 = .ok (.if_icmp .ne 26, 3) := by decide +kernel
theorem d45_37 : decode prog_2_method_3_code 37 = .ok (.iload_n 2, 1) := by decide +kernel
theorem d45_38 : decode prog_2_method_3_code 38 = .ok (.aload_n 0, 1) := by decide +kernel
theorem d45_39 : decode prog_2_method_3_code 39 = .ok (.invokevirtual 28, 3) := by decide +kernel
theorem d45_42 : decode prog_2_method_3_code 42 = .ok (.if_icmp .ge 13, 3) := by decide +kernel
theorem d45_55 : decode prog_2_method_3_code 55 = .ok (.aload_n 1, 1) := by decide +kernel
theorem d45_56 : decode prog_2_method_3_code 56 = .ok (.invokevirtual 76, 3) := by decide +kernel
theorem d45_59 : decode prog_2_method_3_code 59 = .ok (.areturn, 1) := by decide +kernel
theorem d45_60 : decode prog_2_method_3_code 60 = .ok (.iload_n 3, 1) := by decide +kernel
theorem d45_61 : decode prog_2_method_3_code 61 = .ok (.bipush 92, 2) := by decide +kernel
theorem d45_63 : decode prog_2_method_3_code 63 = .ok (.if_icmp .ne 45, 3) := by decide +kernel
theorem d45_66 : decode prog_2_method_3_code 66 = .ok (.iload_n 2, 1) := by decide +kernel
theorem d45_67 : decode prog_2_method_3_code 67 = .ok (.aload_n 0, 1) := by decide +kernel
theorem d45_68 : decode prog_2_method_3_code 68 = .ok (.invokevirtual 28, 3) := by decide +kernel
theorem d45_71 : decode prog_2_method_3_code 71 = .ok (.if_icmp .ne 6, 3) := by decide +kernel
theorem d45_77 : decode prog_2_method_3_code 77 = .ok (.aload_n 0, 1) := by decide +kernel
theorem d45_78 : decode prog_2_method_3_code 78 = .ok (.iload_n 2, 1) := by decide +kernel
theorem d45_79 : decode prog_2_method_3_code 79 = .ok (.iinc 2 1, 3) := by decide +kernel
theorem d45_82 : decode prog_2_method_3_code 82 = .ok (.invokevirtual 36, 3) := by decide +kernel
theorem d45_85 : decode prog_2_method_3_code 85 = .ok (.istore_n 3, 1) := by decide +kernel
theorem d45_86 : decode prog_2_method_3_code 86 = .ok (.iload_n 3, 1) := by decide +kernel
theorem d45_87 : decode prog_2_method_3_code 87 = .ok (.bipush 34, 2) := by decide +kernel
theorem d45_89 : decode prog_2_method_3_code 89 = .ok (.if_icmp .eq 19, 3) := by decide +kernel
theorem d45_92 : decode prog_2_method_3_code 92 = .ok (.iload_n 3, 1) := by decide +kernel
theorem d45_93 : decode prog_2_method_3_code 93 = .ok (.bipush 92, 2) := by decide +kernel
theorem d45_95 : decode prog_2_method_3_code 95 = .ok (.if_icmp .eq 13, 3) := by decide +kernel
theorem d45_108 : decode prog_2_method_3_code 108 = .ok (.aload_n 1, 1) := by decide +kernel
theorem d45_109 : decode prog_2_method_3_code 109 = .ok (.iload_n 3, 1) := by decide +kernel
theorem d45_110 : decode prog_2_method_3_code 110 = .ok (.invokevirtual 82, 3) := by decide +kernel
theorem d45_113 : decode prog_2_method_3_code 113 = .ok (.pop, 1) := by decide +kernel
theorem d45_114 : decode prog_2_method_3_code 114 = .ok (.goto (-100), 3) := by decide +kernel
theorem d46_0 : decode jdk_67_method_2_code 0 = .ok (.aload_n 0, 1) := by decide +kernel
theorem d46_1 : decode jdk_67_method_2_code 1 = .ok (.iload_n 1, 1) := by decide +kernel
theorem d46_2 : decode jdk_67_method_2_code 2 = .ok (.invokespecial 1, 3) := by decide +kernel
theorem d46_5 : decode jdk_67_method_2_code 5 = .ok (.return_, 1) := by decide +kernel
theorem d47_0 : decode jdk_68_method_2_code 0 = .ok (.aload_n 0, 1) := by decide +kernel
theorem d47_1 : decode jdk_68_method_2_code 1 = .ok (.invokespecial 3, 3) := by decide +kernel
theorem d47_4 : decode jdk_68_method_2_code 4 = .ok (.getstatic 18, 3) := by decide +kernel
theorem d47_7 : decode jdk_68_method_2_code 7 = .ok (.ifCond .eq 18, 3) := by decide +kernel
theorem d47_10 : decode jdk_68_method_2_code 10 = .ok (.aload_n 0, 1) := by decide +kernel
theorem d47_11 : decode jdk_68_method_2_code 11 = .ok (.iload_n 1, 1) := by decide +kernel
theorem d47_12 : decode jdk_68_method_2_code 12 = .ok (.newarray .byte, 2) := by decide +kernel
theorem d47_14 : decode jdk_68_method_2_code 14 = .ok (.putfield 15, 3) := by decide +kernel
theorem d47_17 : decode jdk_68_method_2_code 17 = .ok (.aload_n 0, 1) := by decide +kernel
theorem d47_18 : decode jdk_68_method_2_code 18 = .ok (.iconst 0, 1) := by decide +kernel
theorem d47_19 : decode jdk_68_method_2_code 19 = .ok (.putfield 22, 3) := by decide +kernel
theorem d47_22 : decode jdk_68_method_2_code 22 = .ok (.goto 16, 3) := by decide +kernel
theorem d47_38 : decode jdk_68_method_2_code 38 = .ok (.return_, 1) := by decide +kernel
theorem d48_0 : decode jdk_67_method_14_code 0 = .ok (.aload_n 0, 1) := by decide +kernel
theorem d48_1 : decode jdk_67_method_14_code 1 = .ok (.iload_n 1, 1) := by decide +kernel
theorem d48_2 : decode jdk_67_method_14_code 2 = .ok (.invokespecial 50, 3) := by decide +kernel
theorem d48_5 : decode jdk_67_method_14_code 5 = .ok (.pop, 1) := by decide +kernel
theorem d48_6 : decode jdk_67_method_14_code 6 = .ok (.aload_n 0, 1) := by decide +kernel
theorem d48_7 : decode jdk_67_method_14_code 7 = .ok (.areturn, 1) := by decide +kernel
theorem d49_0 : decode jdk_68_method_31_code 0 = .ok (.aload_n 0, 1) := by decide +kernel
theorem d49_1 : decode jdk_68_method_31_code 1 = .ok (.aload_n 0, 1) := by decide +kernel
theorem d49_2 : decode jdk_68_method_31_code 2 = .ok (.getfield 79, 3) := by decide +kernel
theorem d49_5 : decode jdk_68_method_31_code 5 = .ok (.iconst 1, 1) := by decide +kernel
theorem d49_6 : decode jdk_68_method_31_code 6 = .ok (.iadd, 1) := by decide +kernel
theorem d49_7 : decode jdk_68_method_31_code 7 = .ok (.invokevirtual 100, 3) := by decide +kernel
theorem d49_10 : decode jdk_68_method_31_code 10 = .ok (.aload_n 0, 1) := by decide +kernel
theorem d49_11 : decode jdk_68_method_31_code 11 = .ok (.invokevirtual 83, 3) := by decide +kernel
theorem d49_14 : decode jdk_68_method_31_code 14 = .ok (.ifCond .eq 31, 3) := by decide +kernel
theorem d49_17 : decode jdk_68_method_31_code 17 = .ok (.iload_n 1, 1) := by decide +kernel
theorem d49_18 : decode jdk_68_method_31_code 18 = .ok (.invokestatic 191, 3) := by decide +kernel
theorem d49_21 : decode jdk_68_method_31_code 21 = .ok (.ifCond .eq 24, 3) := by decide +kernel
theorem d49_24 : decode jdk_68_method_31_code 24 = .ok (.aload_n 0, 1) := by decide +kernel
theorem d49_25 : decode jdk_68_method_31_code 25 = .ok (.getfield 15, 3) := by decide +kernel
theorem d49_28 : decode jdk_68_method_31_code 28 = .ok (.aload_n 0, 1) := by decide +kernel
theorem d49_29 : decode jdk_68_method_31_code 29 = .ok (.dup, 1) := by decide +kernel
theorem d49_30 : decode jdk_68_method_31_code 30 = .ok (.getfield 79, 3) := by decide +kernel
theorem d49_33 : decode jdk_68_method_31_code 33 = .ok (.dup_x1, 1) := by decide +kernel
theorem d49_34 : decode jdk_68_method_31_code 34 = .ok (.iconst 1, 1) := by decide +kernel
theorem d49_35 : decode jdk_68_method_31_code 35 = .ok (.iadd, 1) := by decide +kernel
theorem d49_36 : decode jdk_68_method_31_code 36 = .ok (.putfield 79, 3) := by decide +kernel
theorem d49_39 : decode jdk_68_method_31_code 39 = .ok (.iload_n 1, 1) := by decide +kernel
theorem d49_40 : decode jdk_68_method_31_code 40 = .ok (.i2b, 1) := by decide +kernel
theorem d49_41 : decode jdk_68_method_31_code 41 = .ok (.bastore, 1) := by decide +kernel
theorem d49_42 : decode jdk_68_method_31_code 42 = .ok (.goto 33, 3) := by decide +kernel
theorem d49_75 : decode jdk_68_method_31_code 75 = .ok (.aload_n 0, 1) := by decide +kernel
theorem d49_76 : decode jdk_68_method_31_code 76 = .ok (.areturn, 1) := by decide +kernel
theorem d50_0 : decode jdk_68_method_9_code 0 = .ok (.aload_n 0, 1) := by decide +kernel
theorem d50_1 : decode jdk_68_method_9_code 1 = .ok (.getfield 15, 3) := by decide +kernel
theorem d50_4 : decode jdk_68_method_9_code 4 = .ok (.arraylength, 1) := by decide +kernel
theorem d50_5 : decode jdk_68_method_9_code 5 = .ok (.aload_n 0, 1) := by decide +kernel
theorem d50_6 : decode jdk_68_method_9_code 6 = .ok (.getfield 22, 3) := by decide +kernel
theorem d50_9 : decode jdk_68_method_9_code 9 = .ok (.ishr, 1) := by decide +kernel
theorem d50_10 : decode jdk_68_method_9_code 10 = .ok (.istore_n 2, 1) := by decide +kernel
theorem d50_11 : decode jdk_68_method_9_code 11 = .ok (.iload_n 1, 1) := by decide +kernel
theorem d50_12 : decode jdk_68_method_9_code 12 = .ok (.iload_n 2, 1) := by decide +kernel
theorem d50_13 : decode jdk_68_method_9_code 13 = .ok (.isub, 1) := by decide +kernel
theorem d50_14 : decode jdk_68_method_9_code 14 = .ok (.ifCond .le 24, 3) := by decide +kernel
theorem d50_38 : decode jdk_68_method_9_code 38 = .ok (.return_, 1) := by decide +kernel
theorem d51_0 : decode jdk_68_method_68_code 0 = .ok (.getstatic 18, 3) := by decide +kernel
theorem d51_3 : decode jdk_68_method_68_code 3 = .ok (.ifCond .eq 14, 3) := by decide +kernel
theorem d51_6 : decode jdk_68_method_68_code 6 = .ok (.aload_n 0, 1) := by decide +kernel
theorem d51_7 : decode jdk_68_method_68_code 7 = .ok (.getfield 22, 3) := by decide +kernel
theorem d51_10 : decode jdk_68_method_68_code 10 = .ok (.ifCond .ne 7, 3) := by decide +kernel
theorem d51_13 : decode jdk_68_method_68_code 13 = .ok (.iconst 1, 1) := by decide +kernel
theorem d51_14 : decode jdk_68_method_68_code 14 = .ok (.goto 4, 3) := by decide +kernel
theorem d51_18 : decode jdk_68_method_68_code 18 = .ok (.ireturn, 1) := by decide +kernel
theorem d52_0 : decode jdk_43_method_3_code 0 = .ok (.iload_n 0, 1) := by decide +kernel
theorem d52_1 : decode jdk_43_method_3_code 1 = .ok (.sipush 255, 3) := by decide +kernel
theorem d52_4 : decode jdk_43_method_3_code 4 = .ok (.if_icmp .gt 7, 3) := by decide +kernel
theorem d52_7 : decode jdk_43_method_3_code 7 = .ok (.iconst 1, 1) := by decide +kernel
theorem d52_8 : decode jdk_43_method_3_code 8 = .ok (.goto 4, 3) := by decide +kernel
theorem d52_12 : decode jdk_43_method_3_code 12 = .ok (.ireturn, 1) := by decide +kernel
theorem d53_0 : decode jdk_67_method_42_code 0 = .ok (.new 18, 3) := by decide +kernel
theorem d53_3 : decode jdk_67_method_42_code 3 = .ok (.dup, 1) := by decide +kernel
theorem d53_4 : decode jdk_67_method_42_code 4 = .ok (.aload_n 0, 1) := by decide +kernel
theorem d53_5 : decode jdk_67_method_42_code 5 = .ok (.invokespecial 137, 3) := by decide +kernel
theorem d53_8 : decode jdk_67_method_42_code 8 = .ok (.areturn, 1) := by decide +kernel
theorem d54_0 : decode jdk_42_method_53_code 0 = .ok (.aload_n 0, 1) := by decide +kernel
theorem d54_1 : decode jdk_42_method_53_code 1 = .ok (.aload_n 1, 1) := by decide +kernel
theorem d54_2 : decode jdk_42_method_53_code 2 = .ok (.aconst_null, 1) := by decide +kernel
theorem d54_3 : decode jdk_42_method_53_code 3 = .ok (.invokespecial 489, 3) := by decide +kernel
theorem d54_6 : decode jdk_42_method_53_code 6 = .ok (.return_, 1) := by decide +kernel
theorem d55_0 : decode jdk_42_method_150_code 0 = .ok (.aload_n 0, 1) := by decide +kernel
theorem d55_1 : decode jdk_42_method_150_code 1 = .ok (.invokespecial 1, 3) := by decide +kernel
theorem d55_4 : decode jdk_42_method_150_code 4 = .ok (.aload_n 1, 1) := by decide +kernel
theorem d55_5 : decode jdk_42_method_150_code 5 = .ok (.invokevirtual 552, 3) := by decide +kernel
theorem d55_8 : decode jdk_42_method_150_code 8 = .ok (.astore_n 3, 1) := by decide +kernel
theorem d55_9 : decode jdk_42_method_150_code 9 = .ok (.aload_n 1, 1) := by decide +kernel
theorem d55_10 : decode jdk_42_method_150_code 10 = .ok (.invokevirtual 549, 3) := by decide +kernel
theorem d55_13 : decode jdk_42_method_150_code 13 = .ok (.istore 4, 2) := by decide +kernel
theorem d55_15 : decode jdk_42_method_150_code 15 = .ok (.aload_n 1, 1) := by decide +kernel
theorem d55_16 : decode jdk_42_method_150_code 16 = .ok (.invokevirtual 1047, 3) := by decide +kernel
theorem d55_19 : decode jdk_42_method_150_code 19 = .ok (.ifCond .eq 22, 3) := by decide +kernel
theorem d55_22 : decode jdk_42_method_150_code 22 = .ok (.aload_n 0, 1) := by decide +kernel
theorem d55_23 : decode jdk_42_method_150_code 23 = .ok (.iconst 0, 1) := by decide +kernel
theorem d55_24 : decode jdk_42_method_150_code 24 = .ok (.putfield 15, 3) := by decide +kernel
theorem d55_27 : decode jdk_42_method_150_code 27 = .ok (.aload_n 0, 1) := by decide +kernel
theorem d55_28 : decode jdk_42_method_150_code 28 = .ok (.aload_n 3, 1) := by decide +kernel
theorem d55_29 : decode jdk_42_method_150_code 29 = .ok (.iconst 0, 1) := by decide +kernel
theorem d55_30 : decode jdk_42_method_150_code 30 = .ok (.iload 4, 2) := by decide +kernel
theorem d55_32 : decode jdk_42_method_150_code 32 = .ok (.invokestatic 54, 3) := by decide +kernel
theorem d55_35 : decode jdk_42_method_150_code 35 = .ok (.putfield 9, 3) := by decide +kernel
theorem d55_38 : decode jdk_42_method_150_code 38 = .ok (.goto 59, 3) := by decide +kernel
theorem d55_97 : decode jdk_42_method_150_code 97 = .ok (.return_, 1) := by decide +kernel
theorem d56_0 : decode jdk_68_method_64_code 0 = .ok (.aload_n 0, 1) := by decide +kernel
theorem d56_1 : decode jdk_68_method_64_code 1 = .ok (.getfield 15, 3) := by decide +kernel
theorem d56_4 : decode jdk_68_method_64_code 4 = .ok (.areturn, 1) := by decide +kernel
theorem d57_0 : decode jdk_67_method_93_code 0 = .ok (.aload_n 0, 1) := by decide +kernel
theorem d57_1 : decode jdk_67_method_93_code 1 = .ok (.invokespecial 343, 3) := by decide +kernel
theorem d57_4 : decode jdk_67_method_93_code 4 = .ok (.ireturn, 1) := by decide +kernel
theorem d58_0 : decode jdk_68_method_6_code 0 = .ok (.aload_n 0, 1) := by decide +kernel
theorem d58_1 : decode jdk_68_method_6_code 1 = .ok (.getfield 79, 3) := by decide +kernel
theorem d58_4 : decode jdk_68_method_6_code 4 = .ok (.ireturn, 1) := by decide +kernel
theorem pd0 : parseMethodDescriptor "([CI[BII)I" = some ⟨[(.array .char), .int, (.array .byte), .int, .int], some .int⟩ := by decide +kernel
theorem pd1 : parseMethodDescriptor "([CII)[B" = some ⟨[(.array .char), .int, .int], some (.array .byte)⟩ := by decide +kernel
theorem pd2 : parseMethodDescriptor "([BI)B" = some ⟨[(.array .byte), .int], some .byte⟩ := by decide +kernel
theorem pd3 : parseMethodDescriptor "([CIILjava/lang/Void;)V" = some ⟨[(.array .char), .int, .int, (.object "java/lang/Void")], none⟩ := by decide +kernel
theorem pd4 : parseMethodDescriptor "()B" = some ⟨[], some .byte⟩ := by decide +kernel
theorem pd5 : parseMethodDescriptor "(II)V" = some ⟨[.int, .int], none⟩ := by decide +kernel
theorem pd6 : parseMethodDescriptor "(II)I" = some ⟨[.int, .int], some .int⟩ := by decide +kernel
theorem pd7 : parseMethodDescriptor "([BII)[B" = some ⟨[(.array .byte), .int, .int], some (.array .byte)⟩ := by decide +kernel
theorem pd8 : parseMethodDescriptor "(IILjava/util/function/BiFunction;)I" = some ⟨[.int, .int, (.object "java/util/function/BiFunction")], some .int⟩ := by decide +kernel
theorem pd9 : parseMethodDescriptor "()Z" = some ⟨[], some .boolean⟩ := by decide +kernel
theorem pd10 : parseMethodDescriptor "([BI)C" = some ⟨[(.array .byte), .int], some .char⟩ := by decide +kernel
theorem pd11 : parseMethodDescriptor "(IIILjava/util/function/BiFunction;)I" = some ⟨[.int, .int, .int, (.object "java/util/function/BiFunction")], some .int⟩ := by decide +kernel
theorem pd12 : parseMethodDescriptor "([BB)V" = some ⟨[(.array .byte), .byte], none⟩ := by decide +kernel
theorem pd13 : parseMethodDescriptor "()I" = some ⟨[], some .int⟩ := by decide +kernel
theorem pd14 : parseMethodDescriptor "(III)V" = some ⟨[.int, .int, .int], none⟩ := by decide +kernel
theorem pd15 : parseMethodDescriptor "([BII)Ljava/lang/String;" = some ⟨[(.array .byte), .int, .int], some (.object "java/lang/String")⟩ := by decide +kernel
theorem pd16 : parseMethodDescriptor "(I)V" = some ⟨[.int], none⟩ := by decide +kernel
theorem pd17 : parseMethodDescriptor "(C)Z" = some ⟨[.char], some .boolean⟩ := by decide +kernel
theorem pd18 : parseMethodDescriptor "(C)Ljava/lang/AbstractStringBuilder;" = some ⟨[.char], some (.object "java/lang/AbstractStringBuilder")⟩ := by decide +kernel
theorem pd19 : parseMethodDescriptor "()[B" = some ⟨[], some (.array .byte)⟩ := by decide +kernel
theorem pd20 : parseMethodDescriptor "(Ljava/lang/AbstractStringBuilder;Ljava/lang/Void;)V" = some ⟨[(.object "java/lang/AbstractStringBuilder"), (.object "java/lang/Void")], none⟩ := by decide +kernel
theorem pd21 : parseMethodDescriptor "(Ljava/lang/StringBuilder;)V" = some ⟨[(.object "java/lang/StringBuilder")], none⟩ := by decide +kernel
theorem pd22 : parseMethodDescriptor "(I)C" = some ⟨[.int], some .char⟩ := by decide +kernel
theorem pd23 : parseMethodDescriptor "(II)Ljava/lang/String;" = some ⟨[.int, .int], some (.object "java/lang/String")⟩ := by decide +kernel
theorem pd24 : parseMethodDescriptor "([BI[BII)I" = some ⟨[(.array .byte), .int, (.array .byte), .int, .int], some .int⟩ := by decide +kernel
theorem pd25 : parseMethodDescriptor "(Ljava/lang/String;I)Z" = some ⟨[(.object "java/lang/String"), .int], some .boolean⟩ := by decide +kernel
theorem pd26 : parseMethodDescriptor "(I)Z" = some ⟨[.int], some .boolean⟩ := by decide +kernel
theorem pd27 : parseMethodDescriptor "([BIII)I" = some ⟨[(.array .byte), .int, .int, .int], some .int⟩ := by decide +kernel
theorem pd28 : parseMethodDescriptor "()V" = some ⟨[], none⟩ := by decide +kernel
theorem pd29 : parseMethodDescriptor "(Ljava/lang/Object;Ljava/lang/String;)Ljava/lang/Object;" = some ⟨[(.object "java/lang/Object"), (.object "java/lang/String")], some (.object "java/lang/Object")⟩ := by decide +kernel
theorem pd30 : parseMethodDescriptor "()Ljava/lang/String;" = some ⟨[], some (.object "java/lang/String")⟩ := by decide +kernel
theorem pd31 : parseMethodDescriptor "(C)Ljava/lang/StringBuilder;" = some ⟨[.char], some (.object "java/lang/StringBuilder")⟩ := by decide +kernel
theorem pd32 : parseMethodDescriptor "(Ljava/lang/String;)Ljava/lang/String;" = some ⟨[(.object "java/lang/String")], some (.object "java/lang/String")⟩ := by decide +kernel
theorem pd33 : parseMethodDescriptor "(Ljava/lang/String;)Z" = some ⟨[(.object "java/lang/String")], some .boolean⟩ := by decide +kernel
theorem pd34 : parseMethodDescriptor "(Ljava/lang/String;)V" = some ⟨[(.object "java/lang/String")], none⟩ := by decide +kernel
theorem pd35 : parseMethodDescriptor "(I)I" = some ⟨[.int], some .int⟩ := by decide +kernel
theorem pd36 : parseMethodDescriptor "(II)C" = some ⟨[.int, .int], some .char⟩ := by decide +kernel
theorem pd37 : parseMethodDescriptor "([C)V" = some ⟨[(.array .char)], none⟩ := by decide +kernel
theorem pd38 : parseMethodDescriptor "(Ljava/lang/String;)Lcom/example/gated_claim/gatedclaim/idempotency/IdempotencyKey;" = some ⟨[(.object "java/lang/String")], some (.object "com/example/gated_claim/gatedclaim/idempotency/IdempotencyKey")⟩ := by decide +kernel
theorem pd39 : parseMethodDescriptor "([CII)I" = some ⟨[(.array .char), .int, .int], some .int⟩ := by decide +kernel
theorem pn0 : plainName "java/lang/StringUTF16" = true := by first | (simp [plainName, overriddenIn]; done) | decide +kernel
theorem pn1 : plainName "java/lang/String" = true := by first | (simp [plainName, overriddenIn]; done) | decide +kernel
theorem pn2 : plainName "java/util/Arrays" = true := by first | (simp [plainName, overriddenIn]; done) | decide +kernel
theorem pn3 : plainName "jdk/internal/util/Preconditions" = true := by first | (simp [plainName, overriddenIn]; done) | decide +kernel
theorem pn4 : plainName "java/lang/StringLatin1" = true := by first | (simp [plainName, overriddenIn]; done) | decide +kernel
theorem pn5 : plainName "java/lang/AbstractStringBuilder" = true := by first | (simp [plainName, overriddenIn]; done) | decide +kernel
theorem pn6 : plainName "java/lang/StringBuilder" = true := by first | (simp [plainName, overriddenIn]; done) | decide +kernel
theorem pn7 : plainName "java/util/Objects" = true := by first | (simp [plainName, overriddenIn]; done) | decide +kernel
theorem pn8 : plainName "java/lang/Record" = true := by first | (simp [plainName, overriddenIn]; done) | decide +kernel
theorem pn9 : plainName "com/example/gated_claim/gatedclaim/idempotency/IdempotencyKeyParsePinLaw" = true := by first | (simp [plainName, overriddenIn]; done) | decide +kernel
theorem pn10 : plainName "com/example/gated_claim/gatedclaim/idempotency/IdempotencyKey" = true := by first | (simp [plainName, overriddenIn]; done) | decide +kernel
theorem pn11 : plainName "jdk/internal/util/ArraysSupport" = true := by first | (simp [plainName, overriddenIn]; done) | decide +kernel
def codF (z : Int32) (n : Nat) : Int32 := nar .byte (lo8 (XT.ushr (z - Int32.ofNat n) 31))
set_option maxRecDepth 65536 in
set_option maxHeartbeats 4000000 in
theorem c_coderLen {l : Launch} {Z : State} {a0 : Array Value} {EL : List (String × Nat)} (hG : oG a0 Z EL) (d : Nat) (ws : List Value) (z : Int32) (h : Heap) (B : oArr Z h d .byte ws) :
    oCtr [] l Z a0 EL True (⟨"java/lang/StringUTF16", "coderFromArrayLen", "([BI)B"⟩ : MethodName) jdk_52_method_15_code 2 (some .byte) ({ frames := 0, cells := 0, slots := 0, locals := 0 } : Room) #[.ref d, .int z] [] h (fun v h' => v = some (.int (codF z ws.length)) ∧ h' = h) oNo := by
  refine oCtr.enter (Ls := #[.val (.ref d), .val (.int z)]) (plainFor_of_name pn0) hG.2.1 (fun m => by first | (simp [entryFrame, mkF, argsToLocals, Value.category]; done) | rfl) ?_
  intro pP eE sS mM bB tT cC
  refine oGo.iload_n (pc' := 1) d8_0 rfl rfl ?_
  refine oGo.aload_n (pc' := 2) d8_1 rfl rfl rfl ?_
  refine oGo.arraylength (pc' := 3) (z := (Int32.ofNat ws.length)) d8_2 rfl B rfl ?_
  refine oGo.isub (pc' := 4) d8_3 rfl ?_
  refine oGo.bipush (pc' := 6) (v := 31) d8_4 rfl (by decide) ?_
  refine oGo.iushr (pc' := 7) d8_6 rfl ?_
  refine oGo.i2b (pc' := 8) d8_7 rfl ?_
  exact oGo.nreturn d8_8 rfl (by simp) rfl (by decide) (by decide) ⟨rfl, rfl⟩ (fun _ q => q.elim)
theorem codF0 (n : Nat) : codF (Int32.ofNat n) n = 0 := by
  unfold codF; rw [show Int32.ofNat n - Int32.ofNat n = 0 from by simp]; decide
set_option maxRecDepth 65536 in
set_option maxHeartbeats 4000000 in
theorem c_coder {l : Launch} {Z : State} {a0 : Array Value} {EL : List (String × Nat)} (hG : oG a0 Z EL) (x : Nat) (cd : Int32) (hc : cd = 0 ∨ cd = 1) (h : Heap) (F : Fld Z h x "java/lang/String" "coder" "B" (.int cd)) :
    oCtr [] l Z a0 EL True (⟨"java/lang/String", "coder", "()B"⟩ : MethodName) jdk_42_method_152_code 1 (some .byte) ({ frames := 0, cells := 0, slots := 0, locals := 0 } : Room) #[.ref x] [] h (fun v h' => v = some (.int cd) ∧ h' = h) oNo := by
  obtain ⟨z, hzs, hz⟩ := sCOMPACT hG
  refine oCtr.enter (Ls := #[.val (.ref x)]) (plainFor_of_name pn1) hG.2.1 (fun m => by first | (simp [entryFrame, mkF, argsToLocals, Value.category]; done) | rfl) ?_
  intro pP eE sS mM bB tT cC
  refine oGo.getstatic (pc' := 3) d13_0 rfl (w22 hG) Via.refl hzs ?_
  refine oGo.if_eq (pc1 := 6) (pc2 := 13) d13_3 rfl (by decide) (fun q => absurd q hz) (fun q1 => ?_)
  refine oGo.aload_n (pc' := 7) d13_6 rfl rfl rfl ?_
  refine oGo.getfield (pc' := 10) d13_7 rfl (w34 hG) Via.refl F ?_
  refine oGo.goto (pc' := 14) d13_10 (by decide) ?_
  exact oGo.nreturn d13_14 rfl (by simp) (by rcases hc with rfl | rfl <;> decide) (by decide) (by decide) ⟨rfl, rfl⟩ (fun _ q => q.elim)
abbrev q_cmp5 (Z : State) (h : Heap) (d : Nat) (cs : List Int32) : Option Value → Heap → Prop := fun v h' => Keep h h' [d] ∧ ∃ r : Nat, v = some (.int (Int32.ofNat r)) ∧ ((r = cs.length ∧ oArr Z h' d .byte (oI (cs.map lo8)) ∧ ∀ c ∈ cs, ¬ 255 < c) ∨ (r < cs.length ∧ ∃ c, cs[r]? = some c ∧ 255 < c))
set_option maxRecDepth 65536 in
set_option maxHeartbeats 4000000 in
theorem c_cmp5 {l : Launch} {Z : State} {a0 : Array Value} {EL : List (String × Nat)} (hG : oG a0 Z EL) (b d : Nat) (cs : List Int32) (ws : List Value) (h : Heap) (A : oArr Z h b .char (oI cs)) (B : oArr Z h d .byte ws) (hl : ws.length = cs.length) (hne : b ≠ d) :
    oCtr [] l Z a0 EL True (⟨"java/lang/StringUTF16", "compress", "([CI[BII)I"⟩ : MethodName) jdk_52_method_21_code 7 (some .int) ({ frames := 0, cells := 0, slots := 0, locals := 0 } : Room) #[.ref b, .int (0 : Int32), .ref d, .int (0 : Int32), .int (Int32.ofNat cs.length)] [d] h ((q_cmp5 Z h d cs)) oNo := by
  refine oCtr.enter (Ls := #[.val (.ref b), .val (.int (0 : Int32)), .val (.ref d), .val (.int (0 : Int32)), .val (.int (Int32.ofNat cs.length)), .unset, .unset]) (plainFor_of_name pn0) hG.2.1 (fun m => by first | (simp [entryFrame, mkF, argsToLocals, Value.category]; done) | rfl) ?_
  intro pP eE sS mM bB tT cC
  have hb31 : cs.length < 2147483648 := by obtain ⟨_, _, _, q, _⟩ := A; simpa using q
  refine oGo.iconst (pc' := 1) (v := 0) d7_0 rfl (by decide) ?_
  refine oGo.istore (pc' := 3) (Ls' := #[.val (.ref b), .val (.int (0 : Int32)), .val (.ref d), .val (.int (0 : Int32)), .val (.int (Int32.ofNat cs.length)), .val (.int (0 : Int32)), .unset]) d7_1 rfl rfl ?_
  have loop : ∀ (r i : Nat) (h1 : Heap) (vs : List Value) (s6 : Slot), r + i = cs.length → Keep h h1 [d] → oArr Z h1 d .byte vs → vs.length = cs.length → vs.take i = (oI (cs.map lo8)).take i → (∀ c ∈ cs.take i, ¬ 255 < c) → oSl s6 → oGo l Z a0 EL True pP eE sS mM #[.ref b, .int (0 : Int32), .ref d, .int (0 : Int32), .int (Int32.ofNat cs.length)] bB tT cC ({ frames := 0, cells := 0, slots := 0, locals := 0 } : Room) "java/lang/StringUTF16" jdk_52_method_21_code 7 (some .int) "compress" (q_cmp5 Z h d cs) oNo [d] h1 0 0 3 #[.val (.ref b), .val (.int (Int32.ofNat i)), .val (.ref d), .val (.int (Int32.ofNat i)), .val (.int (Int32.ofNat cs.length)), .val (.int (Int32.ofNat i)), s6] [] := by
    intro r
    induction r with
    | zero =>
      intro i h1 vs s6 hr K B1 hv ht hc hs6
      obtain rfl : i = cs.length := by omega
      refine oGo.iload (pc' := 5) d7_3 rfl rfl ?_
      refine oGo.iload (pc' := 7) d7_5 rfl rfl ?_
      refine oGo.icmp_ge (pc1 := 10) (pc2 := 44) d7_7 rfl (by decide) (fun q1 => ?_) (fun q => absurd q (by rw [own_lt hb31 hb31]; omega))
      refine oGo.iload (pc' := 46) d7_44 rfl rfl ?_
      exact oGo.ireturn d7_46 rfl (by decide) (by decide) ⟨K, cs.length, rfl, Or.inl ⟨rfl, by rw [List.take_of_length_le (by omega), List.take_of_length_le (by simp)] at ht; rw [← ht]; exact B1, by simpa using hc⟩⟩ (fun _ q => q.elim)
    | succ r ih =>
      intro i h1 vs s6 hr K B1 hv ht hc hs6
      have hi : i < cs.length := by omega
      obtain ⟨c, hci⟩ : ∃ c, cs[i]? = some c := ⟨_, List.getElem?_eq_getElem hi⟩
      have A1 := oArr.keep A K (own_nin1 hne)
      refine oGo.iload (pc' := 5) d7_3 rfl rfl ?_
      refine oGo.iload (pc' := 7) d7_5 rfl rfl ?_
      refine oGo.icmp_ge (pc1 := 10) (pc2 := 44) d7_7 rfl (by decide) (fun q => absurd ((own_lt (by omega) hb31).mpr hi) q) (fun q2 => ?_)
      refine oGo.aload_n (pc' := 11) d7_10 rfl rfl rfl ?_
      refine oGo.iload_n (pc' := 12) d7_11 rfl rfl ?_
      refine oGo.caload (pc' := 13) (i := i) d7_12 rfl A1 rfl (by rw [List.getElem?_map, hci]; rfl) ?_
      refine oGo.istoreS (pc' := 15) (Ls' := #[.val (.ref b), .val (.int (Int32.ofNat i)), .val (.ref d), .val (.int (Int32.ofNat i)), .val (.int (Int32.ofNat cs.length)), .val (.int (Int32.ofNat i)), .val (.int c)]) d7_13 rfl hs6 rfl rfl ?_
      refine oGo.iload (pc' := 17) d7_15 rfl rfl ?_
      refine oGo.sipush (pc' := 20) (v := 255) d7_17 rfl (by decide) ?_
      refine oGo.icmp_le (pc1 := 23) (pc2 := 26) d7_20 rfl (by decide) (fun q => ?_) (fun q => ?_)
      · refine oGo.aload_n (pc' := 27) d7_26 rfl rfl rfl ?_
        refine oGo.iload_n (pc' := 28) d7_27 rfl rfl ?_
        refine oGo.iload (pc' := 30) d7_28 rfl rfl ?_
        refine oGo.i2b (pc' := 31) d7_30 rfl ?_
        refine oGo.bastore (pc' := 32) (i := i) (w := lo8 c) d7_31 rfl B1 rfl (by omega) (lo8_idem c) (by simp) ?_
        intro h2 W sh2 B2
        refine oGo.iinc (pc' := 35) (y := 1) (Ls' := #[.val (.ref b), .val (.int ((Int32.ofNat i) + (1 : Int32))), .val (.ref d), .val (.int (Int32.ofNat i)), .val (.int (Int32.ofNat cs.length)), .val (.int (Int32.ofNat i)), .val (.int c)]) d7_32 rfl rfl (by decide) rfl ?_
        refine oGo.iinc (pc' := 38) (y := 1) (Ls' := #[.val (.ref b), .val (.int ((Int32.ofNat i) + (1 : Int32))), .val (.ref d), .val (.int ((Int32.ofNat i) + (1 : Int32))), .val (.int (Int32.ofNat cs.length)), .val (.int (Int32.ofNat i)), .val (.int c)]) d7_35 rfl rfl (by decide) rfl ?_
        refine oGo.iinc (pc' := 41) (y := 1) (Ls' := #[.val (.ref b), .val (.int ((Int32.ofNat i) + (1 : Int32))), .val (.ref d), .val (.int ((Int32.ofNat i) + (1 : Int32))), .val (.int (Int32.ofNat cs.length)), .val (.int ((Int32.ofNat i) + (1 : Int32))), .val (.int c)]) d7_38 rfl rfl (by decide) rfl ?_
        refine oGo.goto (pc' := 3) d7_41 (by decide) ?_
        rw [own_succ]
        refine ih (i + 1) h2 _ _ (by omega) (K.wr W (Or.inl (by simp))) B2 (by simpa using hv) ?_ ?_ (Or.inr ⟨_, rfl, rfl⟩)
        · rw [own_take_set _ _ _ (by omega), ht, own_take_succ (oI (cs.map lo8)) i (.int (lo8 c)) (by simp [hci])]
        · intro c' hc'
          rw [own_take_succ cs i c hci] at hc'
          rcases List.mem_append.mp hc' with q' | q'
          · exact hc c' q'
          · rw [List.mem_singleton.mp q']; exact q
      · refine oGo.iload (pc' := 25) d7_23 rfl rfl ?_
        exact oGo.ireturn d7_25 rfl (by decide) (by decide) ⟨K, i, rfl, Or.inr ⟨hi, c, hci, q⟩⟩ (fun _ q => q.elim)
  exact loop cs.length 0 h ws _ rfl (Keep.refl _ _) B hl rfl (by simp) (Or.inl rfl)
abbrev q_cmp3 (Z : State) (h : Heap) (cs : List Int32) : Option Value → Heap → Prop := fun v h' => Keep h h' [] ∧ ∃ t : Nat, v = some (.ref t) ∧ h.size ≤ t ∧ oArr Z h' t .byte (oI (cs.map lo8))
set_option maxRecDepth 65536 in
set_option maxHeartbeats 4000000 in
theorem c_cmp3 {l : Launch} {Z : State} {a0 : Array Value} {EL : List (String × Nat)} (hG : oG a0 Z EL) (b : Nat) (cs : List Int32) (hn : cs.length ≤ 10) (hcs : ∀ c ∈ cs, ¬ c < 0 ∧ ¬ 255 < c) (h : Heap) (A : oArr Z h b .char (oI cs)) :
    oCtr [] l Z a0 EL True (⟨"java/lang/StringUTF16", "compress", "([CII)[B"⟩ : MethodName) jdk_52_method_16_code 6 (some (.array .byte)) ({ frames := 1, cells := 1, slots := 10, locals := 18 } : Room) #[.ref b, .int (0 : Int32), .int (Int32.ofNat cs.length)] [] h ((q_cmp3 Z h cs)) oNo := by
  refine oCtr.enter (Ls := #[.val (.ref b), .val (.int (0 : Int32)), .val (.int (Int32.ofNat cs.length)), .unset, .unset, .unset]) (plainFor_of_name pn0) hG.2.1 (fun m => by first | (simp [entryFrame, mkF, argsToLocals, Value.category]; done) | rfl) ?_
  intro pP eE sS mM bB tT cC
  have hb31 : cs.length < 2147483648 := by omega
  have hbl : b < h.size := A.lt
  refine oGo.iload_n (pc' := 1) d6_0 rfl rfl ?_
  refine oGo.newarray (pc' := 3) (k' := 1) (n' := 10) (i := cs.length) d6_1 rfl (w27 hG) rfl 10 (hn) (by decide) rfl rfl (by decide) (by decide) (by decide) ?_
  intro h1 a2 qa2 la2 E3 A4'
  have A4 : oArr Z h1 a2 .byte (List.replicate (cs.length) (.int 0)) := A4'
  refine oGo.astore_n (pc' := 4) (Ls' := #[.val (.ref b), .val (.int (0 : Int32)), .val (.int (Int32.ofNat cs.length)), .val (.ref a2), .unset, .unset]) d6_3 rfl rfl rfl ?_
  refine oGo.aload_n (pc' := 5) d6_4 rfl rfl rfl ?_
  refine oGo.iload_n (pc' := 6) d6_5 rfl rfl ?_
  refine oGo.aload_n (pc' := 7) d6_6 rfl rfl rfl ?_
  refine oGo.iconst (pc' := 8) (v := 0) d6_7 rfl (by decide) ?_
  refine oGo.iload_n (pc' := 9) d6_8 rfl rfl ?_
  have f5 := oArr.ext E3 A
  refine oGo.invokestatic (pc' := 12) (k' := 1) (n' := 10) (argsL := [.ref b, .int (0 : Int32), .ref a2, .int (0 : Int32), .int (Int32.ofNat cs.length)]) (rest := []) d6_9 rfl (w28 hG) (w29 hG) (w25 hG) (w30 hG) (by decide) pd0 rfl rfl rfl (c_cmp5 hG b a2 cs _ _ f5 A4 (by simp) (by omega)) (by simp) (by decide) (Nat.le_of_ble_eq_true rfl) rfl rfl (by decide) (by decide) ?_
  intro v6 h7 sh7 q8
  obtain ⟨K3, r, rfl, hr⟩ := q8
  obtain ⟨rfl, B3⟩ : r = cs.length ∧ oArr Z h7 a2 .byte (oI (cs.map lo8)) := by
    rcases hr with ⟨h1, h2, -⟩ | ⟨-, c, h2, h3⟩
    · exact ⟨h1, h2⟩
    · exact absurd h3 (hcs c (List.mem_of_getElem? h2)).2
  refine ⟨_, fun _ hx => Or.inl hx, ?_⟩
  show oGo l Z a0 EL True pP eE sS mM _ bB tT cC _ _ _ _ _ _ _ _ [a2] h7 1 10 12 #[.val (.ref b), .val (.int (0 : Int32)), .val (.int (Int32.ofNat cs.length)), .val (.ref a2), .unset, .unset] [.int (Int32.ofNat cs.length)]
  refine oGo.istore (pc' := 14) (Ls' := #[.val (.ref b), .val (.int (0 : Int32)), .val (.int (Int32.ofNat cs.length)), .val (.ref a2), .val (.int (Int32.ofNat cs.length)), .unset]) d6_12 rfl rfl ?_
  refine oGo.iload (pc' := 16) d6_14 rfl rfl ?_
  refine oGo.iload_n (pc' := 17) d6_16 rfl rfl ?_
  refine oGo.icmp_eq (pc1 := 20) (pc2 := 57) d6_17 rfl (by decide) (fun q9 => ?_) (fun q => absurd rfl q)
  refine oGo.aload_n (pc' := 58) d6_57 rfl rfl rfl ?_
  exact oGo.areturn d6_58 rfl rfl rfl rfl (by decide) (by decide) ⟨(((Keep.refl h []).ext E3).trans K3 (own_new1 (by omega))), a2, rfl, by omega, B3⟩ (fun _ q => q.elim)
abbrev q_strI (Z : State) (h : Heap) (x : Nat) (cs : List Int32) : Option Value → Heap → Prop := fun v h' => v = none ∧ Keep h h' [x] ∧ ∃ t : Nat, oS Z h' x t cs
set_option maxRecDepth 65536 in
set_option maxHeartbeats 4000000 in
theorem c_strI4 {l : Launch} {Z : State} {a0 : Array Value} {EL : List (String × Nat)} (hG : oG a0 Z EL) (x b : Nat) (cs : List Int32) (hn0 : 0 < cs.length) (hn : cs.length ≤ 10) (hcs : ∀ c ∈ cs, ¬ c < 0 ∧ ¬ 255 < c) (u w0 : Value) (h : Heap) (A : oArr Z h b .char (oI cs)) (E : Exa Z h x "java/lang/String") (F1 : Fld Z h x "java/lang/String" "value" "[B" u) (F2 : Fld Z h x "java/lang/String" "coder" "B" w0) :
    oCtr [] l Z a0 EL True (⟨"java/lang/String", "<init>", "([CIILjava/lang/Void;)V"⟩ : MethodName) jdk_42_method_149_code 6 none ({ frames := 2, cells := 1, slots := 10, locals := 35 } : Room) #[.ref x, .ref b, .int (0 : Int32), .int (Int32.ofNat cs.length), .null] [x] h ((q_strI Z h x cs)) oNo := by
  obtain ⟨z, hzs, hz⟩ := sCOMPACT hG
  have hb31 : cs.length < 2147483648 := by omega
  have hxl : x < h.size := E.lt
  refine oCtr.enter (Ls := #[.val (.ref x), .val (.ref b), .val (.int (0 : Int32)), .val (.int (Int32.ofNat cs.length)), .val .null, .unset]) (plainFor_of_name pn1) hG.2.1 (fun m => by first | (simp [entryFrame, mkF, argsToLocals, Value.category]; done) | rfl) ?_
  intro pP eE sS mM bB tT cC
  refine oGo.aload_n (pc' := 1) d4_0 rfl rfl rfl ?_
  refine oGo.objinit (pc' := 4) d4_1 rfl (w19 hG) (w20 hG) (w21 hG) rfl (by decide) (Nat.le_of_ble_eq_true rfl) ?_
  refine oGo.iload_n (pc' := 5) d4_4 rfl rfl ?_
  refine oGo.if_ne (pc1 := 8) (pc2 := 27) d4_5 rfl (by decide) (fun q1 => ?_) (fun q => absurd ((own_eq (b := 0) hb31 (by omega)).mp q) (by omega))
  refine oGo.getstatic (pc' := 30) d4_27 rfl (w22 hG) Via.refl hzs ?_
  refine oGo.if_eq (pc1 := 33) (pc2 := 58) d4_30 rfl (by decide) (fun q => absurd q hz) (fun q2 => ?_)
  refine oGo.aload_n (pc' := 34) d4_33 rfl rfl rfl ?_
  refine oGo.iload_n (pc' := 35) d4_34 rfl rfl ?_
  refine oGo.iload_n (pc' := 36) d4_35 rfl rfl ?_
  refine oGo.invokestatic (pc' := 39) (k' := 1) (n' := 10) (argsL := [.ref b, .int (0 : Int32), .int (Int32.ofNat cs.length)]) (rest := []) d4_36 rfl (w23 hG) (w24 hG) (w25 hG) (w26 hG) (by decide) pd1 rfl rfl rfl (c_cmp3 hG b cs hn hcs h A) (by simp) (by decide) (Nat.le_of_ble_eq_true rfl) rfl rfl (by decide) (by decide) ?_
  intro v3 h4 sh4 q5
  obtain ⟨K2, t, rfl, ht, B2⟩ := q5
  refine ⟨_, fun _ hx => Or.inl hx, ?_⟩
  show oGo l Z a0 EL True pP eE sS mM _ bB tT cC _ _ _ _ _ _ _ _ [x] h4 1 10 39 #[.val (.ref x), .val (.ref b), .val (.int (0 : Int32)), .val (.int (Int32.ofNat cs.length)), .val .null, .unset] [.ref t]
  refine oGo.astore (pc' := 41) (Ls' := #[.val (.ref x), .val (.ref b), .val (.int (0 : Int32)), .val (.int (Int32.ofNat cs.length)), .val .null, .val (.ref t)]) d4_39 rfl rfl rfl ?_
  refine oGo.aload_n (pc' := 42) d4_41 rfl rfl rfl ?_
  refine oGo.aload (pc' := 44) d4_42 rfl rfl rfl ?_
  refine oGo.iload_n (pc' := 45) d4_44 rfl rfl ?_
  refine oGo.invokestatic (pc' := 48) (k' := 1) (n' := 10) (argsL := [.ref t, .int (Int32.ofNat cs.length)]) (rest := [.ref x]) d4_45 rfl (w31 hG) (w32 hG) (w25 hG) (w33 hG) (by decide) pd2 rfl rfl rfl (c_coderLen hG t _ (Int32.ofNat cs.length) _ B2) (by simp) (by decide) (Nat.le_of_ble_eq_true rfl) rfl rfl (by decide) (by decide) ?_
  intro v6 h7 sh7 q8
  obtain ⟨rfl, ee⟩ := q8
  obtain rfl := ee.symm
  refine ⟨_, fun _ hx => Or.inl hx, ?_⟩
  show oGo l Z a0 EL True pP eE sS mM _ bB tT cC _ _ _ _ _ _ _ _ [x] h4 1 10 48 #[.val (.ref x), .val (.ref b), .val (.int (0 : Int32)), .val (.int (Int32.ofNat cs.length)), .val .null, .val (.ref t)] [.int (codF (Int32.ofNat cs.length) (oI (cs.map lo8)).length), .ref x]
  rw [List.length_map, List.length_map, codF0]
  have f9 := Fld.keep F2 K2 nin0
  have f10 := Exa.keep E K2
  refine oGo.putfield (pc' := 51) (ty := .byte) d4_48 rfl (w34 hG) Via.refl f9 f10 (Or.inr ⟨(w35 hG), rfl, rfl⟩) (w10 hG) (by decide) (by decide) (by decide) (by simp) ?_
  intro h11 W12 sh11
  have f13 := Fld.same W12 f9
  refine oGo.aload_n (pc' := 52) d4_51 rfl rfl rfl ?_
  refine oGo.aload (pc' := 54) d4_52 rfl rfl rfl ?_
  have f14 := Fld.keep F1 K2 nin0
  have f15 := Fld.other W12 f14 (Or.inr (slot_ne (C := "java/lang/String") (Or.inr (w37 hG)) (Or.inr (w35 hG)) (by decide) (t := (.array .byte)) (t' := .byte) (by decide) (by decide)))
  have f16 := Exa.wr W12 f10
  refine oGo.putfield (pc' := 57) (ty := (.array .byte)) d4_54 rfl (w36 hG) Via.refl f15 f16 (Or.inr ⟨(w37 hG), rfl, rfl⟩) (w10 hG) (by decide) rfl rfl (by simp) ?_
  intro h17 W18 sh17
  have f19 := Fld.same W18 f15
  have f20 := Fld.other W18 f13 (Or.inr (slot_ne (C := "java/lang/String") (Or.inr (w35 hG)) (Or.inr (w37 hG)) (by decide) (t := .byte) (t' := (.array .byte)) (by decide) (by decide)))
  have f21 := Exa.wr W18 f16
  have f22 := oArr.other W12 B2 (own_ne (by omega))
  have f23 := oArr.other W18 f22 (own_ne (by omega))
  exact oGo.return_ d4_57 rfl (by decide) (by decide) ⟨rfl, (((Keep.refl h [x]).trans K2 (by simp)).wr W12 (Or.inl (by simp))).wr W18 (Or.inl (by simp)), t, f21, f19, f20, f23, hcs⟩ (fun _ q => q.elim)
set_option maxRecDepth 65536 in
set_option maxHeartbeats 4000000 in
theorem c_strI1 {l : Launch} {Z : State} {a0 : Array Value} {EL : List (String × Nat)} (hG : oG a0 Z EL) (x b : Nat) (cs : List Int32) (hn0 : 0 < cs.length) (hn : cs.length ≤ 10) (hcs : ∀ c ∈ cs, ¬ c < 0 ∧ ¬ 255 < c) (u w0 : Value) (h : Heap) (A : oArr Z h b .char (oI cs)) (E : Exa Z h x "java/lang/String") (F1 : Fld Z h x "java/lang/String" "value" "[B" u) (F2 : Fld Z h x "java/lang/String" "coder" "B" w0) :
    oCtr [] l Z a0 EL True (⟨"java/lang/String", "<init>", "([C)V"⟩ : MethodName) jdk_42_method_3_code 2 none ({ frames := 3, cells := 1, slots := 10, locals := 52 } : Room) #[.ref x, .ref b] [x] h ((q_strI Z h x cs)) oNo := by
  refine oCtr.enter (Ls := #[.val (.ref x), .val (.ref b)]) (plainFor_of_name pn1) hG.2.1 (fun m => by first | (simp [entryFrame, mkF, argsToLocals, Value.category]; done) | rfl) ?_
  intro pP eE sS mM bB tT cC
  refine oGo.aload_n (pc' := 1) d3_0 rfl rfl rfl ?_
  refine oGo.aload_n (pc' := 2) d3_1 rfl rfl rfl ?_
  refine oGo.iconst (pc' := 3) (v := 0) d3_2 rfl (by decide) ?_
  refine oGo.aload_n (pc' := 4) d3_3 rfl rfl rfl ?_
  refine oGo.arraylength (pc' := 5) (z := (Int32.ofNat cs.length)) d3_4 rfl A (by rw [List.length_map]) ?_
  refine oGo.aconst_null (pc' := 6) d3_5 rfl ?_
  refine oGo.invokespecial (pc' := 9) (k' := 1) (n' := 10) (a := x) (argsL := [.ref b, .int (0 : Int32), .int (Int32.ofNat cs.length), .null]) (rest := []) d3_6 rfl rfl (w15 hG) (w16 hG) (w11 hG) (w18 hG) (by decide) pd3 rfl rfl rfl (c_strI4 hG x b cs hn0 hn hcs u w0 h A E F1 F2) (by simp) (by decide) (Nat.le_of_ble_eq_true rfl) rfl rfl (by decide) (by decide) ?_
  intro v1 h2 sh2 q3
  obtain ⟨rfl, hq⟩ := q3
  refine ⟨_, fun _ hx => Or.inl hx, ?_⟩
  show oGo l Z a0 EL True pP eE sS mM _ bB tT cC _ _ _ _ _ _ _ _ [x] h2 1 10 9 #[.val (.ref x), .val (.ref b)] []
  exact oGo.return_ d3_9 rfl (by decide) (by decide) ⟨rfl, hq⟩ (fun _ q => q.elim)
set_option maxRecDepth 65536 in
set_option maxHeartbeats 4000000 in
theorem c_length {l : Launch} {Z : State} {a0 : Array Value} {EL : List (String × Nat)} (hG : oG a0 Z EL) (x t : Nat) (cs : List Int32) (h : Heap) (Sx : oS Z h x t cs) :
    oCtr [] l Z a0 EL True (⟨"java/lang/String", "length", "()I"⟩ : MethodName) jdk_42_method_54_code 1 (some .int) ({ frames := 1, cells := 0, slots := 0, locals := 13 } : Room) #[.ref x] [] h (fun v h' => v = some (.int (Int32.ofNat cs.length)) ∧ h' = h) oNo := by
  refine oCtr.enter (Ls := #[.val (.ref x)]) (plainFor_of_name pn1) hG.2.1 (fun m => by first | (simp [entryFrame, mkF, argsToLocals, Value.category]; done) | rfl) ?_
  intro pP eE sS mM bB tT cC
  refine oGo.aload_n (pc' := 1) d12_0 rfl rfl rfl ?_
  refine oGo.getfield (pc' := 4) d12_1 rfl (w36 hG) Via.refl Sx.2.1 ?_
  refine oGo.arraylength (pc' := 5) (z := (Int32.ofNat cs.length)) d12_4 rfl Sx.2.2.2.1 (by rw [List.length_map, List.length_map]) ?_
  refine oGo.aload_n (pc' := 6) d12_5 rfl rfl rfl ?_
  refine oGo.invokevirtual (pc' := 9) (k' := 0) (n' := 0) (a := x) (argsL := []) (rest := [.int (Int32.ofNat cs.length)]) d12_6 rfl (w58 hG) (w59 hG) (w61 hG) (w61 hG) rfl (w60 hG) (w11 hG) (w62 hG) (by decide) pd4 rfl rfl rfl Sx.1 (c_coder hG x 0 (Or.inl rfl) h Sx.2.2.1) (by simp) (by decide) (Nat.le_of_ble_eq_true rfl) rfl rfl (by decide) (by decide) ?_
  intro v1 h2 sh2 q3
  obtain ⟨rfl, ee⟩ := q3
  obtain rfl := ee.symm
  refine ⟨_, fun _ hx => Or.inl hx, ?_⟩
  show oGo l Z a0 EL True pP eE sS mM _ bB tT cC _ _ _ _ _ _ _ _ [] h 0 0 9 #[.val (.ref x)] [.int (0 : Int32), .int (Int32.ofNat cs.length)]
  refine oGo.ishr (pc' := 10) d12_9 rfl ?_
  exact oGo.ireturn d12_10 rfl (by decide) (by decide) ⟨by rw [shr0], rfl⟩ (fun _ q => q.elim)
def oSB (Z : State) (h : Heap) (sb b : Nat) (cs : List Int32) (cap : Nat) : Prop := Exa Z h sb "java/lang/StringBuilder" ∧ Fld Z h sb "java/lang/AbstractStringBuilder" "value" "[B" (.ref b) ∧ Fld Z h sb "java/lang/AbstractStringBuilder" "coder" "B" (.int 0) ∧ Fld Z h sb "java/lang/AbstractStringBuilder" "count" "I" (.int (Int32.ofNat cs.length)) ∧
  ∃ vs, oArr Z h b .byte vs ∧ vs.length = cap ∧ vs.take cs.length = oI (cs.map lo8) ∧ cs.length ≤ cap
abbrev oBuf (Z : State) (sb : Nat) : Option Value → Heap → Addr → Prop := fun _ h' x => Fld Z h' sb "java/lang/AbstractStringBuilder" "value" "[B" (.ref x)
def capF (cap m : Nat) : Nat := if m ≤ cap then cap else max m (2 * cap + 2)
section SB
variable {Z : State} {h h' : Heap} {sb b a : Addr} {cs : List Int32} {cap : Nat} {ws : List Addr}
theorem oSB.ext (S : oSB Z h sb b cs cap) (E : Ext h h') : oSB Z h' sb b cs cap := by
  obtain ⟨h1, h2, h3, h4, vs, h5, h6⟩ := S; exact ⟨h1.ext E, h2.ext E, h3.ext E, h4.ext E, vs, h5.ext E, h6⟩
theorem oSB.keep (S : oSB Z h sb b cs cap) (K : Keep h h' ws) (q : sb ∉ ws) (r : b ∉ ws) : oSB Z h' sb b cs cap := by
  obtain ⟨h1, h2, h3, h4, vs, h5, h6⟩ := S; exact ⟨h1.keep K, h2.keep K q, h3.keep K q, h4.keep K q, vs, h5.keep K r, h6⟩
theorem oFld_det {C n d : String} {v w : Value} (F : Fld Z h a C n d v) (G : Fld Z h a C n d w) : v = w := Classical.byContradiction fun q => absurd rfl (Fld.ne F G q)
end SB
theorem oSB_ne {a0 : Array Value} {Z : State} {EL : List (String × Nat)} (hG : oG a0 Z EL) {h : Heap} {sb b : Addr} {cs : List Int32} {cap : Nat} (S : oSB Z h sb b cs cap) : sb ≠ b := by
  obtain ⟨h1, -, -, -, vs, ⟨cl, h2, -⟩, -⟩ := S
  exact ne_arr h1 (w202 hG) h2
def lastM (ch : Int32) (cs : List Int32) : Nat := (cs.reverse.dropWhile (fun c => !(c == ch))).length
theorem lastM_snoc (ch c : Int32) (xs : List Int32) : lastM ch (xs ++ [c]) = if c = ch then xs.length + 1 else lastM ch xs := by
  unfold lastM
  rw [List.reverse_append, List.reverse_singleton, List.singleton_append, List.dropWhile_cons]
  by_cases h : c = ch
  · simp [h]
  · simp [h]
theorem lastM_le (ch : Int32) (cs : List Int32) : lastM ch cs ≤ cs.length := by
  unfold lastM
  have := (List.dropWhile_sublist (l := cs.reverse) (fun c => !(c == ch))).length_le
  simpa using this
theorem own_pred (k : Nat) : Int32.ofNat (k + 1) - 1 = Int32.ofNat k := by rw [← own_succ]; simp
theorem own_dec (x : Int32) : x + (-1) = x - 1 := by rw [Int32.sub_eq_add_neg]
theorem own_dec1 (x : Int32) : x - 1 + 1 = x := by simp
theorem lo8_inj {x y : Int32} (hx : ¬ x < 0 ∧ ¬ 255 < x) (hy : ¬ y < 0 ∧ ¬ 255 < y) (h : lo8 x = lo8 y) : x = y := by
  rw [← lat_says hx.1 hx.2, ← lat_says hy.1 hy.2, h]
theorem own_decA (o k k' : Nat) (h : k = k' + 1) : Int32.ofNat (o + k) + (-1) = Int32.ofNat (o + k') := by
  subst h
  rw [← Nat.add_assoc, ← own_succ, Int32.add_assoc, show (1 : Int32) + (-1) = 0 from by decide, Int32.add_zero]
theorem own_sub1 {i : Nat} (h : 1 ≤ i) (hi : i < 2147483648) : Int32.ofNat i - 1 = Int32.ofNat (i - 1) := own_subN (i := 1) h hi
abbrev isW (c : Int32) : Prop := c = 32 ∨ c = 9
def enc (c : Int32) : List Int32 := if c = 34 ∨ c = 92 then [92, c] else [c]
theorem enc_y {c : Int32} (h : c = 34 ∨ c = 92) : enc c = [92, c] := if_pos h
theorem enc_n {c : Int32} (h : ¬ (c = 34 ∨ c = 92)) : enc c = [c] := if_neg h
theorem enc_le (c : Int32) : (enc c).length ≤ 2 := by unfold enc; split <;> simp
def bareF (w : Nat) : Nat := if w = 0 then 33 else 34 + w
def pqF (v : Nat) : Nat := if v < 2 then 32 + v else if v < 59 then 33 + v else 34 + v
def kcF (v : Nat) : Nat := if v = 93 then 34 else if v = 94 then 92 else pqF v
theorem bare_ok : ∀ w : Nat, w < 93 → ¬ Int32.ofNat (bareF w) < 33 ∧ ¬ 126 < Int32.ofNat (bareF w) ∧ Int32.ofNat (bareF w) ≠ 34 := by decide +kernel
theorem kc_ok : ∀ v : Nat, v < 95 → ¬ Int32.ofNat (kcF v) < 32 ∧ ¬ 126 < Int32.ofNat (kcF v) := by decide +kernel
theorem kc_enc : ∀ v : Nat, v < 93 → ¬ (Int32.ofNat (kcF v) = 34 ∨ Int32.ofNat (kcF v) = 92) := by decide +kernel
theorem pq_lt {v : Nat} (h : v < 93) : pqF v < 256 := by
  unfold pqF; split
  · omega
  · split <;> omega
theorem pq_kc {v : Nat} (h : v < 93) : kcF v = pqF v := by unfold kcF; rw [if_neg (by omega), if_neg (by omega)]
def put (xs : List Int32) (p : Nat) (ys : List Int32) : List Int32 := xs.take p ++ (ys ++ xs.drop (p + ys.length))
theorem put_nil (xs : List Int32) (p : Nat) : put xs p [] = xs := by
  show xs.take p ++ ([] ++ xs.drop (p + 0)) = xs
  rw [List.nil_append, Nat.add_zero, List.take_append_drop]
theorem put_len {xs ys : List Int32} {p : Nat} (h : p + ys.length ≤ xs.length) : (put xs p ys).length = xs.length := by
  simp only [put, List.length_append, List.length_take, List.length_drop]; omega
theorem put_set {xs ys : List Int32} {p i : Nat} (c : Int32) (h : p + ys.length < xs.length) (hi : i = p + ys.length) : (oI (put xs p ys)).set i (.int c) = oI (put xs p (ys ++ [c])) := by
  subst hi
  have e : xs.drop (p + ys.length) = xs[p + ys.length] :: xs.drop (p + ys.length + 1) := List.drop_eq_getElem_cons h
  have e1 : put xs p ys = (xs.take p ++ ys) ++ xs[p + ys.length] :: xs.drop (p + ys.length + 1) := by rw [put, e, List.append_assoc]
  have e2 : put xs p (ys ++ [c]) = (xs.take p ++ ys) ++ c :: xs.drop (p + ys.length + 1) := by
    have e3 : p + (ys ++ [c]).length = p + ys.length + 1 := by rw [List.length_append]; rfl
    rw [put, e3, List.append_assoc, List.append_assoc]; first | done | rfl
  have hl : ((xs.take p ++ ys).map Value.int).length = p + ys.length := by
    simp only [List.length_map, List.length_append, List.length_take]; omega
  obtain ⟨A, hA⟩ : ∃ A, A = xs.take p ++ ys := ⟨_, rfl⟩
  rw [← hA] at e1 e2 hl
  rw [e1, e2]
  show (List.map Value.int _).set _ _ = List.map Value.int _
  rw [List.map_append, List.map_append, List.set_append_right _ _ (by omega), hl, Nat.sub_self, List.map_cons, List.set_cons_zero, List.map_cons]
theorem put_lt {xs ys : List Int32} {p i : Nat} (h : i < p) (hp : p ≤ xs.length) : (put xs p ys)[i]? = xs[i]? := by
  rw [put, List.getElem?_append_left (by rw [List.length_take]; omega), List.getElem?_take_of_lt h]
theorem put_at {xs ys : List Int32} {p j : Nat} (h : j < ys.length) (hp : p ≤ xs.length) : (put xs p ys)[p + j]? = ys[j]? := by
  have hl : (xs.take p).length = p := by rw [List.length_take]; omega
  rw [put, List.getElem?_append_right (by omega), hl, Nat.add_sub_cancel_left, List.getElem?_append_left h]
theorem put_ge {xs ys : List Int32} {p i : Nat} (h : p + ys.length ≤ i) (hp : p ≤ xs.length) : (put xs p ys)[i]? = xs[i]? := by
  have hl : (xs.take p ++ ys).length = p + ys.length := by rw [List.length_append, List.length_take]; omega
  rw [put, ← List.append_assoc, List.getElem?_append_right (by omega), hl, List.getElem?_drop, show p + ys.length + (i - (p + ys.length)) = i by omega]
theorem put_mid {xs ys : List Int32} {p : Nat} (hp : p ≤ xs.length) : ((put xs p ys).drop p).take (p + ys.length - p) = ys := by
  have hl : (xs.take p).length = p := by rw [List.length_take]; omega
  rw [put, List.drop_left' hl, Nat.add_sub_cancel_left, List.take_left' rfl]
theorem put_mem {xs ys : List Int32} {p : Nat} {c : Int32} (h : c ∈ put xs p ys) : c ∈ xs ∨ c ∈ ys := by
  rcases List.mem_append.mp h with h | h
  · exact Or.inl (List.mem_of_mem_take h)
  · rcases List.mem_append.mp h with h | h
    · exact Or.inr h
    · exact Or.inl (List.mem_of_mem_drop h)
def oWs (cs : List Int32) (a b : Nat) : Prop := a < b ∧ b ≤ cs.length ∧ cs.length ≤ 10 ∧ (∀ i, i < a → ∃ c, cs[i]? = some c ∧ isW c) ∧ (∃ c, cs[a]? = some c ∧ ¬ isW c) ∧ (∃ c, cs[b - 1]? = some c ∧ ¬ isW c) ∧ ∀ i, b ≤ i → i < cs.length → ∃ c, cs[i]? = some c ∧ isW c
theorem put_ws {xs ys : List Int32} {p : Nat} (hx : ∀ c ∈ xs, isW c) (hl : xs.length = 10) (h1 : p + ys.length ≤ 10) (h0 : 0 < ys.length) (hf : ∃ c, ys[0]? = some c ∧ ¬ isW c) (hla : ∃ c, ys[ys.length - 1]? = some c ∧ ¬ isW c) : oWs (put xs p ys) p (p + ys.length) := by
  have hlen := put_len (xs := xs) (ys := ys) (p := p) (by omega)
  have hxs : ∀ i, i < 10 → ∃ c, xs[i]? = some c ∧ isW c := fun i hi => ⟨xs[i], List.getElem?_eq_getElem (by omega), hx _ (List.getElem_mem _)⟩
  refine ⟨by omega, by omega, by omega, fun i hi => ?_, ?_, ?_, fun i hi hi2 => ?_⟩
  · rw [put_lt hi (by omega)]; exact hxs i (by omega)
  · have e := put_at (xs := xs) (ys := ys) (p := p) (j := 0) h0 (by omega)
    rw [Nat.add_zero] at e; rw [e]; exact hf
  · have e := put_at (xs := xs) (ys := ys) (p := p) (j := ys.length - 1) (by omega) (by omega)
    rw [show p + (ys.length - 1) = p + ys.length - 1 by omega] at e; rw [e]; exact hla
  · rw [put_ge hi (by omega)]; exact hxs i (by omega)
abbrev qot (ks : List Int32) : List Int32 := [34] ++ ks.flatMap enc ++ [34]
theorem qot_len (ks : List Int32) : (qot ks).length = (ks.flatMap enc).length + 2 := by simp only [qot, List.length_append, List.length_cons, List.length_nil] <;> omega
theorem flat_snoc (ds : List Int32) (c : Int32) : ((ds ++ [c]).flatMap enc).length = (ds.flatMap enc).length + (enc c).length := by
  rw [List.flatMap_append, List.length_append, List.flatMap_cons, List.flatMap_nil, List.append_nil]
theorem flat_ge (ks : List Int32) : ks.length ≤ (ks.flatMap enc).length := by
  induction ks with
  | nil => exact Nat.zero_le _
  | cons c ks ih =>
    rw [List.flatMap_cons, List.length_append, List.length_cons]
    have : 1 ≤ (enc c).length := by unfold enc; split <;> simp
    omega
theorem qot_end (ks : List Int32) : (qot ks)[1 + (ks.flatMap enc).length]? = some 34 := by
  have hl : ([34] ++ ks.flatMap enc).length = 1 + (ks.flatMap enc).length := by simp only [List.length_append, List.length_cons, List.length_nil] <;> omega
  rw [qot, List.getElem?_append_right (by omega), hl, Nat.sub_self]; rfl
theorem qot_at {ks ds rs : List Int32} {c : Int32} (hk : ds ++ c :: rs = ks) {j : Nat} (hj : j < (enc c).length) : (qot ks)[1 + (ds.flatMap enc).length + j]? = (enc c)[j]? := by
  subst hk
  have e : qot (ds ++ c :: rs) = ([34] ++ ds.flatMap enc) ++ (enc c ++ (rs.flatMap enc ++ [34])) := by
    simp [qot, List.flatMap_append, List.flatMap_cons, List.append_assoc]
  have hl : ([34] ++ ds.flatMap enc).length = 1 + (ds.flatMap enc).length := by simp only [List.length_append, List.length_cons, List.length_nil] <;> omega
  rw [e, List.getElem?_append_right (by omega), hl, Nat.add_sub_cancel_left, List.getElem?_append_left hj]
theorem qot_lt {ks ds rs : List Int32} {c : Int32} (hk : ds ++ c :: rs = ks) : 1 + (ds.flatMap enc).length + (enc c).length < (qot ks).length := by
  subst hk
  rw [qot_len, List.flatMap_append, List.length_append, List.flatMap_cons, List.length_append]; omega
theorem own_addL (o k : Nat) (z : Int32) (hz : z = Int32.ofNat k) : Int32.ofNat o + z = Int32.ofNat (o + k) := by rw [hz, Int32.ofNat_add]
theorem own_r3 (x : Int32) : ∃ k : Nat, k < 3 ∧ (x &&& 3) % 3 = Int32.ofNat k := by
  have h0 := own_ge0.mp (own_and_lo x 3 (by decide))
  have h1 := own_le.mp (own_and_hi x 3 (by decide))
  have e : (3 : Int32).toInt = 3 := rfl
  obtain ⟨k, hk, ek⟩ := own_nat (x := x &&& 3) (N := 4) h0 (by omega)
  rw [ek]
  rcases (show k = 0 ∨ k = 1 ∨ k = 2 ∨ k = 3 by omega) with rfl | rfl | rfl | rfl
  · exact ⟨0, by decide, by decide⟩
  · exact ⟨1, by decide, by decide⟩
  · exact ⟨2, by decide, by decide⟩
  · exact ⟨0, by decide, by decide⟩
theorem own_r95 (x : Int32) : ∃ v : Nat, v < 95 ∧ (x &&& 2147483647) % 95 = Int32.ofNat v := own_irem x 95 95 (by decide) (by decide) rfl
theorem own_r93 (x : Int32) : ∃ v : Nat, v < 93 ∧ (x &&& 2147483647) % 93 = Int32.ofNat v := own_irem x 93 93 (by decide) (by decide) rfl
theorem own_c16 {n : Nat} (h : n < 256) : (Int32.ofNat n).toUInt32.toUInt16.toUInt32.toInt32 = Int32.ofNat n := by
  refine nar_char (own_nn (by omega)) ?_
  rw [show (65535 : Int32) = Int32.ofNat 65535 from rfl, own_lt (by omega) (by omega)]; omega
theorem own_n16 {n : Nat} (h : n < 256) : nar .char (Int32.ofNat n) = Int32.ofNat n := own_c16 h
theorem own_pr {c : Int32} (h : ¬ c < 32 ∧ ¬ 126 < c) : ¬ c < 0 ∧ ¬ 255 < c := by
  obtain ⟨h1, h2⟩ := h
  have e1 : (32 : Int32).toInt = 32 := rfl
  have e2 : (126 : Int32).toInt = 126 := rfl
  have e3 : (255 : Int32).toInt = 255 := rfl
  rw [Int32.lt_iff_toInt_lt] at h1 h2
  refine ⟨own_ge0.mpr (by omega), ?_⟩
  rw [Int32.lt_iff_toInt_lt]; omega
theorem own_b32 {c : Int32} (h : ¬ c < 33 ∧ ¬ 126 < c ∧ c ≠ 34) : ¬ c < 32 ∧ ¬ 126 < c := by
  refine ⟨?_, h.2.1⟩
  have h1 := h.1
  have e1 : (32 : Int32).toInt = 32 := rfl
  have e2 : (33 : Int32).toInt = 33 := rfl
  rw [Int32.lt_iff_toInt_lt] at h1 ⊢; omega
theorem own_bw {c : Int32} (h : ¬ c < 33 ∧ ¬ 126 < c ∧ c ≠ 34) : ¬ isW c := by
  rintro (q | q)
  · exact h.1 (by rw [q]; decide)
  · exact h.1 (by rw [q]; decide)
theorem own_b34 {c : Int32} (h : ¬ c < 33 ∧ ¬ 126 < c ∧ c ≠ 34) : c ≠ 32 ∧ c ≠ 34 := ⟨fun q => h.1 (by rw [q]; decide), h.2.2⟩
theorem own_isw {c : Int32} (h : isW c) : ¬ c < 0 ∧ ¬ 255 < c := by rcases h with rfl | rfl <;> decide
theorem lo8_ne {x y : Int32} (hx : ¬ x < 0 ∧ ¬ 255 < x) (hy : ¬ y < 0 ∧ ¬ 255 < y) (h : x ≠ y) : lo8 x ≠ lo8 y := fun q => h (lo8_inj hx hy q)
theorem own_put_bd {xs ys : List Int32} {p : Nat} (hx : ∀ c ∈ xs, isW c) (hy : ∀ c ∈ ys, ¬ c < 0 ∧ ¬ 255 < c) : ∀ c ∈ put xs p ys, ¬ c < 0 ∧ ¬ 255 < c := by
  intro c hc
  rcases put_mem hc with q | q
  · exact own_isw (hx c q)
  · exact hy c q
theorem own_enc_bd {c d : Int32} (h : ¬ c < 32 ∧ ¬ 126 < c) (hd : d ∈ enc c) : ¬ d < 0 ∧ ¬ 255 < d := by
  unfold enc at hd
  split at hd
  · rcases List.mem_cons.mp hd with rfl | hd
    · decide
    · rw [List.mem_singleton.mp hd]; exact own_pr h
  · rw [List.mem_singleton.mp hd]; exact own_pr h
theorem own_qot_bd {ks : List Int32} (h : ∀ c ∈ ks, ¬ c < 32 ∧ ¬ 126 < c) : ∀ d ∈ qot ks, ¬ d < 0 ∧ ¬ 255 < d := by
  intro d hd
  rcases List.mem_append.mp hd with hd | hd
  · rcases List.mem_append.mp hd with hd | hd
    · rw [List.mem_singleton.mp hd]; decide
    · obtain ⟨c, hc, hd⟩ := List.mem_flatMap.mp hd
      exact own_enc_bd (h c hc) hd
  · rw [List.mem_singleton.mp hd]; decide
theorem qot_ends (ks : List Int32) : (∃ c, (qot ks)[0]? = some c ∧ ¬ isW c) ∧ ∃ c, (qot ks)[(qot ks).length - 1]? = some c ∧ ¬ isW c := by
  refine ⟨⟨34, rfl, by decide⟩, 34, ?_, by decide⟩
  rw [qot_len, show (ks.flatMap enc).length + 2 - 1 = 1 + (ks.flatMap enc).length by omega]; exact qot_end ks

set_option maxRecDepth 65536 in
set_option maxHeartbeats 4000000 in
theorem c_min {l : Launch} {Z : State} {a0 : Array Value} {EL : List (String × Nat)} (hG : oG a0 Z EL) (i j : Nat) (hi : i < 2147483648) (hj : j < 2147483648) (h : Heap)  :
    oCtr [] l Z a0 EL True (⟨"java/lang/Math", "min", "(II)I"⟩ : MethodName) jdk_29_method_69_code 2 (some .int) ({ frames := 0, cells := 0, slots := 0, locals := 0 } : Room) #[.int (Int32.ofNat i), .int (Int32.ofNat j)] [] h (fun v h' => v = some (.int (Int32.ofNat (min i j))) ∧ h' = h) oNo := by
  refine oCtr.enter (Ls := #[.val (.int (Int32.ofNat i)), .val (.int (Int32.ofNat j))]) (Jvm.Free.JP.mathPlain rfl (by decide +kernel)) hG.2.1 (fun m => by first | (simp [entryFrame, mkF, argsToLocals, Value.category]; done) | rfl) ?_
  intro pP eE sS mM bB tT cC
  refine oGo.iload_n (pc' := 1) d27_0 rfl rfl ?_
  refine oGo.iload_n (pc' := 2) d27_1 rfl rfl ?_
  refine oGo.icmp_gt (pc1 := 5) (pc2 := 9) d27_2 rfl (by decide) (fun q => ?_) (fun q => ?_)
  · refine oGo.iload_n (pc' := 10) d27_9 rfl rfl ?_
    exact oGo.ireturn d27_10 rfl (by decide) (by decide) ⟨by rw [Nat.min_eq_right (by rw [own_lt hj hi] at q; omega)], rfl⟩ (fun _ q => q.elim)
  · refine oGo.iload_n (pc' := 6) d27_5 rfl rfl ?_
    refine oGo.goto (pc' := 10) d27_6 (by decide) ?_
    exact oGo.ireturn d27_10 rfl (by decide) (by decide) ⟨by rw [Nat.min_eq_left (by rw [own_lt hj hi] at q; omega)], rfl⟩ (fun _ q => q.elim)
set_option maxRecDepth 65536 in
set_option maxHeartbeats 4000000 in
theorem c_max {l : Launch} {Z : State} {a0 : Array Value} {EL : List (String × Nat)} (hG : oG a0 Z EL) (i j : Nat) (hi : i < 2147483648) (hj : j < 2147483648) (h : Heap)  :
    oCtr [] l Z a0 EL True (⟨"java/lang/Math", "max", "(II)I"⟩ : MethodName) jdk_29_method_65_code 2 (some .int) ({ frames := 0, cells := 0, slots := 0, locals := 0 } : Room) #[.int (Int32.ofNat i), .int (Int32.ofNat j)] [] h (fun v h' => v = some (.int (Int32.ofNat (max i j))) ∧ h' = h) oNo := by
  refine oCtr.enter (Ls := #[.val (.int (Int32.ofNat i)), .val (.int (Int32.ofNat j))]) (Jvm.Free.JP.mathPlain rfl (by decide +kernel)) hG.2.1 (fun m => by first | (simp [entryFrame, mkF, argsToLocals, Value.category]; done) | rfl) ?_
  intro pP eE sS mM bB tT cC
  refine oGo.iload_n (pc' := 1) d36_0 rfl rfl ?_
  refine oGo.iload_n (pc' := 2) d36_1 rfl rfl ?_
  refine oGo.icmp_lt (pc1 := 5) (pc2 := 9) d36_2 rfl (by decide) (fun q => ?_) (fun q => ?_)
  · refine oGo.iload_n (pc' := 10) d36_9 rfl rfl ?_
    exact oGo.ireturn d36_10 rfl (by decide) (by decide) ⟨by rw [Nat.max_eq_right (by rw [own_lt hi hj] at q; omega)], rfl⟩ (fun _ q => q.elim)
  · refine oGo.iload_n (pc' := 6) d36_5 rfl rfl ?_
    refine oGo.goto (pc' := 10) d36_6 (by decide) ?_
    exact oGo.ireturn d36_10 rfl (by decide) (by decide) ⟨by rw [Nat.max_eq_left (by rw [own_lt hi hj] at q; omega)], rfl⟩ (fun _ q => q.elim)
set_option maxRecDepth 65536 in
set_option maxHeartbeats 4000000 in
theorem c_checkLength {l : Launch} {Z : State} {a0 : Array Value} {EL : List (String × Nat)} (hG : oG a0 Z EL) (i j : Nat) (hij : i ≤ j) (hj : j < 2147483648) (h : Heap)  :
    oCtr [] l Z a0 EL True (⟨"java/util/Arrays", "checkLength", "(II)V"⟩ : MethodName) jdk_65_method_131_code 2 none ({ frames := 0, cells := 0, slots := 0, locals := 0 } : Room) #[.int (Int32.ofNat i), .int (Int32.ofNat j)] [] h (fun v h' => v = none ∧ h' = h) oNo := by
  refine oCtr.enter (Ls := #[.val (.int (Int32.ofNat i)), .val (.int (Int32.ofNat j))]) (plainFor_of_name pn2) hG.2.1 (fun m => by first | (simp [entryFrame, mkF, argsToLocals, Value.category]; done) | rfl) ?_
  intro pP eE sS mM bB tT cC
  refine oGo.iload_n (pc' := 1) d26_0 rfl rfl ?_
  refine oGo.iload_n (pc' := 2) d26_1 rfl rfl ?_
  refine oGo.icmp_ge (pc1 := 5) (pc2 := 37) d26_2 rfl (by decide) (fun q1 => ?_) (fun q => absurd q (by rw [own_lt hj (by omega)]; omega))
  exact oGo.return_ d26_37 rfl (by decide) (by decide) ⟨rfl, rfl⟩ (fun _ q => q.elim)
abbrev q_cor (Z : State) (h : Heap) (vs : List Value) (i j : Nat) : Option Value → Heap → Prop := fun v h' => Keep h h' [] ∧ ∃ t : Nat, v = some (.ref t) ∧ h.size ≤ t ∧ oArr Z h' t .byte ((vs.drop i).take (j - i))
set_option maxRecDepth 65536 in
set_option maxHeartbeats 4000000 in
theorem c_corb {l : Launch} {Z : State} {a0 : Array Value} {EL : List (String × Nat)} (hG : oG a0 Z EL) (a : Nat) (vs : List Value) (i j : Nat) (hij : i ≤ j) (hj : j ≤ vs.length) (hN : j - i ≤ 10) (h : Heap) (A : oArr Z h a .byte vs) :
    oCtr [] l Z a0 EL True (⟨"java/util/Arrays", "copyOfRangeByte", "([BII)[B"⟩ : MethodName) jdk_65_method_133_code 5 (some (.array .byte)) ({ frames := 1, cells := 1, slots := 10, locals := 18 } : Room) #[.ref a, .int (Int32.ofNat i), .int (Int32.ofNat j)] [] h ((q_cor Z h vs i j)) oRet := by
  have hb31 : vs.length < 2147483648 := by obtain ⟨_, _, _, q, _⟩ := A; exact q
  have hal := own_ltN A.lt
  refine oCtr.enter (Ls := #[.val (.ref a), .val (.int (Int32.ofNat i)), .val (.int (Int32.ofNat j)), .unset, .unset]) (plainFor_of_name pn2) hG.2.1 (fun m => by first | (simp [entryFrame, mkF, argsToLocals, Value.category]; done) | rfl) ?_
  intro pP eE sS mM bB tT cC
  refine oGo.iload_n (pc' := 1) d25_0 rfl rfl ?_
  refine oGo.iload_n (pc' := 2) d25_1 rfl rfl ?_
  refine oGo.invokestatic (pc' := 5) (k' := 0) (n' := 0) (argsL := [.int (Int32.ofNat i), .int (Int32.ofNat j)]) (rest := []) d25_2 rfl (w111 hG) (w112 hG) (w106 hG) (w113 hG) (by decide) pd5 rfl rfl rfl (c_checkLength hG i j hij (by omega) h) (by simp) (by decide) (Nat.le_of_ble_eq_true rfl) rfl rfl (by decide) (by decide) ?_
  intro v1 h2 sh2 q3
  obtain ⟨rfl, ee⟩ := q3
  obtain rfl := ee.symm
  refine ⟨_, fun _ hx => Or.inl hx, ?_⟩
  show oGo l Z a0 EL True pP eE sS mM _ bB tT cC _ _ _ _ _ _ _ _ [] h 0 0 5 #[.val (.ref a), .val (.int (Int32.ofNat i)), .val (.int (Int32.ofNat j)), .unset, .unset] []
  refine oGo.iload_n (pc' := 6) d25_5 rfl rfl ?_
  refine oGo.iload_n (pc' := 7) d25_6 rfl rfl ?_
  refine oGo.isub (pc' := 8) d25_7 rfl ?_
  rw [own_subN hij (by omega)]
  refine oGo.istore_n (pc' := 9) (Ls' := #[.val (.ref a), .val (.int (Int32.ofNat i)), .val (.int (Int32.ofNat j)), .val (.int (Int32.ofNat (j - i))), .unset]) d25_8 rfl rfl ?_
  refine oGo.iload_n (pc' := 10) d25_9 rfl rfl ?_
  refine oGo.newarray (pc' := 12) (k' := 1) (n' := 10) (i := (j - i)) d25_10 rfl (w27 hG) rfl 10 (hN) (by decide) rfl rfl (by decide) (by decide) (by decide) ?_
  intro h4 a5 qa5 la5 E6 A7'
  have A7 : oArr Z h4 a5 .byte (List.replicate ((j - i)) (.int 0)) := A7'
  refine oGo.astore (pc' := 14) (Ls' := #[.val (.ref a), .val (.int (Int32.ofNat i)), .val (.int (Int32.ofNat j)), .val (.int (Int32.ofNat (j - i))), .val (.ref a5)]) d25_12 rfl rfl rfl ?_
  refine oGo.aload_n (pc' := 15) d25_14 rfl rfl rfl ?_
  refine oGo.iload_n (pc' := 16) d25_15 rfl rfl ?_
  refine oGo.aload (pc' := 18) d25_16 rfl rfl rfl ?_
  refine oGo.iconst (pc' := 19) (v := 0) d25_18 rfl (by decide) ?_
  refine oGo.aload_n (pc' := 20) d25_19 rfl rfl rfl ?_
  have f8 := oArr.ext E6 A
  refine oGo.arraylength (pc' := 21) (z := (Int32.ofNat vs.length)) d25_20 rfl f8 rfl ?_
  refine oGo.iload_n (pc' := 22) d25_21 rfl rfl ?_
  refine oGo.isub (pc' := 23) d25_22 rfl ?_
  rw [own_subN (i := i) (j := vs.length) (by omega) hb31]
  refine oGo.iload_n (pc' := 24) d25_23 rfl rfl ?_
  refine oGo.invokestatic (pc' := 27) (k' := 1) (n' := 10) (argsL := [.int (Int32.ofNat (vs.length - i)), .int (Int32.ofNat (j - i))]) (rest := [.int (0 : Int32), .ref a5, .int (Int32.ofNat i), .ref a]) d25_24 rfl (w114 hG) (w115 hG) (w116 hG) (w117 hG) (by decide) pd6 rfl rfl rfl (c_min hG (vs.length - i) (j - i) (by omega) (by omega) _) (by simp) (by decide) (Nat.le_of_ble_eq_true rfl) rfl rfl (by decide) (by decide) ?_
  intro v9 h10 sh10 q11
  obtain ⟨rfl, ee⟩ := q11
  obtain rfl := ee.symm
  refine ⟨_, fun _ hx => Or.inl hx, ?_⟩
  show oGo l Z a0 EL True pP eE sS mM _ bB tT cC _ _ _ _ _ _ _ _ [a5] h4 1 10 27 #[.val (.ref a), .val (.int (Int32.ofNat i)), .val (.int (Int32.ofNat j)), .val (.int (Int32.ofNat (j - i))), .val (.ref a5)] [.int (Int32.ofNat (min (vs.length - i) (j - i))), .int (0 : Int32), .ref a5, .int (Int32.ofNat i), .ref a]
  rw [Nat.min_eq_right (by omega : j - i ≤ vs.length - i)]
  refine oGo.arraycopy (pc' := 30) (i := i) (j := 0) (q := (j - i)) d25_27 rfl (w118 hG) (w121 hG) (w119 hG) (w120 hG) f8 A7 (by omega) (by simp) rfl (by decide) (Nat.le_of_ble_eq_true rfl) (by simp) ?_
  intro h12 K13 sh12 A14
  refine oGo.aload (pc' := 32) d25_30 rfl rfl rfl ?_
  exact oGo.areturn d25_32 rfl rfl rfl rfl (by decide) (by decide) ⟨((Keep.refl h []).ext E6).trans K13 (own_new1 (by omega)), a5, rfl, by omega, by simpa using A14⟩ (fun x q => by cases q; simp)
set_option maxRecDepth 65536 in
set_option maxHeartbeats 4000000 in
theorem c_cor {l : Launch} {Z : State} {a0 : Array Value} {EL : List (String × Nat)} (hG : oG a0 Z EL) (a : Nat) (vs : List Value) (i j : Nat) (hij : i ≤ j) (hj : j ≤ vs.length) (hN : j - i ≤ 10) (hne : ¬ (i = 0 ∧ j = vs.length)) (h : Heap) (A : oArr Z h a .byte vs) :
    oCtr [] l Z a0 EL True (⟨"java/util/Arrays", "copyOfRange", "([BII)[B"⟩ : MethodName) jdk_65_method_132_code 3 (some (.array .byte)) ({ frames := 2, cells := 1, slots := 10, locals := 34 } : Room) #[.ref a, .int (Int32.ofNat i), .int (Int32.ofNat j)] [] h ((q_cor Z h vs i j)) oRet := by
  have hb31 : vs.length < 2147483648 := by obtain ⟨_, _, _, q, _⟩ := A; exact q
  refine oCtr.enter (Ls := #[.val (.ref a), .val (.int (Int32.ofNat i)), .val (.int (Int32.ofNat j))]) (plainFor_of_name pn2) hG.2.1 (fun m => by first | (simp [entryFrame, mkF, argsToLocals, Value.category]; done) | rfl) ?_
  intro pP eE sS mM bB tT cC
  refine oGo.iload_n (pc' := 1) d24_0 rfl rfl ?_
  refine oGo.if_ne (pc1 := 4) (pc2 := 10) d24_1 rfl (by decide) (fun q => ?_) (fun q => ?_)
  · refine oGo.aload_n (pc' := 11) d24_10 rfl rfl rfl ?_
    refine oGo.iload_n (pc' := 12) d24_11 rfl rfl ?_
    refine oGo.iload_n (pc' := 13) d24_12 rfl rfl ?_
    refine oGo.invokestatic (pc' := 16) (k' := 1) (n' := 10) (argsL := [.ref a, .int (Int32.ofNat i), .int (Int32.ofNat j)]) (rest := []) d24_13 rfl (w108 hG) (w109 hG) (w106 hG) (w110 hG) (by decide) pd7 rfl rfl rfl (c_corb hG a vs i j hij hj hN h A) (by simp) (by decide) (Nat.le_of_ble_eq_true rfl) rfl rfl (by decide) (by decide) ?_
    intro v1 h2 sh2 q3
    obtain ⟨K2, t, rfl, ht, B⟩ := q3
    refine ⟨[t], own_D1 (rfl), ?_⟩
    show oGo l Z a0 EL True pP eE sS mM _ bB tT cC _ _ _ _ _ _ _ _ [t] h2 1 10 16 #[.val (.ref a), .val (.int (Int32.ofNat i)), .val (.int (Int32.ofNat j))] [.ref t]
    exact oGo.areturn d24_16 rfl rfl rfl rfl (by decide) (by decide) ⟨K2, t, rfl, ht, B⟩ (fun x q => by cases q; simp)
  · have hi0 : i = 0 := (own_eq (b := 0) (by omega) (by omega)).mp q
    refine oGo.iload_n (pc' := 5) d24_4 rfl rfl ?_
    refine oGo.aload_n (pc' := 6) d24_5 rfl rfl rfl ?_
    refine oGo.arraylength (pc' := 7) (z := (Int32.ofNat vs.length)) d24_6 rfl A rfl ?_
    refine oGo.icmp_eq (pc1 := 10) (pc2 := 17) d24_7 rfl (by decide) (fun q => absurd ⟨hi0, (own_eq (by omega) hb31).mp q⟩ hne) (fun q4 => ?_)
    refine oGo.aload_n (pc' := 11) d24_10 rfl rfl rfl ?_
    refine oGo.iload_n (pc' := 12) d24_11 rfl rfl ?_
    refine oGo.iload_n (pc' := 13) d24_12 rfl rfl ?_
    refine oGo.invokestatic (pc' := 16) (k' := 1) (n' := 10) (argsL := [.ref a, .int (Int32.ofNat i), .int (Int32.ofNat j)]) (rest := []) d24_13 rfl (w108 hG) (w109 hG) (w106 hG) (w110 hG) (by decide) pd7 rfl rfl rfl (c_corb hG a vs i j hij hj hN h A) (by simp) (by decide) (Nat.le_of_ble_eq_true rfl) rfl rfl (by decide) (by decide) ?_
    intro v5 h6 sh6 q7
    obtain ⟨K2, t, rfl, ht, B⟩ := q7
    refine ⟨[t], own_D1 (rfl), ?_⟩
    show oGo l Z a0 EL True pP eE sS mM _ bB tT cC _ _ _ _ _ _ _ _ [t] h6 1 10 16 #[.val (.ref a), .val (.int (Int32.ofNat i)), .val (.int (Int32.ofNat j))] [.ref t]
    exact oGo.areturn d24_16 rfl rfl rfl rfl (by decide) (by decide) ⟨K2, t, rfl, ht, B⟩ (fun x q => by cases q; simp)
set_option maxRecDepth 65536 in
set_option maxHeartbeats 4000000 in
theorem c_preCheck {l : Launch} {Z : State} {a0 : Array Value} {EL : List (String × Nat)} (hG : oG a0 Z EL) (i n : Int32) (fm : Value) (hf : fm.isRef = true) (h0 : ¬ i < 0) (h1 : i < n) (h : Heap)  :
    oCtr [] l Z a0 EL True (⟨"jdk/internal/util/Preconditions", "checkIndex", "(IILjava/util/function/BiFunction;)I"⟩ : MethodName) jdk_41_method_11_code 3 (some .int) ({ frames := 0, cells := 0, slots := 0, locals := 0 } : Room) #[.int i, .int n, fm] [] h (fun v h' => v = some (.int i) ∧ h' = h) oNo := by
  refine oCtr.enter (Ls := #[.val (.int i), .val (.int n), .val fm]) (plainFor_of_name pn3) hG.2.1 (fun m => by rcases ref_cases hf with rfl | ⟨_, rfl⟩ <;> first | (simp [entryFrame, mkF, argsToLocals, Value.category]; done) | rfl) ?_
  intro pP eE sS mM bB tT cC
  refine oGo.iload_n (pc' := 1) d18_0 rfl rfl ?_
  refine oGo.if_lt (pc1 := 4) (pc2 := 9) d18_1 rfl (by decide) (fun q => absurd q h0) (fun q1 => ?_)
  refine oGo.iload_n (pc' := 5) d18_4 rfl rfl ?_
  refine oGo.iload_n (pc' := 6) d18_5 rfl rfl ?_
  refine oGo.icmp_lt (pc1 := 9) (pc2 := 16) d18_6 rfl (by decide) (fun q2 => ?_) (fun q => absurd h1 q)
  refine oGo.iload_n (pc' := 17) d18_16 rfl rfl ?_
  exact oGo.ireturn d18_17 rfl (by decide) (by decide) ⟨rfl, rfl⟩ (fun _ q => q.elim)
set_option maxRecDepth 65536 in
set_option maxHeartbeats 4000000 in
theorem c_checkIndex {l : Launch} {Z : State} {a0 : Array Value} {EL : List (String × Nat)} (hG : oG a0 Z EL) (i n : Int32) (h0 : ¬ i < 0) (h1 : i < n) (h : Heap)  :
    oCtr [] l Z a0 EL True (⟨"java/lang/String", "checkIndex", "(II)V"⟩ : MethodName) jdk_42_method_155_code 2 none ({ frames := 1, cells := 0, slots := 0, locals := 14 } : Room) #[.int i, .int n] [] h (fun v h' => v = none ∧ h' = h) oNo := by
  obtain ⟨fm, hfs, hfr⟩ := sSIOOBE hG
  refine oCtr.enter (Ls := #[.val (.int i), .val (.int n)]) (plainFor_of_name pn1) hG.2.1 (fun m => by first | (simp [entryFrame, mkF, argsToLocals, Value.category]; done) | rfl) ?_
  intro pP eE sS mM bB tT cC
  refine oGo.iload_n (pc' := 1) d17_0 rfl rfl ?_
  refine oGo.iload_n (pc' := 2) d17_1 rfl rfl ?_
  refine oGo.getstatic (pc' := 5) d17_2 rfl (w80 hG) Via.refl hfs ?_
  refine oGo.invokestatic (pc' := 8) (k' := 0) (n' := 0) (argsL := [.int i, .int n, fm]) (rest := []) d17_5 rfl (w82 hG) (w83 hG) (w81 hG) (w84 hG) (by decide) pd8 rfl rfl rfl (c_preCheck hG i n fm hfr h0 h1 h) (by simp) (by decide) (Nat.le_of_ble_eq_true rfl) rfl rfl (by decide) (by decide) ?_
  intro v1 h2 sh2 q3
  obtain ⟨rfl, ee⟩ := q3
  obtain rfl := ee.symm
  refine ⟨_, fun _ hx => Or.inl hx, ?_⟩
  show oGo l Z a0 EL True pP eE sS mM _ bB tT cC _ _ _ _ _ _ _ _ [] h 0 0 8 #[.val (.int i), .val (.int n)] [.int i]
  refine oGo.pop (pc' := 9) d17_8 rfl rfl ?_
  exact oGo.return_ d17_9 rfl (by decide) (by decide) ⟨rfl, rfl⟩ (fun _ q => q.elim)
set_option maxRecDepth 65536 in
set_option maxHeartbeats 4000000 in
theorem c_isLatin1 {l : Launch} {Z : State} {a0 : Array Value} {EL : List (String × Nat)} (hG : oG a0 Z EL) (x : Nat) (cd : Int32) (h : Heap) (F : Fld Z h x "java/lang/String" "coder" "B" (.int cd)) :
    oCtr [] l Z a0 EL True (⟨"java/lang/String", "isLatin1", "()Z"⟩ : MethodName) jdk_42_method_154_code 1 (some .boolean) ({ frames := 0, cells := 0, slots := 0, locals := 0 } : Room) #[.ref x] [] h (fun v h' => v = some (.int (if cd = 0 then 1 else 0)) ∧ h' = h) oNo := by
  obtain ⟨z, hzs, hz⟩ := sCOMPACT hG
  refine oCtr.enter (Ls := #[.val (.ref x)]) (plainFor_of_name pn1) hG.2.1 (fun m => by first | (simp [entryFrame, mkF, argsToLocals, Value.category]; done) | rfl) ?_
  intro pP eE sS mM bB tT cC
  refine oGo.getstatic (pc' := 3) d15_0 rfl (w22 hG) Via.refl hzs ?_
  refine oGo.if_eq (pc1 := 6) (pc2 := 17) d15_3 rfl (by decide) (fun q => absurd q hz) (fun q1 => ?_)
  refine oGo.aload_n (pc' := 7) d15_6 rfl rfl rfl ?_
  refine oGo.getfield (pc' := 10) d15_7 rfl (w34 hG) Via.refl F ?_
  refine oGo.if_ne (pc1 := 13) (pc2 := 17) d15_10 rfl (by decide) (fun q => ?_) (fun q => ?_)
  · refine oGo.iconst (pc' := 18) (v := 0) d15_17 rfl (by decide) ?_
    exact oGo.nreturn d15_18 rfl (by simp) rfl (by decide) (by decide) ⟨by rw [if_neg q]; rfl, rfl⟩ (fun _ q => q.elim)
  · refine oGo.iconst (pc' := 14) (v := 1) d15_13 rfl (by decide) ?_
    refine oGo.goto (pc' := 18) d15_14 (by decide) ?_
    exact oGo.nreturn d15_18 rfl (by simp) rfl (by decide) (by decide) ⟨by rw [if_pos q]; rfl, rfl⟩ (fun _ q => q.elim)
set_option maxRecDepth 65536 in
set_option maxHeartbeats 4000000 in
theorem c_latCharAt {l : Launch} {Z : State} {a0 : Array Value} {EL : List (String × Nat)} (hG : oG a0 Z EL) (t : Nat) (cs : List Int32) (i : Nat) (c : Int32) (hc : ¬ c < 0 ∧ ¬ 255 < c) (hi : cs[i]? = some c) (h : Heap) (B : oArr Z h t .byte (oI (cs.map lo8))) :
    oCtr [] l Z a0 EL True (⟨"java/lang/StringLatin1", "charAt", "([BI)C"⟩ : MethodName) jdk_43_method_2_code 2 (some .char) ({ frames := 2, cells := 0, slots := 0, locals := 27 } : Room) #[.ref t, .int (Int32.ofNat i)] [] h (fun v h' => v = some (.int c) ∧ h' = h) oNo := by
  have hl : i < cs.length := (List.getElem?_eq_some_iff.mp hi).1
  have hb31 : cs.length < 2147483648 := by obtain ⟨_, _, _, q, _⟩ := B; simpa using q
  refine oCtr.enter (Ls := #[.val (.ref t), .val (.int (Int32.ofNat i))]) (plainFor_of_name pn4) hG.2.1 (fun m => by first | (simp [entryFrame, mkF, argsToLocals, Value.category]; done) | rfl) ?_
  intro pP eE sS mM bB tT cC
  refine oGo.iload_n (pc' := 1) d16_0 rfl rfl ?_
  refine oGo.aload_n (pc' := 2) d16_1 rfl rfl rfl ?_
  refine oGo.arraylength (pc' := 3) (z := (Int32.ofNat cs.length)) d16_2 rfl B (by rw [List.length_map, List.length_map]) ?_
  refine oGo.invokestatic (pc' := 6) (k' := 0) (n' := 0) (argsL := [.int (Int32.ofNat i), .int (Int32.ofNat cs.length)]) (rest := []) d16_3 rfl (w77 hG) (w78 hG) (w11 hG) (w79 hG) (by decide) pd5 rfl rfl rfl (c_checkIndex hG _ _ (own_nn (by omega)) ((own_lt (by omega) hb31).mpr hl) h) (by simp) (by decide) (Nat.le_of_ble_eq_true rfl) rfl rfl (by decide) (by decide) ?_
  intro v1 h2 sh2 q3
  obtain ⟨rfl, ee⟩ := q3
  obtain rfl := ee.symm
  refine ⟨_, fun _ hx => Or.inl hx, ?_⟩
  show oGo l Z a0 EL True pP eE sS mM _ bB tT cC _ _ _ _ _ _ _ _ [] h 0 0 6 #[.val (.ref t), .val (.int (Int32.ofNat i))] []
  refine oGo.aload_n (pc' := 7) d16_6 rfl rfl rfl ?_
  refine oGo.iload_n (pc' := 8) d16_7 rfl rfl ?_
  refine oGo.baload (pc' := 9) (i := i) d16_8 rfl B rfl (v := .int (lo8 c)) (by simp [hi]) ?_
  refine oGo.sipush (pc' := 12) (v := 255) d16_9 rfl (by decide) ?_
  refine oGo.iand (pc' := 13) d16_12 rfl ?_
  refine oGo.i2c (pc' := 14) d16_13 rfl ?_
  exact oGo.nreturn d16_14 rfl (by simp) (lat_says hc.1 hc.2) (by decide) (by decide) ⟨rfl, rfl⟩ (fun _ q => q.elim)
set_option maxRecDepth 65536 in
set_option maxHeartbeats 4000000 in
theorem c_charAt {l : Launch} {Z : State} {a0 : Array Value} {EL : List (String × Nat)} (hG : oG a0 Z EL) (x t : Nat) (cs : List Int32) (i : Nat) (c : Int32) (hi : cs[i]? = some c) (h : Heap) (Sx : oS Z h x t cs) :
    oCtr [] l Z a0 EL True (⟨"java/lang/String", "charAt", "(I)C"⟩ : MethodName) jdk_42_method_56_code 2 (some .char) ({ frames := 3, cells := 0, slots := 0, locals := 40 } : Room) #[.ref x, .int (Int32.ofNat i)] [] h (fun v h' => v = some (.int c) ∧ h' = h) oNo := by
  have hc := Sx.2.2.2.2 c (List.mem_of_getElem? hi)
  refine oCtr.enter (Ls := #[.val (.ref x), .val (.int (Int32.ofNat i))]) (plainFor_of_name pn1) hG.2.1 (fun m => by first | (simp [entryFrame, mkF, argsToLocals, Value.category]; done) | rfl) ?_
  intro pP eE sS mM bB tT cC
  refine oGo.aload_n (pc' := 1) d14_0 rfl rfl rfl ?_
  refine oGo.invokevirtual (pc' := 4) (k' := 0) (n' := 0) (a := x) (argsL := []) (rest := []) d14_1 rfl (w68 hG) (w69 hG) (w71 hG) (w71 hG) rfl (w70 hG) (w11 hG) (w72 hG) (by decide) pd9 rfl rfl rfl Sx.1 (c_isLatin1 hG x 0 h Sx.2.2.1) (by simp) (by decide) (Nat.le_of_ble_eq_true rfl) rfl rfl (by decide) (by decide) ?_
  intro v1 h2 sh2 q3
  obtain ⟨rfl, ee⟩ := q3
  obtain rfl := ee.symm
  refine ⟨_, fun _ hx => Or.inl hx, ?_⟩
  show oGo l Z a0 EL True pP eE sS mM _ bB tT cC _ _ _ _ _ _ _ _ [] h 0 0 4 #[.val (.ref x), .val (.int (Int32.ofNat i))] [.int (1 : Int32)]
  refine oGo.if_eq (pc1 := 7) (pc2 := 16) d14_4 rfl (by decide) (fun q => by first | exact absurd q (by decide) | exact absurd (by decide) q) (fun q4 => ?_)
  refine oGo.aload_n (pc' := 8) d14_7 rfl rfl rfl ?_
  refine oGo.getfield (pc' := 11) d14_8 rfl (w36 hG) Via.refl Sx.2.1 ?_
  refine oGo.iload_n (pc' := 12) d14_11 rfl rfl ?_
  refine oGo.invokestatic (pc' := 15) (k' := 0) (n' := 0) (argsL := [.ref t, .int (Int32.ofNat i)]) (rest := []) d14_12 rfl (w73 hG) (w74 hG) (w75 hG) (w76 hG) (by decide) pd10 rfl rfl rfl (c_latCharAt hG t cs i c hc hi h Sx.2.2.2.1) (by simp) (by decide) (Nat.le_of_ble_eq_true rfl) rfl rfl (by decide) (by decide) ?_
  intro v5 h6 sh6 q7
  obtain ⟨rfl, ee⟩ := q7
  obtain rfl := ee.symm
  refine ⟨_, fun _ hx => Or.inl hx, ?_⟩
  show oGo l Z a0 EL True pP eE sS mM _ bB tT cC _ _ _ _ _ _ _ _ [] h 0 0 15 #[.val (.ref x), .val (.int (Int32.ofNat i))] [.int c]
  exact oGo.nreturn d14_15 rfl (by simp) (nar_char hc.1 (own_255 hc.2)) (by decide) (by decide) ⟨rfl, rfl⟩ (fun _ q => q.elim)
set_option maxRecDepth 65536 in
set_option maxHeartbeats 4000000 in
theorem c_fromTo {l : Launch} {Z : State} {a0 : Array Value} {EL : List (String × Nat)} (hG : oG a0 Z EL) (i j n : Nat) (hij : i ≤ j) (hjn : j ≤ n) (hn : n < 2147483648) (fm : Value) (hf : fm.isRef = true) (h : Heap)  :
    oCtr [] l Z a0 EL True (⟨"jdk/internal/util/Preconditions", "checkFromToIndex", "(IIILjava/util/function/BiFunction;)I"⟩ : MethodName) jdk_41_method_12_code 4 (some .int) ({ frames := 0, cells := 0, slots := 0, locals := 0 } : Room) #[.int (Int32.ofNat i), .int (Int32.ofNat j), .int (Int32.ofNat n), fm] [] h (fun v h' => v = some (.int (Int32.ofNat i)) ∧ h' = h) oNo := by
  refine oCtr.enter (Ls := #[.val (.int (Int32.ofNat i)), .val (.int (Int32.ofNat j)), .val (.int (Int32.ofNat n)), .val fm]) (plainFor_of_name pn3) hG.2.1 (fun m => by rcases ref_cases hf with rfl | ⟨_, rfl⟩ <;> first | (simp [entryFrame, mkF, argsToLocals, Value.category]; done) | rfl) ?_
  intro pP eE sS mM bB tT cC
  refine oGo.iload_n (pc' := 1) d22_0 rfl rfl ?_
  refine oGo.if_lt (pc1 := 4) (pc2 := 14) d22_1 rfl (by decide) (fun q => absurd q (own_nn (by omega))) (fun q1 => ?_)
  refine oGo.iload_n (pc' := 5) d22_4 rfl rfl ?_
  refine oGo.iload_n (pc' := 6) d22_5 rfl rfl ?_
  refine oGo.icmp_gt (pc1 := 9) (pc2 := 14) d22_6 rfl (by decide) (fun q => absurd q (by rw [own_lt (by omega) (by omega)]; omega)) (fun q2 => ?_)
  refine oGo.iload_n (pc' := 10) d22_9 rfl rfl ?_
  refine oGo.iload_n (pc' := 11) d22_10 rfl rfl ?_
  refine oGo.icmp_le (pc1 := 14) (pc2 := 22) d22_11 rfl (by decide) (fun q3 => ?_) (fun q => absurd q (by rw [own_lt (by omega) (by omega)]; omega))
  refine oGo.iload_n (pc' := 23) d22_22 rfl rfl ?_
  exact oGo.ireturn d22_23 rfl (by decide) (by decide) ⟨rfl, rfl⟩ (fun _ q => q.elim)
set_option maxRecDepth 65536 in
set_option maxHeartbeats 4000000 in
theorem c_bounds {l : Launch} {Z : State} {a0 : Array Value} {EL : List (String × Nat)} (hG : oG a0 Z EL) (i j n : Nat) (hij : i ≤ j) (hjn : j ≤ n) (hn : n < 2147483648) (h : Heap)  :
    oCtr [] l Z a0 EL True (⟨"java/lang/String", "checkBoundsBeginEnd", "(III)V"⟩ : MethodName) jdk_42_method_158_code 3 none ({ frames := 1, cells := 0, slots := 0, locals := 15 } : Room) #[.int (Int32.ofNat i), .int (Int32.ofNat j), .int (Int32.ofNat n)] [] h (fun v h' => v = none ∧ h' = h) oNo := by
  obtain ⟨fm, hfs, hfr⟩ := sSIOOBE hG
  refine oCtr.enter (Ls := #[.val (.int (Int32.ofNat i)), .val (.int (Int32.ofNat j)), .val (.int (Int32.ofNat n))]) (plainFor_of_name pn1) hG.2.1 (fun m => by first | (simp [entryFrame, mkF, argsToLocals, Value.category]; done) | rfl) ?_
  intro pP eE sS mM bB tT cC
  refine oGo.iload_n (pc' := 1) d21_0 rfl rfl ?_
  refine oGo.iload_n (pc' := 2) d21_1 rfl rfl ?_
  refine oGo.iload_n (pc' := 3) d21_2 rfl rfl ?_
  refine oGo.getstatic (pc' := 6) d21_3 rfl (w80 hG) Via.refl hfs ?_
  refine oGo.invokestatic (pc' := 9) (k' := 0) (n' := 0) (argsL := [.int (Int32.ofNat i), .int (Int32.ofNat j), .int (Int32.ofNat n), fm]) (rest := []) d21_6 rfl (w97 hG) (w98 hG) (w81 hG) (w99 hG) (by decide) pd11 rfl rfl rfl (c_fromTo hG i j n hij hjn hn fm hfr h) (by simp) (by decide) (Nat.le_of_ble_eq_true rfl) rfl rfl (by decide) (by decide) ?_
  intro v1 h2 sh2 q3
  obtain ⟨rfl, ee⟩ := q3
  obtain rfl := ee.symm
  refine ⟨_, fun _ hx => Or.inl hx, ?_⟩
  show oGo l Z a0 EL True pP eE sS mM _ bB tT cC _ _ _ _ _ _ _ _ [] h 0 0 9 #[.val (.int (Int32.ofNat i)), .val (.int (Int32.ofNat j)), .val (.int (Int32.ofNat n))] [.int (Int32.ofNat i)]
  refine oGo.pop (pc' := 10) d21_9 rfl rfl ?_
  exact oGo.return_ d21_10 rfl (by decide) (by decide) ⟨rfl, rfl⟩ (fun _ q => q.elim)
set_option maxRecDepth 65536 in
set_option maxHeartbeats 4000000 in
theorem c_strBB {l : Launch} {Z : State} {a0 : Array Value} {EL : List (String × Nat)} (hG : oG a0 Z EL) (x t : Nat) (cs : List Int32) (hcs : ∀ c ∈ cs, ¬ c < 0 ∧ ¬ 255 < c) (u w0 : Value) (hne : t ≠ x) (h : Heap) (B : oArr Z h t .byte (oI (cs.map lo8))) (E : Exa Z h x "java/lang/String") (F1 : Fld Z h x "java/lang/String" "value" "[B" u) (F2 : Fld Z h x "java/lang/String" "coder" "B" w0) :
    oCtr [] l Z a0 EL True (⟨"java/lang/String", "<init>", "([BB)V"⟩ : MethodName) jdk_42_method_151_code 3 none ({ frames := 1, cells := 0, slots := 0, locals := 12 } : Room) #[.ref x, .ref t, .int (0 : Int32)] [x] h (fun v h' => v = none ∧ Keep h h' [x] ∧ oS Z h' x t cs) oNo := by
  refine oCtr.enter (Ls := #[.val (.ref x), .val (.ref t), .val (.int (0 : Int32))]) (plainFor_of_name pn1) hG.2.1 (fun m => by first | (simp [entryFrame, mkF, argsToLocals, Value.category]; done) | rfl) ?_
  intro pP eE sS mM bB tT cC
  refine oGo.aload_n (pc' := 1) d28_0 rfl rfl rfl ?_
  refine oGo.objinit (pc' := 4) d28_1 rfl (w19 hG) (w20 hG) (w21 hG) rfl (by decide) (Nat.le_of_ble_eq_true rfl) ?_
  refine oGo.aload_n (pc' := 5) d28_4 rfl rfl rfl ?_
  refine oGo.aload_n (pc' := 6) d28_5 rfl rfl rfl ?_
  refine oGo.putfield (pc' := 9) (ty := (.array .byte)) d28_6 rfl (w36 hG) Via.refl F1 E (Or.inr ⟨(w37 hG), rfl, rfl⟩) (w10 hG) (by decide) rfl rfl (by simp) ?_
  intro h1 W2 sh1
  have f3 := Fld.same W2 F1
  refine oGo.aload_n (pc' := 10) d28_9 rfl rfl rfl ?_
  refine oGo.iload_n (pc' := 11) d28_10 rfl rfl ?_
  have f4 := Fld.other W2 F2 (Or.inr (slot_ne (C := "java/lang/String") (Or.inr (w35 hG)) (Or.inr (w37 hG)) (by decide) (t := .byte) (t' := (.array .byte)) (by decide) (by decide)))
  have f5 := Exa.wr W2 E
  refine oGo.putfield (pc' := 14) (ty := .byte) d28_11 rfl (w34 hG) Via.refl f4 f5 (Or.inr ⟨(w35 hG), rfl, rfl⟩) (w10 hG) (by decide) (by decide) (by decide) (by simp) ?_
  intro h6 W7 sh6
  have f8 := Fld.same W7 f4
  have f9 := Exa.wr W7 f5
  have f10 := Fld.other W7 f3 (Or.inr (slot_ne (C := "java/lang/String") (Or.inr (w37 hG)) (Or.inr (w35 hG)) (by decide) (t := (.array .byte)) (t' := .byte) (by decide) (by decide)))
  have f11 := oArr.other W2 B (own_ne (by omega))
  have f12 := oArr.other W7 f11 (own_ne (by omega))
  exact oGo.return_ d28_14 rfl (by decide) (by decide) ⟨rfl, ((Keep.refl h [x]).wr W2 (Or.inl (by simp))).wr W7 (Or.inl (by simp)), f9, f10, f8, f12, hcs⟩ (fun _ q => q.elim)
abbrev q_sub (Z : State) (h : Heap) (cs : List Int32) : Option Value → Heap → Prop := fun v h' => Keep h h' [] ∧ ∃ y u : Nat, v = some (.ref y) ∧ oS Z h' y u cs
set_option maxRecDepth 65536 in
set_option maxHeartbeats 4000000 in
theorem c_newStr {l : Launch} {Z : State} {a0 : Array Value} {EL : List (String × Nat)} (hG : oG a0 Z EL) (t : Nat) (cs : List Int32) (i j : Nat) (hij : i < j) (hj : j ≤ cs.length) (hN : j - i ≤ 10) (hne : ¬ (i = 0 ∧ j = cs.length)) (hcs : ∀ c ∈ cs, ¬ c < 0 ∧ ¬ 255 < c) (h : Heap) (B : oArr Z h t .byte (oI (cs.map lo8))) :
    oCtr [] l Z a0 EL True (⟨"java/lang/StringLatin1", "newString", "([BII)Ljava/lang/String;"⟩ : MethodName) jdk_43_method_47_code 3 (some (.object "java/lang/String")) ({ frames := 3, cells := 2, slots := 14, locals := 50 } : Room) #[.ref t, .int (Int32.ofNat i), .int (Int32.ofNat (j - i))] [] h ((q_sub Z h ((cs.drop i).take (j - i)))) oNo := by
  have hb31 : cs.length < 2147483648 := by obtain ⟨_, _, _, q, _⟩ := B; simpa using q
  have htl := own_ltN B.lt
  refine oCtr.enter (Ls := #[.val (.ref t), .val (.int (Int32.ofNat i)), .val (.int (Int32.ofNat (j - i)))]) (plainFor_of_name pn4) hG.2.1 (fun m => by first | (simp [entryFrame, mkF, argsToLocals, Value.category]; done) | rfl) ?_
  intro pP eE sS mM bB tT cC
  refine oGo.iload_n (pc' := 1) d23_0 rfl rfl ?_
  refine oGo.if_ne (pc1 := 4) (pc2 := 7) d23_1 rfl (by decide) (fun q1 => ?_) (fun q => absurd ((own_eq (b := 0) (by omega) (by omega)).mp q) (by omega))
  refine oGo.new (pc' := 10) (k' := 1) (n' := 4) d23_7 rfl (w103 hG) (w10 hG) (w11 hG) rfl rfl (by decide) (by decide) ?_
  intro h2 a3 qa3 la3 E4 X5 F6
  have f7 := F6 (Or.inr (w35 hG)) (ty := .byte) (by decide)
  have f8 := F6 (Or.inr (w37 hG)) (ty := (.array .byte)) (by decide)
  refine oGo.dup (pc' := 11) d23_10 rfl rfl ?_
  refine oGo.aload_n (pc' := 12) d23_11 rfl rfl rfl ?_
  refine oGo.iload_n (pc' := 13) d23_12 rfl rfl ?_
  refine oGo.iload_n (pc' := 14) d23_13 rfl rfl ?_
  refine oGo.iload_n (pc' := 15) d23_14 rfl rfl ?_
  refine oGo.iadd (pc' := 16) d23_15 rfl ?_
  rw [← Int32.ofNat_add, show i + (j - i) = j by omega]
  have f9 := oArr.ext E4 B
  refine oGo.invokestatic (pc' := 19) (k' := 2) (n' := 14) (argsL := [.ref t, .int (Int32.ofNat i), .int (Int32.ofNat j)]) (rest := [.ref a3, .ref a3]) d23_16 rfl (w104 hG) (w105 hG) (w106 hG) (w107 hG) (by decide) pd7 rfl rfl rfl (c_cor hG t _ i j (by omega) (by simpa using hj) hN (by simpa using hne) _ f9) (by simp) (by decide) (Nat.le_of_ble_eq_true rfl) rfl rfl (by decide) (by decide) ?_
  intro v10 h11 sh11 q12
  obtain ⟨K2, u, rfl, hu, B2⟩ := q12
  rw [own_sub_map] at B2
  refine ⟨[u, a3], own_D1 (rfl), ?_⟩
  show oGo l Z a0 EL True pP eE sS mM _ bB tT cC _ _ _ _ _ _ _ _ [u, a3] h11 2 14 19 #[.val (.ref t), .val (.int (Int32.ofNat i)), .val (.int (Int32.ofNat (j - i)))] [.ref u, .ref a3, .ref a3]
  refine oGo.iconst (pc' := 20) (v := 0) d23_19 rfl (by decide) ?_
  have f13 := Exa.keep X5 K2
  have f14 := Fld.keep f8 K2 nin0
  have f15 := Fld.keep f7 K2 nin0
  refine oGo.invokespecial (pc' := 23) (k' := 2) (n' := 14) (a := a3) (argsL := [.ref u, .int (0 : Int32)]) (rest := [.ref a3]) d23_20 rfl rfl (w122 hG) (w123 hG) (w11 hG) (w124 hG) (by decide) pd12 rfl rfl rfl (c_strBB hG a3 u _ (fun c hc => hcs c (List.mem_of_mem_drop (List.mem_of_mem_take hc))) _ _ (by omega) _ B2 f13 f14 f15) (by simp) (by decide) (Nat.le_of_ble_eq_true rfl) rfl rfl (by decide) (by decide) ?_
  intro v16 h17 sh17 q18
  obtain ⟨rfl, K3, S3⟩ := q18
  refine ⟨_, fun _ hx => Or.inl hx, ?_⟩
  show oGo l Z a0 EL True pP eE sS mM _ bB tT cC _ _ _ _ _ _ _ _ [u, a3] h17 2 14 23 #[.val (.ref t), .val (.int (Int32.ofNat i)), .val (.int (Int32.ofNat (j - i)))] [.ref a3]
  exact oGo.areturn d23_23 rfl rfl rfl rfl (by decide) (by decide) ⟨(((Keep.refl h []).ext E4).trans K2 (by simp)).trans K3 (own_new1 (by omega)), a3, u, rfl, S3⟩ (fun _ q => q.elim)
set_option maxRecDepth 65536 in
set_option maxHeartbeats 4000000 in
theorem c_sub {l : Launch} {Z : State} {a0 : Array Value} {EL : List (String × Nat)} (hG : oG a0 Z EL) (x t : Nat) (cs : List Int32) (i j : Nat) (hij : i < j) (hj : j ≤ cs.length) (hN : j - i ≤ 10) (h : Heap) (Sx : oS Z h x t cs) :
    oCtr [] l Z a0 EL True (⟨"java/lang/String", "substring", "(II)Ljava/lang/String;"⟩ : MethodName) jdk_42_method_92_code 5 (some (.object "java/lang/String")) ({ frames := 4, cells := 2, slots := 14, locals := 64 } : Room) #[.ref x, .int (Int32.ofNat i), .int (Int32.ofNat j)] [] h ((q_sub Z h ((cs.drop i).take (j - i)))) oNo := by
  have hb31 := Sx.len
  refine oCtr.enter (Ls := #[.val (.ref x), .val (.int (Int32.ofNat i)), .val (.int (Int32.ofNat j)), .unset, .unset]) (plainFor_of_name pn1) hG.2.1 (fun m => by first | (simp [entryFrame, mkF, argsToLocals, Value.category]; done) | rfl) ?_
  intro pP eE sS mM bB tT cC
  refine oGo.aload_n (pc' := 1) d20_0 rfl rfl rfl ?_
  refine oGo.invokevirtual (pc' := 4) (k' := 0) (n' := 0) (a := x) (argsL := []) (rest := []) d20_1 rfl (w93 hG) (w54 hG) (w56 hG) (w56 hG) rfl (w55 hG) (w11 hG) (w57 hG) (by decide) pd13 rfl rfl rfl Sx.1 (c_length hG x t cs h Sx) (by simp) (by decide) (Nat.le_of_ble_eq_true rfl) rfl rfl (by decide) (by decide) ?_
  intro v1 h2 sh2 q3
  obtain ⟨rfl, ee⟩ := q3
  obtain rfl := ee.symm
  refine ⟨_, fun _ hx => Or.inl hx, ?_⟩
  show oGo l Z a0 EL True pP eE sS mM _ bB tT cC _ _ _ _ _ _ _ _ [] h 0 0 4 #[.val (.ref x), .val (.int (Int32.ofNat i)), .val (.int (Int32.ofNat j)), .unset, .unset] [.int (Int32.ofNat cs.length)]
  refine oGo.istore_n (pc' := 5) (Ls' := #[.val (.ref x), .val (.int (Int32.ofNat i)), .val (.int (Int32.ofNat j)), .val (.int (Int32.ofNat cs.length)), .unset]) d20_4 rfl rfl ?_
  refine oGo.iload_n (pc' := 6) d20_5 rfl rfl ?_
  refine oGo.iload_n (pc' := 7) d20_6 rfl rfl ?_
  refine oGo.iload_n (pc' := 8) d20_7 rfl rfl ?_
  refine oGo.invokestatic (pc' := 11) (k' := 0) (n' := 0) (argsL := [.int (Int32.ofNat i), .int (Int32.ofNat j), .int (Int32.ofNat cs.length)]) (rest := []) d20_8 rfl (w94 hG) (w95 hG) (w11 hG) (w96 hG) (by decide) pd14 rfl rfl rfl (c_bounds hG i j cs.length (by omega) hj hb31 h) (by simp) (by decide) (Nat.le_of_ble_eq_true rfl) rfl rfl (by decide) (by decide) ?_
  intro v4 h5 sh5 q6
  obtain ⟨rfl, ee⟩ := q6
  obtain rfl := ee.symm
  refine ⟨_, fun _ hx => Or.inl hx, ?_⟩
  show oGo l Z a0 EL True pP eE sS mM _ bB tT cC _ _ _ _ _ _ _ _ [] h 0 0 11 #[.val (.ref x), .val (.int (Int32.ofNat i)), .val (.int (Int32.ofNat j)), .val (.int (Int32.ofNat cs.length)), .unset] []
  refine oGo.iload_n (pc' := 12) d20_11 rfl rfl ?_
  refine oGo.if_ne (pc1 := 15) (pc2 := 22) d20_12 rfl (by decide) (fun q1 => ?_) (fun q1 => ?_)
  · have hne : ¬ (i = 0 ∧ j = cs.length) := fun q' => q1 (by rw [q'.1]; rfl)
    refine oGo.iload_n (pc' := 23) d20_22 rfl rfl ?_
    refine oGo.iload_n (pc' := 24) d20_23 rfl rfl ?_
    refine oGo.isub (pc' := 25) d20_24 rfl ?_
    rw [own_subN (i := i) (j := j) (by omega) (by omega)]
    refine oGo.istore (pc' := 27) (Ls' := #[.val (.ref x), .val (.int (Int32.ofNat i)), .val (.int (Int32.ofNat j)), .val (.int (Int32.ofNat cs.length)), .val (.int (Int32.ofNat (j - i)))]) d20_25 rfl rfl ?_
    refine oGo.aload_n (pc' := 28) d20_27 rfl rfl rfl ?_
    refine oGo.invokevirtual (pc' := 31) (k' := 0) (n' := 0) (a := x) (argsL := []) (rest := []) d20_28 rfl (w68 hG) (w69 hG) (w71 hG) (w71 hG) rfl (w70 hG) (w11 hG) (w72 hG) (by decide) pd9 rfl rfl rfl Sx.1 (c_isLatin1 hG x 0 h Sx.2.2.1) (by simp) (by decide) (Nat.le_of_ble_eq_true rfl) rfl rfl (by decide) (by decide) ?_
    intro v7 h8 sh8 q9
    obtain ⟨rfl, ee⟩ := q9
    obtain rfl := ee.symm
    refine ⟨_, fun _ hx => Or.inl hx, ?_⟩
    show oGo l Z a0 EL True pP eE sS mM _ bB tT cC _ _ _ _ _ _ _ _ [] h 0 0 31 #[.val (.ref x), .val (.int (Int32.ofNat i)), .val (.int (Int32.ofNat j)), .val (.int (Int32.ofNat cs.length)), .val (.int (Int32.ofNat (j - i)))] [.int (1 : Int32)]
    refine oGo.if_eq (pc1 := 34) (pc2 := 47) d20_31 rfl (by decide) (fun q => by first | exact absurd q (by decide) | exact absurd (by decide) q) (fun q10 => ?_)
    refine oGo.aload_n (pc' := 35) d20_34 rfl rfl rfl ?_
    refine oGo.getfield (pc' := 38) d20_35 rfl (w36 hG) Via.refl Sx.2.1 ?_
    refine oGo.iload_n (pc' := 39) d20_38 rfl rfl ?_
    refine oGo.iload (pc' := 41) d20_39 rfl rfl ?_
    refine oGo.invokestatic (pc' := 44) (k' := 2) (n' := 14) (argsL := [.ref t, .int (Int32.ofNat i), .int (Int32.ofNat (j - i))]) (rest := []) d20_41 rfl (w100 hG) (w101 hG) (w75 hG) (w102 hG) (by decide) pd15 rfl rfl rfl (c_newStr hG t cs i j hij hj hN hne Sx.2.2.2.2 h Sx.2.2.2.1) (by simp) (by decide) (Nat.le_of_ble_eq_true rfl) rfl rfl (by decide) (by decide) ?_
    intro v11 h12 sh12 q13
    obtain ⟨K2, y, u, rfl, S2⟩ := q13
    refine ⟨_, fun _ hx => Or.inl hx, ?_⟩
    show oGo l Z a0 EL True pP eE sS mM _ bB tT cC _ _ _ _ _ _ _ _ [] h12 2 14 44 #[.val (.ref x), .val (.int (Int32.ofNat i)), .val (.int (Int32.ofNat j)), .val (.int (Int32.ofNat cs.length)), .val (.int (Int32.ofNat (j - i)))] [.ref y]
    refine oGo.goto (pc' := 57) d20_44 (by decide) ?_
    exact oGo.areturn d20_57 rfl rfl rfl rfl (by decide) (by decide) ⟨K2, y, u, rfl, S2⟩ (fun _ q => q.elim)
  · have hi0 : i = 0 := (own_eq (b := 0) (by omega) (by omega)).mp q1
    refine oGo.iload_n (pc' := 16) d20_15 rfl rfl ?_
    refine oGo.iload_n (pc' := 17) d20_16 rfl rfl ?_
    refine oGo.icmp_ne (pc1 := 20) (pc2 := 22) d20_17 rfl (by decide) (fun q2 => ?_) (fun q2 => ?_)
    · have hne : ¬ (i = 0 ∧ j = cs.length) := fun q' => q2 (by rw [q'.2])
      refine oGo.iload_n (pc' := 23) d20_22 rfl rfl ?_
      refine oGo.iload_n (pc' := 24) d20_23 rfl rfl ?_
      refine oGo.isub (pc' := 25) d20_24 rfl ?_
      rw [own_subN (i := i) (j := j) (by omega) (by omega)]
      refine oGo.istore (pc' := 27) (Ls' := #[.val (.ref x), .val (.int (Int32.ofNat i)), .val (.int (Int32.ofNat j)), .val (.int (Int32.ofNat cs.length)), .val (.int (Int32.ofNat (j - i)))]) d20_25 rfl rfl ?_
      refine oGo.aload_n (pc' := 28) d20_27 rfl rfl rfl ?_
      refine oGo.invokevirtual (pc' := 31) (k' := 0) (n' := 0) (a := x) (argsL := []) (rest := []) d20_28 rfl (w68 hG) (w69 hG) (w71 hG) (w71 hG) rfl (w70 hG) (w11 hG) (w72 hG) (by decide) pd9 rfl rfl rfl Sx.1 (c_isLatin1 hG x 0 h Sx.2.2.1) (by simp) (by decide) (Nat.le_of_ble_eq_true rfl) rfl rfl (by decide) (by decide) ?_
      intro v14 h15 sh15 q16
      obtain ⟨rfl, ee⟩ := q16
      obtain rfl := ee.symm
      refine ⟨_, fun _ hx => Or.inl hx, ?_⟩
      show oGo l Z a0 EL True pP eE sS mM _ bB tT cC _ _ _ _ _ _ _ _ [] h 0 0 31 #[.val (.ref x), .val (.int (Int32.ofNat i)), .val (.int (Int32.ofNat j)), .val (.int (Int32.ofNat cs.length)), .val (.int (Int32.ofNat (j - i)))] [.int (1 : Int32)]
      refine oGo.if_eq (pc1 := 34) (pc2 := 47) d20_31 rfl (by decide) (fun q => by first | exact absurd q (by decide) | exact absurd (by decide) q) (fun q17 => ?_)
      refine oGo.aload_n (pc' := 35) d20_34 rfl rfl rfl ?_
      refine oGo.getfield (pc' := 38) d20_35 rfl (w36 hG) Via.refl Sx.2.1 ?_
      refine oGo.iload_n (pc' := 39) d20_38 rfl rfl ?_
      refine oGo.iload (pc' := 41) d20_39 rfl rfl ?_
      refine oGo.invokestatic (pc' := 44) (k' := 2) (n' := 14) (argsL := [.ref t, .int (Int32.ofNat i), .int (Int32.ofNat (j - i))]) (rest := []) d20_41 rfl (w100 hG) (w101 hG) (w75 hG) (w102 hG) (by decide) pd15 rfl rfl rfl (c_newStr hG t cs i j hij hj hN hne Sx.2.2.2.2 h Sx.2.2.2.1) (by simp) (by decide) (Nat.le_of_ble_eq_true rfl) rfl rfl (by decide) (by decide) ?_
      intro v18 h19 sh19 q20
      obtain ⟨K2, y, u, rfl, S2⟩ := q20
      refine ⟨_, fun _ hx => Or.inl hx, ?_⟩
      show oGo l Z a0 EL True pP eE sS mM _ bB tT cC _ _ _ _ _ _ _ _ [] h19 2 14 44 #[.val (.ref x), .val (.int (Int32.ofNat i)), .val (.int (Int32.ofNat j)), .val (.int (Int32.ofNat cs.length)), .val (.int (Int32.ofNat (j - i)))] [.ref y]
      refine oGo.goto (pc' := 57) d20_44 (by decide) ?_
      exact oGo.areturn d20_57 rfl rfl rfl rfl (by decide) (by decide) ⟨K2, y, u, rfl, S2⟩ (fun _ q => q.elim)
    · have hjl : j = cs.length := (own_eq (by omega) (by omega)).mp q2
      refine oGo.aload_n (pc' := 21) d20_20 rfl rfl rfl ?_
      exact oGo.areturn d20_21 rfl rfl rfl rfl (by decide) (by decide) ⟨Keep.refl _ _, x, t, rfl, by rw [hi0, hjl, List.drop_zero, Nat.sub_zero, List.take_length]; exact Sx⟩ (fun _ q => q.elim)
abbrev q_sbInit (Z : State) (h : Heap) (sb : Nat) (cap : Nat) : Option Value → Heap → Prop := fun v h' => v = none ∧ Keep h h' [sb] ∧ ∃ b : Nat, h.size ≤ b ∧ oSB Z h' sb b [] cap
set_option maxRecDepth 65536 in
set_option maxHeartbeats 4000000 in
theorem c_asbInit {l : Launch} {Z : State} {a0 : Array Value} {EL : List (String × Nat)} (hG : oG a0 Z EL) (sb : Nat) (q : Nat) (hq : q ≤ 10) (u : Value) (h : Heap) (E : Exa Z h sb "java/lang/StringBuilder") (F1 : Fld Z h sb "java/lang/AbstractStringBuilder" "value" "[B" u) (F2 : Fld Z h sb "java/lang/AbstractStringBuilder" "coder" "B" (.int 0)) (F3 : Fld Z h sb "java/lang/AbstractStringBuilder" "count" "I" (.int 0)) :
    oCtr [] l Z a0 EL True (⟨"java/lang/AbstractStringBuilder", "<init>", "(I)V"⟩ : MethodName) jdk_68_method_2_code 2 none ({ frames := 1, cells := 1, slots := 10, locals := 12 } : Room) #[.ref sb, .int (Int32.ofNat q)] [sb] h ((q_sbInit Z h sb q)) (oBuf Z sb) := by
  obtain ⟨z, hzs, hz⟩ := sCOMPACT hG
  have hsl := own_ltN E.lt
  refine oCtr.enter (Ls := #[.val (.ref sb), .val (.int (Int32.ofNat q))]) (plainFor_of_name pn5) hG.2.1 (fun m => by first | (simp [entryFrame, mkF, argsToLocals, Value.category]; done) | rfl) ?_
  intro pP eE sS mM bB tT cC
  refine oGo.aload_n (pc' := 1) d47_0 rfl rfl rfl ?_
  refine oGo.objinit (pc' := 4) d47_1 rfl (w213 hG) (w20 hG) (w21 hG) rfl (by decide) (Nat.le_of_ble_eq_true rfl) ?_
  refine oGo.getstatic (pc' := 7) d47_4 rfl (w214 hG) Via.refl hzs ?_
  refine oGo.if_eq (pc1 := 10) (pc2 := 25) d47_7 rfl (by decide) (fun q => absurd q hz) (fun q1 => ?_)
  refine oGo.aload_n (pc' := 11) d47_10 rfl rfl rfl ?_
  refine oGo.iload_n (pc' := 12) d47_11 rfl rfl ?_
  refine oGo.newarray (pc' := 14) (k' := 1) (n' := 10) (i := q) d47_12 rfl (w27 hG) rfl 10 (hq) (by decide) rfl rfl (by decide) (by decide) (by decide) ?_
  intro h2 a3 qa3 la3 E4 A5'
  have A5 : oArr Z h2 a3 .byte (List.replicate (q) (.int 0)) := A5'
  have f6 := Fld.ext E4 F1
  have f7 := Exa.ext E4 E
  refine oGo.putfield (pc' := 17) (ty := (.array .byte)) d47_14 rfl (w215 hG) Via.refl f6 f7 (Or.inl (w216 hG)) (w202 hG) (by decide) rfl rfl (by simp) ?_
  intro h8 W9 sh8
  have f10 := Fld.same W9 f6
  refine oGo.aload_n (pc' := 18) d47_17 rfl rfl rfl ?_
  refine oGo.iconst (pc' := 19) (v := 0) d47_18 rfl (by decide) ?_
  have f11 := Fld.ext E4 F2
  have f12 := Fld.other W9 f11 (Or.inr (slot_ne (C := "java/lang/StringBuilder") (Or.inl (w218 hG)) (Or.inl (w216 hG)) (by decide) (t := .byte) (t' := (.array .byte)) (by decide) (by decide)))
  have f13 := Exa.wr W9 f7
  refine oGo.putfield (pc' := 22) (ty := .byte) d47_19 rfl (w217 hG) Via.refl f12 f13 (Or.inl (w218 hG)) (w202 hG) (by decide) (by decide) (by decide) (by simp) ?_
  intro h14 W15 sh14
  have f16 := Fld.same W15 f12
  refine oGo.goto (pc' := 38) d47_22 (by decide) ?_
  have f17 := Exa.wr W15 f13
  have f18 := Fld.other W15 f10 (Or.inr (slot_ne (C := "java/lang/StringBuilder") (Or.inl (w216 hG)) (Or.inl (w218 hG)) (by decide) (t := (.array .byte)) (t' := .byte) (by decide) (by decide)))
  have f19 := Fld.ext E4 F3
  have f20 := Fld.other W9 f19 (Or.inr (slot_ne (C := "java/lang/StringBuilder") (Or.inl (w230 hG)) (Or.inl (w216 hG)) (by decide) (t := .int) (t' := (.array .byte)) (by decide) (by decide)))
  have f21 := Fld.other W15 f20 (Or.inr (slot_ne (C := "java/lang/StringBuilder") (Or.inl (w230 hG)) (Or.inl (w218 hG)) (by decide) (t := .int) (t' := .byte) (by decide) (by decide)))
  have f22 := oArr.other W9 A5 (own_ne (by omega))
  have f23 := oArr.other W15 f22 (own_ne (by omega))
  exact oGo.return_ d47_38 rfl (by decide) (by decide) ⟨rfl, ((((Keep.refl h [sb]).ext E4).wr W9 (Or.inl (by simp))).wr W15 (Or.inl (by simp))), a3, by omega, f17, f18, f16, f21, _, f23, by simp, by simp, by simp⟩ (fun x q => by cases oFld_det f18 q; simp)
set_option maxRecDepth 65536 in
set_option maxHeartbeats 4000000 in
theorem c_sbInitI {l : Launch} {Z : State} {a0 : Array Value} {EL : List (String × Nat)} (hG : oG a0 Z EL) (sb q : Nat) (hq : q ≤ 10) (u : Value) (h : Heap) (E : Exa Z h sb "java/lang/StringBuilder") (F1 : Fld Z h sb "java/lang/AbstractStringBuilder" "value" "[B" u) (F2 : Fld Z h sb "java/lang/AbstractStringBuilder" "coder" "B" (.int 0)) (F3 : Fld Z h sb "java/lang/AbstractStringBuilder" "count" "I" (.int 0)) :
    oCtr [] l Z a0 EL True (⟨"java/lang/StringBuilder", "<init>", "(I)V"⟩ : MethodName) jdk_67_method_2_code 2 none ({ frames := 2, cells := 1, slots := 10, locals := 25 } : Room) #[.ref sb, .int (Int32.ofNat q)] [sb] h ((q_sbInit Z h sb q)) (oBuf Z sb) := by
  refine oCtr.enter (Ls := #[.val (.ref sb), .val (.int (Int32.ofNat q))]) (plainFor_of_name pn6) hG.2.1 (fun m => by first | (simp [entryFrame, mkF, argsToLocals, Value.category]; done) | rfl) ?_
  intro pP eE sS mM bB tT cC
  refine oGo.aload_n (pc' := 1) d46_0 rfl rfl rfl ?_
  refine oGo.iload_n (pc' := 2) d46_1 rfl rfl ?_
  refine oGo.invokespecial (pc' := 5) (k' := 1) (n' := 10) (a := sb) (argsL := [.int (Int32.ofNat q)]) (rest := []) d46_2 rfl rfl (w207 hG) (w208 hG) (w211 hG) (w212 hG) (by decide) pd16 rfl rfl rfl (c_asbInit hG sb q hq u h E F1 F2 F3) (by simp) (by decide) (Nat.le_of_ble_eq_true rfl) rfl rfl (by decide) (by decide) ?_
  intro v1 h2 sh2 q3
  obtain ⟨rfl, K2, b, hb, S2⟩ := q3
  refine ⟨[b, sb], own_D1 (S2.2.1), ?_⟩
  show oGo l Z a0 EL True pP eE sS mM _ bB tT cC _ _ _ _ _ _ _ _ [b, sb] h2 1 10 5 #[.val (.ref sb), .val (.int (Int32.ofNat q))] []
  exact oGo.return_ d46_5 rfl (by decide) (by decide) ⟨rfl, K2, b, hb, S2⟩ (fun x q => by cases oFld_det S2.2.1 q; simp)
set_option maxRecDepth 65536 in
set_option maxHeartbeats 4000000 in
theorem c_ensureN {l : Launch} {Z : State} {a0 : Array Value} {EL : List (String × Nat)} (hG : oG a0 Z EL) (sb b : Nat) (cs : List Int32) (cap q : Nat) (hq : q ≤ cap) (hc : cap < 10000) (h : Heap) (SB : oSB Z h sb b cs cap) :
    oCtr [] l Z a0 EL True (⟨"java/lang/AbstractStringBuilder", "ensureCapacityInternal", "(I)V"⟩ : MethodName) jdk_68_method_9_code 3 none ({ frames := 0, cells := 0, slots := 0, locals := 0 } : Room) #[.ref sb, .int (Int32.ofNat q)] [] h (fun v h' => v = none ∧ h' = h) oNo := by
  refine oCtr.enter (Ls := #[.val (.ref sb), .val (.int (Int32.ofNat q)), .unset]) (plainFor_of_name pn5) hG.2.1 (fun m => by first | (simp [entryFrame, mkF, argsToLocals, Value.category]; done) | rfl) ?_
  intro pP eE sS mM bB tT cC
  obtain ⟨E, F1, F2, F3, vs, B, hcap, hvs, hle⟩ := SB
  have hsl := own_ltN E.lt
  have hbl := own_ltN B.lt
  refine oGo.aload_n (pc' := 1) d50_0 rfl rfl rfl ?_
  refine oGo.getfield (pc' := 4) d50_1 rfl (w215 hG) Via.refl F1 ?_
  refine oGo.arraylength (pc' := 5) (z := (Int32.ofNat cap)) d50_4 rfl B (by rw [hcap]) ?_
  refine oGo.aload_n (pc' := 6) d50_5 rfl rfl rfl ?_
  refine oGo.getfield (pc' := 9) d50_6 rfl (w217 hG) Via.refl F2 ?_
  refine oGo.ishr (pc' := 10) d50_9 rfl ?_
  rw [shr0]
  refine oGo.istore_n (pc' := 11) (Ls' := #[.val (.ref sb), .val (.int (Int32.ofNat q)), .val (.int (Int32.ofNat cap))]) d50_10 rfl rfl ?_
  refine oGo.iload_n (pc' := 12) d50_11 rfl rfl ?_
  refine oGo.iload_n (pc' := 13) d50_12 rfl rfl ?_
  refine oGo.isub (pc' := 14) d50_13 rfl ?_
  have hsu := own_subI (i := cap) (j := q) (by omega) (by omega)
  refine oGo.if_le (pc1 := 17) (pc2 := 38) d50_14 rfl (by decide) (fun q1 => ?_) (fun q => by exfalso; rw [Int32.lt_iff_toInt_lt] at q; have e0 : (0 : Int32).toInt = 0 := rfl; omega)
  exact oGo.return_ d50_38 rfl (by decide) (by decide) ⟨rfl, rfl⟩ (fun _ q => q.elim)
set_option maxRecDepth 65536 in
set_option maxHeartbeats 4000000 in
theorem c_getValue {l : Launch} {Z : State} {a0 : Array Value} {EL : List (String × Nat)} (hG : oG a0 Z EL) (sb b : Nat) (h : Heap) (F1 : Fld Z h sb "java/lang/AbstractStringBuilder" "value" "[B" (.ref b)) :
    oCtr [] l Z a0 EL True (⟨"java/lang/AbstractStringBuilder", "getValue", "()[B"⟩ : MethodName) jdk_68_method_64_code 1 (some (.array .byte)) ({ frames := 0, cells := 0, slots := 0, locals := 0 } : Room) #[.ref sb] [] h (fun v h' => v = some (.ref b) ∧ h' = h) oNo := by
  refine oCtr.enter (Ls := #[.val (.ref sb)]) (plainFor_of_name pn5) hG.2.1 (fun m => by first | (simp [entryFrame, mkF, argsToLocals, Value.category]; done) | rfl) ?_
  intro pP eE sS mM bB tT cC
  refine oGo.aload_n (pc' := 1) d56_0 rfl rfl rfl ?_
  refine oGo.getfield (pc' := 4) d56_1 rfl (w215 hG) Via.refl F1 ?_
  exact oGo.areturn d56_4 rfl rfl rfl rfl (by decide) (by decide) ⟨rfl, rfl⟩ (fun _ q => q.elim)
set_option maxRecDepth 65536 in
set_option maxHeartbeats 4000000 in
theorem c_asbLen {l : Launch} {Z : State} {a0 : Array Value} {EL : List (String × Nat)} (hG : oG a0 Z EL) (sb : Nat) (z : Int32) (h : Heap) (F3 : Fld Z h sb "java/lang/AbstractStringBuilder" "count" "I" (.int z)) :
    oCtr [] l Z a0 EL True (⟨"java/lang/AbstractStringBuilder", "length", "()I"⟩ : MethodName) jdk_68_method_6_code 1 (some .int) ({ frames := 0, cells := 0, slots := 0, locals := 0 } : Room) #[.ref sb] [] h (fun v h' => v = some (.int z) ∧ h' = h) oNo := by
  refine oCtr.enter (Ls := #[.val (.ref sb)]) (plainFor_of_name pn5) hG.2.1 (fun m => by first | (simp [entryFrame, mkF, argsToLocals, Value.category]; done) | rfl) ?_
  intro pP eE sS mM bB tT cC
  refine oGo.aload_n (pc' := 1) d58_0 rfl rfl rfl ?_
  refine oGo.getfield (pc' := 4) d58_1 rfl (w229 hG) Via.refl F3 ?_
  exact oGo.ireturn d58_4 rfl (by decide) (by decide) ⟨rfl, rfl⟩ (fun _ q => q.elim)
set_option maxRecDepth 65536 in
set_option maxHeartbeats 4000000 in
theorem c_sbLen {l : Launch} {Z : State} {a0 : Array Value} {EL : List (String × Nat)} (hG : oG a0 Z EL) (sb : Nat) (z : Int32) (h : Heap) (E : Exa Z h sb "java/lang/StringBuilder") (F3 : Fld Z h sb "java/lang/AbstractStringBuilder" "count" "I" (.int z)) :
    oCtr [] l Z a0 EL True (⟨"java/lang/StringBuilder", "length", "()I"⟩ : MethodName) jdk_67_method_93_code 1 (some .int) ({ frames := 1, cells := 0, slots := 0, locals := 12 } : Room) #[.ref sb] [] h (fun v h' => v = some (.int z) ∧ h' = h) oNo := by
  refine oCtr.enter (Ls := #[.val (.ref sb)]) (plainFor_of_name pn6) hG.2.1 (fun m => by first | (simp [entryFrame, mkF, argsToLocals, Value.category]; done) | rfl) ?_
  intro pP eE sS mM bB tT cC
  refine oGo.aload_n (pc' := 1) d57_0 rfl rfl rfl ?_
  refine oGo.invokesuper (pc' := 4) (k' := 0) (n' := 0) (a := sb) (argsL := []) (rest := []) d57_1 rfl (by decide) (w267 hG) (w226 hG) (w263 hG) (w234 hG) rfl (w211 hG) (w268 hG) (by decide) pd13 rfl rfl rfl E (c_asbLen hG sb z h F3) (by simp) (by decide) (Nat.le_of_ble_eq_true rfl) rfl rfl (by decide) (by decide) ?_
  intro v1 h2 sh2 q3
  obtain ⟨rfl, ee⟩ := q3
  obtain rfl := ee.symm
  refine ⟨_, fun _ hx => Or.inl hx, ?_⟩
  show oGo l Z a0 EL True pP eE sS mM _ bB tT cC _ _ _ _ _ _ _ _ [] h 0 0 4 #[.val (.ref sb)] [.int z]
  exact oGo.ireturn d57_4 rfl (by decide) (by decide) ⟨rfl, rfl⟩ (fun _ q => q.elim)
set_option maxRecDepth 65536 in
set_option maxHeartbeats 4000000 in
theorem c_asbLat {l : Launch} {Z : State} {a0 : Array Value} {EL : List (String × Nat)} (hG : oG a0 Z EL) (sb : Nat) (h : Heap) (F2 : Fld Z h sb "java/lang/AbstractStringBuilder" "coder" "B" (.int 0)) :
    oCtr [] l Z a0 EL True (⟨"java/lang/AbstractStringBuilder", "isLatin1", "()Z"⟩ : MethodName) jdk_68_method_68_code 1 (some .boolean) ({ frames := 0, cells := 0, slots := 0, locals := 0 } : Room) #[.ref sb] [] h (fun v h' => v = some (.int 1) ∧ h' = h) oNo := by
  obtain ⟨z, hzs, hz⟩ := sCOMPACT hG
  refine oCtr.enter (Ls := #[.val (.ref sb)]) (plainFor_of_name pn5) hG.2.1 (fun m => by first | (simp [entryFrame, mkF, argsToLocals, Value.category]; done) | rfl) ?_
  intro pP eE sS mM bB tT cC
  refine oGo.getstatic (pc' := 3) d51_0 rfl (w214 hG) Via.refl hzs ?_
  refine oGo.if_eq (pc1 := 6) (pc2 := 17) d51_3 rfl (by decide) (fun q => absurd q hz) (fun q1 => ?_)
  refine oGo.aload_n (pc' := 7) d51_6 rfl rfl rfl ?_
  refine oGo.getfield (pc' := 10) d51_7 rfl (w217 hG) Via.refl F2 ?_
  refine oGo.if_ne (pc1 := 13) (pc2 := 17) d51_10 rfl (by decide) (fun q => absurd rfl q) (fun q2 => ?_)
  refine oGo.iconst (pc' := 14) (v := 1) d51_13 rfl (by decide) ?_
  refine oGo.goto (pc' := 18) d51_14 (by decide) ?_
  exact oGo.nreturn d51_18 rfl (by simp) rfl (by decide) (by decide) ⟨rfl, rfl⟩ (fun _ q => q.elim)
set_option maxRecDepth 65536 in
set_option maxHeartbeats 4000000 in
theorem c_canC {l : Launch} {Z : State} {a0 : Array Value} {EL : List (String × Nat)} (hG : oG a0 Z EL) (c : Int32) (hc : ¬ c < 0 ∧ ¬ 255 < c) (h : Heap)  :
    oCtr [] l Z a0 EL True (⟨"java/lang/StringLatin1", "canEncode", "(C)Z"⟩ : MethodName) jdk_43_method_3_code 1 (some .boolean) ({ frames := 0, cells := 0, slots := 0, locals := 0 } : Room) #[.int c] [] h (fun v h' => v = some (.int 1) ∧ h' = h) oNo := by
  refine oCtr.enter (Ls := #[.val (.int c)]) (plainFor_of_name pn4) hG.2.1 (fun m => by first | (simp [entryFrame, mkF, argsToLocals, Value.category]; done) | rfl) ?_
  intro pP eE sS mM bB tT cC
  refine oGo.iload_n (pc' := 1) d52_0 rfl rfl ?_
  refine oGo.sipush (pc' := 4) (v := 255) d52_1 rfl (by decide) ?_
  refine oGo.icmp_gt (pc1 := 7) (pc2 := 11) d52_4 rfl (by decide) (fun q => absurd q hc.2) (fun q1 => ?_)
  refine oGo.iconst (pc' := 8) (v := 1) d52_7 rfl (by decide) ?_
  refine oGo.goto (pc' := 12) d52_8 (by decide) ?_
  exact oGo.nreturn d52_12 rfl (by simp) rfl (by decide) (by decide) ⟨rfl, rfl⟩ (fun _ q => q.elim)
abbrev q_append (Z : State) (h : Heap) (sb b : Nat) (cs ds : List Int32) (cap : Nat) : Option Value → Heap → Prop := fun v h' => v = some (.ref sb) ∧ Keep h h' [sb, b] ∧ oSB Z h' sb b (cs ++ ds) cap
set_option maxRecDepth 65536 in
set_option maxHeartbeats 4000000 in
theorem c_asbAppC {l : Launch} {Z : State} {a0 : Array Value} {EL : List (String × Nat)} (hG : oG a0 Z EL) (sb b : Nat) (cs : List Int32) (cap : Nat) (c : Int32) (hM : cs.length + 1 ≤ cap) (hc : cap < 5000) (hcc : ¬ c < 0 ∧ ¬ 255 < c) (h : Heap) (SB : oSB Z h sb b cs cap) :
    oCtr [] l Z a0 EL True (⟨"java/lang/AbstractStringBuilder", "append", "(C)Ljava/lang/AbstractStringBuilder;"⟩ : MethodName) jdk_68_method_31_code 2 (some (.object "java/lang/AbstractStringBuilder")) ({ frames := 1, cells := 0, slots := 0, locals := 14 } : Room) #[.ref sb, .int c] [sb, b] h ((q_append Z h sb b cs [c] cap)) oNo := by
  refine oCtr.enter (Ls := #[.val (.ref sb), .val (.int c)]) (plainFor_of_name pn5) hG.2.1 (fun m => by first | (simp [entryFrame, mkF, argsToLocals, Value.category]; done) | rfl) ?_
  intro pP eE sS mM bB tT cC
  have SB0 := SB
  obtain ⟨E, F1, F2, F3, vs, B, hcap, hvs, hle⟩ := SB
  have hsl := own_ltN E.lt
  have hbl := own_ltN B.lt
  have hsb2 : sb ≠ b := oSB_ne hG SB0
  refine oGo.aload_n (pc' := 1) d49_0 rfl rfl rfl ?_
  refine oGo.aload_n (pc' := 2) d49_1 rfl rfl rfl ?_
  refine oGo.getfield (pc' := 5) d49_2 rfl (w229 hG) Via.refl F3 ?_
  refine oGo.iconst (pc' := 6) (v := 1) d49_5 rfl (by decide) ?_
  refine oGo.iadd (pc' := 7) d49_6 rfl ?_
  rw [own_succ]
  refine oGo.invokeprivate (pc' := 10) (k' := 0) (n' := 0) (a := sb) (argsL := [.int (Int32.ofNat (cs.length + 1))]) (rest := []) d49_7 rfl (w231 hG) (w233 hG) (w234 hG) (w232 hG) (w211 hG) (w235 hG) (by decide) pd16 rfl rfl rfl E (c_ensureN hG sb b cs cap (cs.length + 1) hM (by omega) h SB0) (by simp) (by decide) (Nat.le_of_ble_eq_true rfl) rfl rfl (by decide) (by decide) ?_
  intro v1 h2 sh2 q3
  obtain ⟨rfl, ee⟩ := q3
  obtain rfl := ee.symm
  refine ⟨_, fun _ hx => Or.inl hx, ?_⟩
  show oGo l Z a0 EL True pP eE sS mM _ bB tT cC _ _ _ _ _ _ _ _ [sb, b] h 0 0 10 #[.val (.ref sb), .val (.int c)] []
  refine oGo.aload_n (pc' := 11) d49_10 rfl rfl rfl ?_
  refine oGo.invokevirtual (pc' := 14) (k' := 0) (n' := 0) (a := sb) (argsL := []) (rest := []) d49_11 rfl (w236 hG) (w237 hG) (w239 hG) (w239 hG) rfl (w238 hG) (w211 hG) (w240 hG) (by decide) pd9 rfl rfl rfl E (c_asbLat hG sb h F2) (by simp) (by decide) (Nat.le_of_ble_eq_true rfl) rfl rfl (by decide) (by decide) ?_
  intro v4 h5 sh5 q6
  obtain ⟨rfl, ee⟩ := q6
  obtain rfl := ee.symm
  refine ⟨_, fun _ hx => Or.inl hx, ?_⟩
  show oGo l Z a0 EL True pP eE sS mM _ bB tT cC _ _ _ _ _ _ _ _ [sb, b] h 0 0 14 #[.val (.ref sb), .val (.int c)] [.int (1 : Int32)]
  refine oGo.if_eq (pc1 := 17) (pc2 := 45) d49_14 rfl (by decide) (fun q => by first | exact absurd q (by decide) | exact absurd (by decide) q) (fun q7 => ?_)
  refine oGo.iload_n (pc' := 18) d49_17 rfl rfl ?_
  refine oGo.invokestatic (pc' := 21) (k' := 0) (n' := 0) (argsL := [.int c]) (rest := []) d49_18 rfl (w241 hG) (w242 hG) (w75 hG) (w243 hG) (by decide) pd17 rfl rfl rfl (c_canC hG c hcc h) (by simp) (by decide) (Nat.le_of_ble_eq_true rfl) rfl rfl (by decide) (by decide) ?_
  intro v8 h9 sh9 q10
  obtain ⟨rfl, ee⟩ := q10
  obtain rfl := ee.symm
  refine ⟨_, fun _ hx => Or.inl hx, ?_⟩
  show oGo l Z a0 EL True pP eE sS mM _ bB tT cC _ _ _ _ _ _ _ _ [sb, b] h 0 0 21 #[.val (.ref sb), .val (.int c)] [.int (1 : Int32)]
  refine oGo.if_eq (pc1 := 24) (pc2 := 45) d49_21 rfl (by decide) (fun q => by first | exact absurd q (by decide) | exact absurd (by decide) q) (fun q11 => ?_)
  refine oGo.aload_n (pc' := 25) d49_24 rfl rfl rfl ?_
  refine oGo.getfield (pc' := 28) d49_25 rfl (w215 hG) Via.refl F1 ?_
  refine oGo.aload_n (pc' := 29) d49_28 rfl rfl rfl ?_
  refine oGo.dup (pc' := 30) d49_29 rfl rfl ?_
  refine oGo.getfield (pc' := 33) d49_30 rfl (w229 hG) Via.refl F3 ?_
  refine oGo.dup_x1 (pc' := 34) d49_33 rfl rfl rfl ?_
  refine oGo.iconst (pc' := 35) (v := 1) d49_34 rfl (by decide) ?_
  refine oGo.iadd (pc' := 36) d49_35 rfl ?_
  rw [own_succ]
  refine oGo.putfield (pc' := 39) (ty := .int) d49_36 rfl (w229 hG) Via.refl F3 E (Or.inl (w230 hG)) (w202 hG) (by decide) rfl rfl (by simp) ?_
  intro h12 W13 sh12
  have f14 := Fld.same W13 F3
  refine oGo.iload_n (pc' := 40) d49_39 rfl rfl ?_
  refine oGo.i2b (pc' := 41) d49_40 rfl ?_
  have f18 := oArr.other W13 B (Ne.symm hsb2)
  refine oGo.bastore (pc' := 42) (i := cs.length) (w := lo8 c) d49_41 rfl f18 rfl (by omega) (lo8_idem c) (by simp) ?_
  intro h15 W16 sh15 A17
  refine oGo.goto (pc' := 75) d49_42 (by decide) ?_
  refine oGo.aload_n (pc' := 76) d49_75 rfl rfl rfl ?_
  have f19 := Exa.wr W13 E
  have f20 := Exa.wr W16 f19
  have f21 := Fld.other W13 F1 (Or.inr (slot_ne (C := "java/lang/StringBuilder") (Or.inl (w216 hG)) (Or.inl (w230 hG)) (by decide) (t := (.array .byte)) (t' := .int) (by decide) (by decide)))
  have f22 := Fld.other W16 f21 (Or.inl hsb2)
  have f23 := Fld.other W13 F2 (Or.inr (slot_ne (C := "java/lang/StringBuilder") (Or.inl (w218 hG)) (Or.inl (w230 hG)) (by decide) (t := .byte) (t' := .int) (by decide) (by decide)))
  have f24 := Fld.other W16 f23 (Or.inl hsb2)
  have f25 := Fld.other W16 f14 (Or.inl hsb2)
  exact oGo.areturn d49_76 rfl rfl rfl rfl (by decide) (by decide) ⟨rfl, ((Keep.refl h [sb, b]).wr W13 (Or.inl (by simp))).wr W16 (Or.inl (by simp)), f20, f22, f24, by rw [List.length_append]; exact f25, _, A17, by rw [List.length_set]; exact hcap, by rw [List.length_append, show [c].length = 1 from rfl, own_take_set _ _ _ (by omega), hvs]; simp, by rw [List.length_append]; exact hM⟩ (fun _ q => q.elim)
set_option maxRecDepth 65536 in
set_option maxHeartbeats 4000000 in
theorem c_appC {l : Launch} {Z : State} {a0 : Array Value} {EL : List (String × Nat)} (hG : oG a0 Z EL) (sb b : Nat) (cs : List Int32) (cap : Nat) (c : Int32) (hM : cs.length + 1 ≤ cap) (hc : cap < 5000) (hcc : ¬ c < 0 ∧ ¬ 255 < c) (h : Heap) (SB : oSB Z h sb b cs cap) :
    oCtr [] l Z a0 EL True (⟨"java/lang/StringBuilder", "append", "(C)Ljava/lang/StringBuilder;"⟩ : MethodName) jdk_67_method_14_code 2 (some (.object "java/lang/StringBuilder")) ({ frames := 2, cells := 0, slots := 0, locals := 27 } : Room) #[.ref sb, .int c] [sb, b] h ((q_append Z h sb b cs [c] cap)) oNo := by
  refine oCtr.enter (Ls := #[.val (.ref sb), .val (.int c)]) (plainFor_of_name pn6) hG.2.1 (fun m => by first | (simp [entryFrame, mkF, argsToLocals, Value.category]; done) | rfl) ?_
  intro pP eE sS mM bB tT cC
  refine oGo.aload_n (pc' := 1) d48_0 rfl rfl rfl ?_
  refine oGo.iload_n (pc' := 2) d48_1 rfl rfl ?_
  refine oGo.invokesuper (pc' := 5) (k' := 0) (n' := 0) (a := sb) (argsL := [.int c]) (rest := []) d48_2 rfl (by decide) (w224 hG) (w226 hG) (w225 hG) (w234 hG) rfl (w211 hG) (w228 hG) (by decide) pd18 rfl rfl rfl SB.1 (c_asbAppC hG sb b cs cap c hM hc hcc h SB) (by simp) (by decide) (Nat.le_of_ble_eq_true rfl) rfl rfl (by decide) (by decide) ?_
  intro v1 h2 sh2 q3
  obtain ⟨rfl, K2, S2⟩ := q3
  refine ⟨_, fun _ hx => Or.inl hx, ?_⟩
  show oGo l Z a0 EL True pP eE sS mM _ bB tT cC _ _ _ _ _ _ _ _ [sb, b] h2 0 0 5 #[.val (.ref sb), .val (.int c)] [.ref sb]
  refine oGo.pop (pc' := 6) d48_5 rfl rfl ?_
  refine oGo.aload_n (pc' := 7) d48_6 rfl rfl rfl ?_
  exact oGo.areturn d48_7 rfl rfl rfl rfl (by decide) (by decide) ⟨rfl, K2, S2⟩ (fun _ q => q.elim)
abbrev q_strSB (Z : State) (h : Heap) (x : Nat) (cs : List Int32) : Option Value → Heap → Prop := fun v h' => v = none ∧ Keep h h' [x] ∧ ∃ t : Nat, h.size ≤ t ∧ oS Z h' x t cs
set_option maxRecDepth 65536 in
set_option maxHeartbeats 4000000 in
theorem c_strASB {l : Launch} {Z : State} {a0 : Array Value} {EL : List (String × Nat)} (hG : oG a0 Z EL) (x sb b : Nat) (cs : List Int32) (cap : Nat) (hN : cs.length ≤ 10) (hne : cs.length < cap) (hcs : ∀ c ∈ cs, ¬ c < 0 ∧ ¬ 255 < c) (u w0 : Value) (hxs : x ≠ sb ∧ x ≠ b) (h : Heap) (SB : oSB Z h sb b cs cap) (EX : Exa Z h x "java/lang/String") (G1 : Fld Z h x "java/lang/String" "value" "[B" u) (G2 : Fld Z h x "java/lang/String" "coder" "B" w0) :
    oCtr [] l Z a0 EL True (⟨"java/lang/String", "<init>", "(Ljava/lang/AbstractStringBuilder;Ljava/lang/Void;)V"⟩ : MethodName) jdk_42_method_150_code 5 none ({ frames := 3, cells := 1, slots := 10, locals := 49 } : Room) #[.ref x, .ref sb, .null] [x] h ((q_strSB Z h x cs)) oNo := by
  have hxl := own_ltN EX.lt
  refine oCtr.enter (Ls := #[.val (.ref x), .val (.ref sb), .val .null, .unset, .unset]) (plainFor_of_name pn1) hG.2.1 (fun m => by first | (simp [entryFrame, mkF, argsToLocals, Value.category]; done) | rfl) ?_
  intro pP eE sS mM bB tT cC
  obtain ⟨E, F1, F2, F3, vs, B, hcap, hvs, hle⟩ := SB
  have hsl := own_ltN E.lt
  have hbl := own_ltN B.lt
  refine oGo.aload_n (pc' := 1) d55_0 rfl rfl rfl ?_
  refine oGo.objinit (pc' := 4) d55_1 rfl (w19 hG) (w20 hG) (w21 hG) rfl (by decide) (Nat.le_of_ble_eq_true rfl) ?_
  refine oGo.aload_n (pc' := 5) d55_4 rfl rfl rfl ?_
  refine oGo.invokevirtual (pc' := 8) (k' := 0) (n' := 0) (a := sb) (argsL := []) (rest := []) d55_5 rfl (w256 hG) (w257 hG) (w259 hG) (w259 hG) rfl (w258 hG) (w211 hG) (w260 hG) (by decide) pd19 rfl rfl rfl E (c_getValue hG sb b h F1) (by simp) (by decide) (Nat.le_of_ble_eq_true rfl) rfl rfl (by decide) (by decide) ?_
  intro v1 h2 sh2 q3
  obtain ⟨rfl, ee⟩ := q3
  obtain rfl := ee.symm
  refine ⟨_, fun _ hx => Or.inl hx, ?_⟩
  show oGo l Z a0 EL True pP eE sS mM _ bB tT cC _ _ _ _ _ _ _ _ [x] h 0 0 8 #[.val (.ref x), .val (.ref sb), .val .null, .unset, .unset] [.ref b]
  refine oGo.astore_n (pc' := 9) (Ls' := #[.val (.ref x), .val (.ref sb), .val .null, .val (.ref b), .unset]) d55_8 rfl rfl rfl ?_
  refine oGo.aload_n (pc' := 10) d55_9 rfl rfl rfl ?_
  refine oGo.invokevirtual (pc' := 13) (k' := 0) (n' := 0) (a := sb) (argsL := []) (rest := []) d55_10 rfl (w261 hG) (w262 hG) (w264 hG) (w234 hG) rfl (w265 hG) (w203 hG) (w266 hG) (by decide) pd13 rfl rfl rfl E (c_sbLen hG sb _ h E F3) (by simp) (by decide) (Nat.le_of_ble_eq_true rfl) rfl rfl (by decide) (by decide) ?_
  intro v4 h5 sh5 q6
  obtain ⟨rfl, ee⟩ := q6
  obtain rfl := ee.symm
  refine ⟨_, fun _ hx => Or.inl hx, ?_⟩
  show oGo l Z a0 EL True pP eE sS mM _ bB tT cC _ _ _ _ _ _ _ _ [x] h 0 0 13 #[.val (.ref x), .val (.ref sb), .val .null, .val (.ref b), .unset] [.int (Int32.ofNat cs.length)]
  refine oGo.istore (pc' := 15) (Ls' := #[.val (.ref x), .val (.ref sb), .val .null, .val (.ref b), .val (.int (Int32.ofNat cs.length))]) d55_13 rfl rfl ?_
  refine oGo.aload_n (pc' := 16) d55_15 rfl rfl rfl ?_
  refine oGo.invokevirtual (pc' := 19) (k' := 0) (n' := 0) (a := sb) (argsL := []) (rest := []) d55_16 rfl (w269 hG) (w237 hG) (w239 hG) (w239 hG) rfl (w238 hG) (w211 hG) (w240 hG) (by decide) pd9 rfl rfl rfl E (c_asbLat hG sb h F2) (by simp) (by decide) (Nat.le_of_ble_eq_true rfl) rfl rfl (by decide) (by decide) ?_
  intro v7 h8 sh8 q9
  obtain ⟨rfl, ee⟩ := q9
  obtain rfl := ee.symm
  refine ⟨_, fun _ hx => Or.inl hx, ?_⟩
  show oGo l Z a0 EL True pP eE sS mM _ bB tT cC _ _ _ _ _ _ _ _ [x] h 0 0 19 #[.val (.ref x), .val (.ref sb), .val .null, .val (.ref b), .val (.int (Int32.ofNat cs.length))] [.int (1 : Int32)]
  refine oGo.if_eq (pc1 := 22) (pc2 := 41) d55_19 rfl (by decide) (fun q => by first | exact absurd q (by decide) | exact absurd (by decide) q) (fun q10 => ?_)
  refine oGo.aload_n (pc' := 23) d55_22 rfl rfl rfl ?_
  refine oGo.iconst (pc' := 24) (v := 0) d55_23 rfl (by decide) ?_
  refine oGo.putfield (pc' := 27) (ty := .byte) d55_24 rfl (w34 hG) Via.refl G2 EX (Or.inr ⟨(w35 hG), rfl, rfl⟩) (w10 hG) (by decide) (by decide) (by decide) (by simp) ?_
  intro h11 W12 sh11
  have f13 := Fld.same W12 G2
  refine oGo.aload_n (pc' := 28) d55_27 rfl rfl rfl ?_
  refine oGo.aload_n (pc' := 29) d55_28 rfl rfl rfl ?_
  refine oGo.iconst (pc' := 30) (v := 0) d55_29 rfl (by decide) ?_
  refine oGo.iload (pc' := 32) d55_30 rfl rfl ?_
  have f14 := oArr.other W12 B (own_ne (by omega))
  refine oGo.invokestatic (pc' := 35) (k' := 1) (n' := 10) (argsL := [.ref b, .int (0 : Int32), .int (Int32.ofNat cs.length)]) (rest := [.ref x]) d55_32 rfl (w270 hG) (w105 hG) (w106 hG) (w107 hG) (by decide) pd7 rfl rfl rfl (c_cor hG b vs 0 cs.length (by omega) (by omega) (by omega) (by omega) _ f14) (by simp) (by decide) (Nat.le_of_ble_eq_true rfl) rfl rfl (by decide) (by decide) ?_
  intro v15 h16 sh16 q17
  obtain ⟨K2, t, rfl, ht, B2⟩ := q17
  rw [List.drop_zero, Nat.sub_zero, hvs] at B2
  refine ⟨[t, x], own_D1 (rfl), ?_⟩
  show oGo l Z a0 EL True pP eE sS mM _ bB tT cC _ _ _ _ _ _ _ _ [t, x] h16 1 10 35 #[.val (.ref x), .val (.ref sb), .val .null, .val (.ref b), .val (.int (Int32.ofNat cs.length))] [.ref t, .ref x]
  have f18 := Fld.other W12 G1 (Or.inr (slot_ne (C := "java/lang/String") (Or.inr (w37 hG)) (Or.inr (w35 hG)) (by decide) (t := (.array .byte)) (t' := .byte) (by decide) (by decide)))
  have f19 := Fld.keep f18 K2 nin0
  have f20 := Exa.wr W12 EX
  have f21 := Exa.keep f20 K2
  refine oGo.putfield (pc' := 38) (ty := (.array .byte)) d55_35 rfl (w36 hG) Via.refl f19 f21 (Or.inr ⟨(w37 hG), rfl, rfl⟩) (w10 hG) (by decide) rfl rfl (by simp) ?_
  intro h22 W23 sh22
  have f24 := Fld.same W23 f19
  refine oGo.goto (pc' := 97) d55_38 (by decide) ?_
  have f25 := Exa.wr W23 f21
  have f26 := Fld.keep f13 K2 nin0
  have f27 := Fld.other W23 f26 (Or.inr (slot_ne (C := "java/lang/String") (Or.inr (w35 hG)) (Or.inr (w37 hG)) (by decide) (t := .byte) (t' := (.array .byte)) (by decide) (by decide)))
  have f28 := oArr.other W23 B2 (own_ne (by omega))
  exact oGo.return_ d55_97 rfl (by decide) (by decide) ⟨rfl, (((Keep.refl h [x]).wr W12 (Or.inl (by simp))).trans K2 (by simp)).wr W23 (Or.inl (by simp)), t, by omega, f25, f24, f27, f28, hcs⟩ (fun _ q => q.elim)
set_option maxRecDepth 65536 in
set_option maxHeartbeats 4000000 in
theorem c_strSB {l : Launch} {Z : State} {a0 : Array Value} {EL : List (String × Nat)} (hG : oG a0 Z EL) (x sb b : Nat) (cs : List Int32) (cap : Nat) (hN : cs.length ≤ 10) (hne : cs.length < cap) (hcs : ∀ c ∈ cs, ¬ c < 0 ∧ ¬ 255 < c) (u w0 : Value) (hxs : x ≠ sb ∧ x ≠ b) (h : Heap) (SB : oSB Z h sb b cs cap) (EX : Exa Z h x "java/lang/String") (G1 : Fld Z h x "java/lang/String" "value" "[B" u) (G2 : Fld Z h x "java/lang/String" "coder" "B" w0) :
    oCtr [] l Z a0 EL True (⟨"java/lang/String", "<init>", "(Ljava/lang/StringBuilder;)V"⟩ : MethodName) jdk_42_method_53_code 2 none ({ frames := 4, cells := 1, slots := 10, locals := 65 } : Room) #[.ref x, .ref sb] [x] h ((q_strSB Z h x cs)) oNo := by
  refine oCtr.enter (Ls := #[.val (.ref x), .val (.ref sb)]) (plainFor_of_name pn1) hG.2.1 (fun m => by first | (simp [entryFrame, mkF, argsToLocals, Value.category]; done) | rfl) ?_
  intro pP eE sS mM bB tT cC
  refine oGo.aload_n (pc' := 1) d54_0 rfl rfl rfl ?_
  refine oGo.aload_n (pc' := 2) d54_1 rfl rfl rfl ?_
  refine oGo.aconst_null (pc' := 3) d54_2 rfl ?_
  refine oGo.invokespecial (pc' := 6) (k' := 1) (n' := 10) (a := x) (argsL := [.ref sb, .null]) (rest := []) d54_3 rfl rfl (w253 hG) (w254 hG) (w11 hG) (w255 hG) (by decide) pd20 rfl rfl rfl (c_strASB hG x sb b cs cap hN hne hcs u w0 hxs h SB EX G1 G2) (by simp) (by decide) (Nat.le_of_ble_eq_true rfl) rfl rfl (by decide) (by decide) ?_
  intro v1 h2 sh2 q3
  obtain ⟨rfl, hq⟩ := q3
  refine ⟨_, fun _ hx => Or.inl hx, ?_⟩
  show oGo l Z a0 EL True pP eE sS mM _ bB tT cC _ _ _ _ _ _ _ _ [x] h2 1 10 6 #[.val (.ref x), .val (.ref sb)] []
  exact oGo.return_ d54_6 rfl (by decide) (by decide) ⟨rfl, hq⟩ (fun _ q => q.elim)
abbrev q_toStr (Z : State) (h : Heap) (cs : List Int32) : Option Value → Heap → Prop := fun v h' => Keep h h' [] ∧ ∃ x t : Nat, v = some (.ref x) ∧ h.size ≤ x ∧ h.size ≤ t ∧ oS Z h' x t cs
set_option maxRecDepth 65536 in
set_option maxHeartbeats 4000000 in
theorem c_toStr {l : Launch} {Z : State} {a0 : Array Value} {EL : List (String × Nat)} (hG : oG a0 Z EL) (sb b : Nat) (cs : List Int32) (cap : Nat) (hN : cs.length ≤ 10) (hne : cs.length < cap) (hcs : ∀ c ∈ cs, ¬ c < 0 ∧ ¬ 255 < c) (h : Heap) (SB : oSB Z h sb b cs cap) :
    oCtr [] l Z a0 EL True (⟨"java/lang/StringBuilder", "toString", "()Ljava/lang/String;"⟩ : MethodName) jdk_67_method_42_code 1 (some (.object "java/lang/String")) ({ frames := 5, cells := 2, slots := 14, locals := 79 } : Room) #[.ref sb] [] h ((q_toStr Z h cs)) oNo := by
  have hsl := own_ltN SB.1.lt
  have hbl : b < h.size := by obtain ⟨_, _, _, _, _, B, _⟩ := SB; exact own_ltN B.lt
  refine oCtr.enter (Ls := #[.val (.ref sb)]) (plainFor_of_name pn6) hG.2.1 (fun m => by first | (simp [entryFrame, mkF, argsToLocals, Value.category]; done) | rfl) ?_
  intro pP eE sS mM bB tT cC
  refine oGo.new (pc' := 3) (k' := 1) (n' := 4) d53_0 rfl (w249 hG) (w10 hG) (w11 hG) rfl rfl (by decide) (by decide) ?_
  intro h1 a2 qa2 la2 E3 X4 F5
  have f6 := F5 (Or.inr (w35 hG)) (ty := .byte) (by decide)
  have f7 := F5 (Or.inr (w37 hG)) (ty := (.array .byte)) (by decide)
  refine oGo.dup (pc' := 4) d53_3 rfl rfl ?_
  refine oGo.aload_n (pc' := 5) d53_4 rfl rfl rfl ?_
  have f8 := SB.ext E3
  refine oGo.invokespecial (pc' := 8) (k' := 2) (n' := 14) (a := a2) (argsL := [.ref sb]) (rest := [.ref a2]) d53_5 rfl rfl (w250 hG) (w251 hG) (w11 hG) (w252 hG) (by decide) pd21 rfl rfl rfl (c_strSB hG a2 sb b cs cap hN hne hcs _ _ (by omega) _ f8 X4 f7 f6) (by simp) (by decide) (Nat.le_of_ble_eq_true rfl) rfl rfl (by decide) (by decide) ?_
  intro v9 h10 sh10 q11
  obtain ⟨rfl, K2, t, ht, S2⟩ := q11
  refine ⟨_, fun _ hx => Or.inl hx, ?_⟩
  show oGo l Z a0 EL True pP eE sS mM _ bB tT cC _ _ _ _ _ _ _ _ [a2] h10 2 14 8 #[.val (.ref sb)] [.ref a2]
  exact oGo.areturn d53_8 rfl rfl rfl rfl (by decide) (by decide) ⟨((Keep.refl h []).ext E3).trans K2 (own_new1 (by omega)), a2, t, rfl, by omega, by omega, S2⟩ (fun _ q => q.elim)
set_option maxRecDepth 65536 in
set_option maxHeartbeats 4000000 in
theorem c_rnn {l : Launch} {Z : State} {a0 : Array Value} {EL : List (String × Nat)} (hG : oG a0 Z EL) (x y : Nat) (h : Heap)  :
    oCtr [] l Z a0 EL True (⟨"java/util/Objects", "requireNonNull", "(Ljava/lang/Object;Ljava/lang/String;)Ljava/lang/Object;"⟩ : MethodName) jdk_31_method_11_code 2 (some (.object "java/lang/Object")) ({ frames := 0, cells := 0, slots := 0, locals := 0 } : Room) #[.ref x, .ref y] [] h (fun v h' => v = some (.ref x) ∧ h' = h) oNo := by
  refine oCtr.enter (Ls := #[.val (.ref x), .val (.ref y)]) (plainFor_of_name pn7) hG.2.1 (fun m => by first | (simp [entryFrame, mkF, argsToLocals, Value.category]; done) | rfl) ?_
  intro pP eE sS mM bB tT cC
  refine oGo.aload_n (pc' := 1) d10_0 rfl rfl rfl ?_
  refine oGo.ifnonnull_y (pc2 := 13) d10_1 (by decide) ?_
  refine oGo.aload_n (pc' := 14) d10_13 rfl rfl rfl ?_
  exact oGo.areturn d10_14 rfl rfl rfl rfl (by decide) (by decide) ⟨rfl, rfl⟩ (fun _ q => q.elim)
set_option maxRecDepth 65536 in
set_option maxHeartbeats 4000000 in
theorem c_record {l : Launch} {Z : State} {a0 : Array Value} {EL : List (String × Nat)} (hG : oG a0 Z EL) (x : Nat) (h : Heap)  :
    oCtr [] l Z a0 EL True (⟨"java/lang/Record", "<init>", "()V"⟩ : MethodName) jdk_30_method_1_code 1 none ({ frames := 1, cells := 0, slots := 0, locals := 12 } : Room) #[.ref x] [] h (fun v h' => v = none ∧ h' = h) oNo := by
  refine oCtr.enter (Ls := #[.val (.ref x)]) (plainFor_of_name pn8) hG.2.1 (fun m => by first | (simp [entryFrame, mkF, argsToLocals, Value.category]; done) | rfl) ?_
  intro pP eE sS mM bB tT cC
  refine oGo.aload_n (pc' := 1) d39_0 rfl rfl rfl ?_
  refine oGo.objinit (pc' := 4) d39_1 rfl (w173 hG) (w20 hG) (w21 hG) rfl (by decide) (Nat.le_of_ble_eq_true rfl) ?_
  exact oGo.return_ d39_4 rfl (by decide) (by decide) ⟨rfl, rfl⟩ (fun _ q => q.elim)
set_option maxRecDepth 65536 in
set_option maxHeartbeats 4000000 in
theorem c_ws {l : Launch} {Z : State} {a0 : Array Value} {EL : List (String × Nat)} (hG : oG a0 Z EL) (x i : Int32) (h : Heap)  :
    oCtr [] l Z a0 EL True (⟨"com/example/gated_claim/gatedclaim/idempotency/IdempotencyKeyParsePinLaw", "ws", "(II)C"⟩ : MethodName) method_3_code 2 (some .char) ({ frames := 0, cells := 0, slots := 0, locals := 0 } : Room) #[.int x, .int i] [] h (fun v h' => (∃ c : Int32, v = some (.int c) ∧ isW c) ∧ h' = h) oNo := by
  refine oCtr.enter (Ls := #[.val (.int x), .val (.int i)]) (plainFor_of_name pn9) hG.2.1 (fun m => by first | (simp [entryFrame, mkF, argsToLocals, Value.category]; done) | rfl) ?_
  intro pP eE sS mM bB tT cC
  refine oGo.iload_n (pc' := 1) d1_0 rfl rfl ?_
  refine oGo.iload_n (pc' := 2) d1_1 rfl rfl ?_
  refine oGo.iushr (pc' := 3) d1_2 rfl ?_
  refine oGo.iconst (pc' := 4) (v := 1) d1_3 rfl (by decide) ?_
  refine oGo.iand (pc' := 5) d1_4 rfl ?_
  refine oGo.if_eq (pc1 := 8) (pc2 := 13) d1_5 rfl (by decide) (fun q => ?_) (fun q => ?_)
  · refine oGo.bipush (pc' := 15) (v := 32) d1_13 rfl (by decide) ?_
    exact oGo.nreturn d1_15 rfl (by simp) (by decide) (by decide) (by decide) ⟨⟨32, rfl, Or.inl rfl⟩, rfl⟩ (fun _ q => q.elim)
  · refine oGo.bipush (pc' := 10) (v := 9) d1_8 rfl (by decide) ?_
    refine oGo.goto (pc' := 15) d1_10 (by decide) ?_
    exact oGo.nreturn d1_15 rfl (by simp) (by decide) (by decide) (by decide) ⟨⟨9, rfl, Or.inr rfl⟩, rfl⟩ (fun _ q => q.elim)
set_option maxRecDepth 65536 in
set_option maxHeartbeats 4000000 in
theorem c_bare {l : Launch} {Z : State} {a0 : Array Value} {EL : List (String × Nat)} (hG : oG a0 Z EL) (w : Nat) (hw : w < 93) (h : Heap)  :
    oCtr [] l Z a0 EL True (⟨"com/example/gated_claim/gatedclaim/idempotency/IdempotencyKeyParsePinLaw", "bareChar", "(I)C"⟩ : MethodName) method_7_code 2 (some .char) ({ frames := 0, cells := 0, slots := 0, locals := 0 } : Room) #[.int (Int32.ofNat w)] [] h (fun v h' => v = some (.int (Int32.ofNat (bareF w))) ∧ h' = h) oNo := by
  refine oCtr.enter (Ls := #[.val (.int (Int32.ofNat w)), .unset]) (plainFor_of_name pn9) hG.2.1 (fun m => by first | (simp [entryFrame, mkF, argsToLocals, Value.category]; done) | rfl) ?_
  intro pP eE sS mM bB tT cC
  refine oGo.bipush (pc' := 2) (v := 33) d2_0 rfl (by decide) ?_
  refine oGo.iload_n (pc' := 3) d2_2 rfl rfl ?_
  refine oGo.iadd (pc' := 4) d2_3 rfl ?_
  rw [show (33 : Int32) + Int32.ofNat w = Int32.ofNat (33 + w) from (Int32.ofNat_add 33 w).symm]
  refine oGo.istore_n (pc' := 5) (Ls' := #[.val (.int (Int32.ofNat w)), .val (.int (Int32.ofNat (33 + w)))]) d2_4 rfl rfl ?_
  refine oGo.iload_n (pc' := 6) d2_5 rfl rfl ?_
  refine oGo.bipush (pc' := 8) (v := 34) d2_6 rfl (by decide) ?_
  rw [show (34 : Int32) = Int32.ofNat 34 from rfl]
  refine oGo.icmp_lt (pc1 := 11) (pc2 := 14) d2_8 rfl (by decide) (fun q => ?_) (fun q => ?_)
  · rw [own_lt (by omega) (by omega)] at q
    obtain rfl : w = 0 := by omega
    refine oGo.iload_n (pc' := 15) d2_14 rfl rfl ?_
    refine oGo.i2c (pc' := 16) d2_15 rfl ?_
    exact oGo.nreturn d2_16 rfl (by simp) (by decide) (by decide) (by decide) ⟨rfl, rfl⟩ (fun _ q => q.elim)
  · rw [own_lt (by omega) (by omega)] at q
    refine oGo.iinc (pc' := 14) (y := 1) (Ls' := #[.val (.int (Int32.ofNat w)), .val (.int ((Int32.ofNat (33 + w)) + (1 : Int32)))]) d2_11 rfl rfl (by decide) rfl ?_
    rw [own_succ]
    refine oGo.iload_n (pc' := 15) d2_14 rfl rfl ?_
    refine oGo.i2c (pc' := 16) d2_15 rfl ?_
    rw [own_c16 (n := 33 + w + 1) (by omega)]
    exact oGo.nreturn d2_16 rfl (by simp) (own_n16 (by omega)) (by decide) (by decide) ⟨by rw [bareF, if_neg (by omega), show 33 + w + 1 = 34 + w by omega], rfl⟩ (fun _ q => q.elim)
set_option maxRecDepth 65536 in
set_option maxHeartbeats 4000000 in
theorem c_plainQ {l : Launch} {Z : State} {a0 : Array Value} {EL : List (String × Nat)} (hG : oG a0 Z EL) (v : Nat) (hv : v < 93) (h : Heap)  :
    oCtr [] l Z a0 EL True (⟨"com/example/gated_claim/gatedclaim/idempotency/IdempotencyKeyParsePinLaw", "plainQuoted", "(I)C"⟩ : MethodName) method_4_code 2 (some .char) ({ frames := 0, cells := 0, slots := 0, locals := 0 } : Room) #[.int (Int32.ofNat v)] [] h (fun z h' => z = some (.int (Int32.ofNat (pqF v))) ∧ h' = h) oNo := by
  refine oCtr.enter (Ls := #[.val (.int (Int32.ofNat v)), .unset]) (plainFor_of_name pn9) hG.2.1 (fun m => by first | (simp [entryFrame, mkF, argsToLocals, Value.category]; done) | rfl) ?_
  intro pP eE sS mM bB tT cC
  refine oGo.bipush (pc' := 2) (v := 32) d43_0 rfl (by decide) ?_
  refine oGo.iload_n (pc' := 3) d43_2 rfl rfl ?_
  refine oGo.iadd (pc' := 4) d43_3 rfl ?_
  rw [show (32 : Int32) + Int32.ofNat v = Int32.ofNat (32 + v) from (Int32.ofNat_add 32 v).symm]
  refine oGo.istore_n (pc' := 5) (Ls' := #[.val (.int (Int32.ofNat v)), .val (.int (Int32.ofNat (32 + v)))]) d43_4 rfl rfl ?_
  refine oGo.iload_n (pc' := 6) d43_5 rfl rfl ?_
  refine oGo.bipush (pc' := 8) (v := 34) d43_6 rfl (by decide) ?_
  rw [show (34 : Int32) = Int32.ofNat 34 from rfl]
  refine oGo.icmp_lt (pc1 := 11) (pc2 := 14) d43_8 rfl (by decide) (fun q1 => ?_) (fun q1 => ?_)
  · rw [own_lt (by omega) (by omega)] at q1
    refine oGo.iload_n (pc' := 15) d43_14 rfl rfl ?_
    refine oGo.bipush (pc' := 17) (v := 92) d43_15 rfl (by decide) ?_
    rw [show (92 : Int32) = Int32.ofNat 92 from rfl]
    refine oGo.icmp_lt (pc1 := 20) (pc2 := 23) d43_17 rfl (by decide) (fun q1 => ?_) (fun q => by exfalso; rw [own_lt (by omega) (by omega)] at q; omega)
    refine oGo.iload_n (pc' := 24) d43_23 rfl rfl ?_
    refine oGo.i2c (pc' := 25) d43_24 rfl ?_
    rw [own_c16 (n := 32 + v) (by omega)]
    exact oGo.nreturn d43_25 rfl (by simp) (own_n16 (by omega)) (by decide) (by decide) ⟨by rw [pqF, if_pos (by omega)], rfl⟩ (fun _ q => q.elim)
  · rw [own_lt (by omega) (by omega)] at q1
    refine oGo.iinc (pc' := 14) (y := 1) (Ls' := #[.val (.int (Int32.ofNat v)), .val (.int ((Int32.ofNat (32 + v)) + (1 : Int32)))]) d43_11 rfl rfl (by decide) rfl ?_
    rw [own_succ]
    refine oGo.iload_n (pc' := 15) d43_14 rfl rfl ?_
    refine oGo.bipush (pc' := 17) (v := 92) d43_15 rfl (by decide) ?_
    rw [show (92 : Int32) = Int32.ofNat 92 from rfl]
    refine oGo.icmp_lt (pc1 := 20) (pc2 := 23) d43_17 rfl (by decide) (fun q2 => ?_) (fun q2 => ?_)
    · rw [own_lt (by omega) (by omega)] at q2
      refine oGo.iload_n (pc' := 24) d43_23 rfl rfl ?_
      refine oGo.i2c (pc' := 25) d43_24 rfl ?_
      rw [own_c16 (n := 32 + v + 1) (by omega)]
      exact oGo.nreturn d43_25 rfl (by simp) (own_n16 (by omega)) (by decide) (by decide) ⟨by rw [pqF, if_neg (by omega), if_pos (by omega), show 32 + v + 1 = 33 + v by omega], rfl⟩ (fun _ q => q.elim)
    · rw [own_lt (by omega) (by omega)] at q2
      refine oGo.iinc (pc' := 23) (y := 1) (Ls' := #[.val (.int (Int32.ofNat v)), .val (.int ((Int32.ofNat (32 + v + 1)) + (1 : Int32)))]) d43_20 rfl rfl (by decide) rfl ?_
      rw [own_succ]
      refine oGo.iload_n (pc' := 24) d43_23 rfl rfl ?_
      refine oGo.i2c (pc' := 25) d43_24 rfl ?_
      rw [own_c16 (n := 32 + v + 1 + 1) (by omega)]
      exact oGo.nreturn d43_25 rfl (by simp) (own_n16 (by omega)) (by decide) (by decide) ⟨by rw [pqF, if_neg (by omega), if_neg (by omega), show 32 + v + 1 + 1 = 34 + v by omega], rfl⟩ (fun _ q => q.elim)
set_option maxRecDepth 65536 in
set_option maxHeartbeats 4000000 in
theorem c_key {l : Launch} {Z : State} {a0 : Array Value} {EL : List (String × Nat)} (hG : oG a0 Z EL) (v : Nat) (hv : v < 95) (h : Heap)  :
    oCtr [] l Z a0 EL True (⟨"com/example/gated_claim/gatedclaim/idempotency/IdempotencyKeyParsePinLaw", "keyChar", "(I)C"⟩ : MethodName) method_5_code 1 (some .char) ({ frames := 1, cells := 0, slots := 0, locals := 13 } : Room) #[.int (Int32.ofNat v)] [] h (fun z h' => z = some (.int (Int32.ofNat (kcF v))) ∧ h' = h) oNo := by
  refine oCtr.enter (Ls := #[.val (.int (Int32.ofNat v))]) (plainFor_of_name pn9) hG.2.1 (fun m => by first | (simp [entryFrame, mkF, argsToLocals, Value.category]; done) | rfl) ?_
  intro pP eE sS mM bB tT cC
  rcases (show v = 93 ∨ v = 94 ∨ v < 93 by omega) with rfl | rfl | hlt
  · show oGo l Z a0 EL True pP eE sS mM _ bB tT cC _ _ _ _ _ _ _ _ [] h 0 0 0 #[.val (.int (93 : Int32))] []
    refine oGo.iload_n (pc' := 1) d44_0 rfl rfl ?_
    refine oGo.bipush (pc' := 3) (v := 93) d44_1 rfl (by decide) ?_
    refine oGo.icmp_ne (pc1 := 6) (pc2 := 9) d44_3 rfl (by decide) (fun q => by first | exact absurd q (by decide) | exact absurd (by decide) q) (fun q1 => ?_)
    refine oGo.bipush (pc' := 8) (v := 34) d44_6 rfl (by decide) ?_
    exact oGo.nreturn d44_8 rfl (by simp) (by decide) (by decide) (by decide) ⟨rfl, rfl⟩ (fun _ q => q.elim)
  · show oGo l Z a0 EL True pP eE sS mM _ bB tT cC _ _ _ _ _ _ _ _ [] h 0 0 0 #[.val (.int (94 : Int32))] []
    refine oGo.iload_n (pc' := 1) d44_0 rfl rfl ?_
    refine oGo.bipush (pc' := 3) (v := 93) d44_1 rfl (by decide) ?_
    refine oGo.icmp_ne (pc1 := 6) (pc2 := 9) d44_3 rfl (by decide) (fun q2 => ?_) (fun q => by first | exact absurd q (by decide) | exact absurd (by decide) q)
    refine oGo.iload_n (pc' := 10) d44_9 rfl rfl ?_
    refine oGo.bipush (pc' := 12) (v := 94) d44_10 rfl (by decide) ?_
    refine oGo.icmp_ne (pc1 := 15) (pc2 := 18) d44_12 rfl (by decide) (fun q => by first | exact absurd q (by decide) | exact absurd (by decide) q) (fun q3 => ?_)
    refine oGo.bipush (pc' := 17) (v := 92) d44_15 rfl (by decide) ?_
    exact oGo.nreturn d44_17 rfl (by simp) (by decide) (by decide) (by decide) ⟨rfl, rfl⟩ (fun _ q => q.elim)
  · refine oGo.iload_n (pc' := 1) d44_0 rfl rfl ?_
    refine oGo.bipush (pc' := 3) (v := 93) d44_1 rfl (by decide) ?_
    refine oGo.icmp_ne (pc1 := 6) (pc2 := 9) d44_3 rfl (by decide) (fun q4 => ?_) (fun q => by exfalso; rw [show (93 : Int32) = Int32.ofNat 93 from rfl, own_eq (by omega) (by omega)] at q; omega)
    refine oGo.iload_n (pc' := 10) d44_9 rfl rfl ?_
    refine oGo.bipush (pc' := 12) (v := 94) d44_10 rfl (by decide) ?_
    refine oGo.icmp_ne (pc1 := 15) (pc2 := 18) d44_12 rfl (by decide) (fun q5 => ?_) (fun q => by exfalso; rw [show (94 : Int32) = Int32.ofNat 94 from rfl, own_eq (by omega) (by omega)] at q; omega)
    refine oGo.iload_n (pc' := 19) d44_18 rfl rfl ?_
    refine oGo.invokestatic (pc' := 22) (k' := 0) (n' := 0) (argsL := [.int (Int32.ofNat v)]) (rest := []) d44_19 rfl (w192 hG) (w193 hG) (w3 hG) (w194 hG) (by decide) pd22 rfl rfl rfl (c_plainQ hG v hlt h) (by simp) (by decide) (Nat.le_of_ble_eq_true rfl) rfl rfl (by decide) (by decide) ?_
    intro v6 h7 sh7 q8
    obtain ⟨rfl, ee⟩ := q8
    obtain rfl := ee.symm
    refine ⟨_, fun _ hx => Or.inl hx, ?_⟩
    show oGo l Z a0 EL True pP eE sS mM _ bB tT cC _ _ _ _ _ _ _ _ [] h 0 0 22 #[.val (.int (Int32.ofNat v))] [.int (Int32.ofNat (pqF v))]
    exact oGo.nreturn d44_22 rfl (by simp) (own_n16 (pq_lt hlt)) (by decide) (by decide) ⟨by rw [pq_kc hlt], rfl⟩ (fun _ q => q.elim)
set_option maxRecDepth 65536 in
set_option maxHeartbeats 4000000 in
theorem c_put {l : Launch} {Z : State} {a0 : Array Value} {EL : List (String × Nat)} (hG : oG a0 Z EL) (al p i v : Nat) (xs ys : List Int32) (hi : i = p + ys.length) (hl : i + 2 ≤ xs.length) (hx : xs.length ≤ 10) (hv : v < 95) (h : Heap) (A : oArr Z h al .char (oI (put xs p ys))) :
    oCtr [] l Z a0 EL True (⟨"com/example/gated_claim/gatedclaim/idempotency/IdempotencyKeyParsePinLaw", "putUnit", "([CII)I"⟩ : MethodName) method_6_code 3 (some .int) ({ frames := 2, cells := 0, slots := 0, locals := 27 } : Room) #[.ref al, .int (Int32.ofNat i), .int (Int32.ofNat v)] [al] h (fun z h' => ∃ zs : List Int32, zs = ys ++ enc (Int32.ofNat (kcF v)) ∧ z = some (.int (Int32.ofNat (p + zs.length))) ∧ Keep h h' [al] ∧ oArr Z h' al .char (oI (put xs p zs))) oNo := by
  refine oCtr.enter (Ls := #[.val (.ref al), .val (.int (Int32.ofNat i)), .val (.int (Int32.ofNat v))]) (plainFor_of_name pn9) hG.2.1 (fun m => by first | (simp [entryFrame, mkF, argsToLocals, Value.category]; done) | rfl) ?_
  intro pP eE sS mM bB tT cC
  refine oGo.iload_n (pc' := 1) d42_0 rfl rfl ?_
  refine oGo.bipush (pc' := 3) (v := 93) d42_1 rfl (by decide) ?_
  rw [show (93 : Int32) = Int32.ofNat 93 from rfl]
  refine oGo.icmp_lt (pc1 := 6) (pc2 := 24) d42_3 rfl (by decide) (fun q => ?_) (fun q => ?_)
  · rw [own_lt (by omega) (by omega)] at q
    have hb := own_pr (kc_ok v hv)
    have he := enc_n (kc_enc v q)
    rw [pq_kc q] at hb he
    refine oGo.aload_n (pc' := 25) d42_24 rfl rfl rfl ?_
    refine oGo.iload_n (pc' := 26) d42_25 rfl rfl ?_
    refine oGo.iload_n (pc' := 27) d42_26 rfl rfl ?_
    refine oGo.invokestatic (pc' := 30) (k' := 0) (n' := 0) (argsL := [.int (Int32.ofNat v)]) (rest := [.int (Int32.ofNat i), .ref al]) d42_27 rfl (w192 hG) (w193 hG) (w3 hG) (w194 hG) (by decide) pd22 rfl rfl rfl (c_plainQ hG v q h) (by simp) (by decide) (Nat.le_of_ble_eq_true rfl) rfl rfl (by decide) (by decide) ?_
    intro v1 h2 sh2 q3
    obtain ⟨rfl, ee⟩ := q3
    obtain rfl := ee.symm
    refine ⟨_, fun _ hx => Or.inl hx, ?_⟩
    show oGo l Z a0 EL True pP eE sS mM _ bB tT cC _ _ _ _ _ _ _ _ [al] h 0 0 30 #[.val (.ref al), .val (.int (Int32.ofNat i)), .val (.int (Int32.ofNat v))] [.int (Int32.ofNat (pqF v)), .int (Int32.ofNat i), .ref al]
    refine oGo.castore (pc' := 31) (i := i) (w := Int32.ofNat (pqF v)) d42_30 rfl A rfl (by rw [List.length_map, put_len (by first | omega | (simp only [List.length_append, List.length_cons, List.length_nil] <;> omega))]; first | omega | (simp only [List.length_append, List.length_cons, List.length_nil] <;> omega)) (nar_char hb.1 (own_255 hb.2)) (by simp) ?_
    intro h4 W5 sh4 A6
    rw [put_set _ (by first | omega | (simp only [List.length_append, List.length_cons, List.length_nil] <;> omega)) (by first | omega | (simp only [List.length_append, List.length_cons, List.length_nil] <;> omega))] at A6
    refine oGo.iload_n (pc' := 32) d42_31 rfl rfl ?_
    refine oGo.iconst (pc' := 33) (v := 1) d42_32 rfl (by decide) ?_
    refine oGo.iadd (pc' := 34) d42_33 rfl ?_
    rw [own_addL i 1 1 rfl]
    exact oGo.ireturn d42_34 rfl (by decide) (by decide) ⟨_, rfl, by rw [pq_kc q, he, List.length_append, hi]; first | done | rfl, (Keep.refl h [al]).wr W5 (Or.inl (by simp)), by rw [pq_kc q, he]; exact A6⟩ (fun _ q => q.elim)
  · rw [own_lt (by omega) (by omega)] at q
    have hb := own_pr (kc_ok v hv)
    have he : enc (Int32.ofNat (kcF v)) = [92, Int32.ofNat (kcF v)] := enc_y (by rcases (show v = 93 ∨ v = 94 by omega) with rfl | rfl <;> decide)
    refine oGo.aload_n (pc' := 7) d42_6 rfl rfl rfl ?_
    refine oGo.iload_n (pc' := 8) d42_7 rfl rfl ?_
    refine oGo.bipush (pc' := 10) (v := 92) d42_8 rfl (by decide) ?_
    refine oGo.castore (pc' := 11) (i := i) (w := (92 : Int32)) d42_10 rfl A rfl (by rw [List.length_map, put_len (by first | omega | (simp only [List.length_append, List.length_cons, List.length_nil] <;> omega))]; first | omega | (simp only [List.length_append, List.length_cons, List.length_nil] <;> omega)) (by decide) (by simp) ?_
    intro h7 W8 sh7 A9
    rw [put_set _ (by first | omega | (simp only [List.length_append, List.length_cons, List.length_nil] <;> omega)) (by first | omega | (simp only [List.length_append, List.length_cons, List.length_nil] <;> omega))] at A9
    refine oGo.aload_n (pc' := 12) d42_11 rfl rfl rfl ?_
    refine oGo.iload_n (pc' := 13) d42_12 rfl rfl ?_
    refine oGo.iconst (pc' := 14) (v := 1) d42_13 rfl (by decide) ?_
    refine oGo.iadd (pc' := 15) d42_14 rfl ?_
    rw [own_addL i 1 1 rfl]
    refine oGo.iload_n (pc' := 16) d42_15 rfl rfl ?_
    refine oGo.invokestatic (pc' := 19) (k' := 0) (n' := 0) (argsL := [.int (Int32.ofNat v)]) (rest := [.int (Int32.ofNat (i + 1)), .ref al]) d42_16 rfl (w195 hG) (w196 hG) (w3 hG) (w197 hG) (by decide) pd22 rfl rfl rfl (c_key hG v hv _) (by simp) (by decide) (Nat.le_of_ble_eq_true rfl) rfl rfl (by decide) (by decide) ?_
    intro v10 h11 sh11 q12
    obtain ⟨rfl, ee⟩ := q12
    obtain rfl := ee.symm
    refine ⟨_, fun _ hx => Or.inl hx, ?_⟩
    show oGo l Z a0 EL True pP eE sS mM _ bB tT cC _ _ _ _ _ _ _ _ [al] h7 0 0 19 #[.val (.ref al), .val (.int (Int32.ofNat i)), .val (.int (Int32.ofNat v))] [.int (Int32.ofNat (kcF v)), .int (Int32.ofNat (i + 1)), .ref al]
    refine oGo.castore (pc' := 20) (i := i + 1) (w := Int32.ofNat (kcF v)) d42_19 rfl A9 rfl (by rw [List.length_map, put_len (by first | omega | (simp only [List.length_append, List.length_cons, List.length_nil] <;> omega))]; first | omega | (simp only [List.length_append, List.length_cons, List.length_nil] <;> omega)) (nar_char hb.1 (own_255 hb.2)) (by simp) ?_
    intro h13 W14 sh13 A15
    rw [put_set _ (by first | omega | (simp only [List.length_append, List.length_cons, List.length_nil] <;> omega)) (by first | omega | (simp only [List.length_append, List.length_cons, List.length_nil] <;> omega))] at A15
    refine oGo.iload_n (pc' := 21) d42_20 rfl rfl ?_
    refine oGo.iconst (pc' := 22) (v := 2) d42_21 rfl (by decide) ?_
    refine oGo.iadd (pc' := 23) d42_22 rfl ?_
    rw [own_addL i 2 2 rfl]
    exact oGo.ireturn d42_23 rfl (by decide) (by decide) ⟨_, rfl, by rw [he, List.length_append, hi]; first | done | rfl, ((Keep.refl h [al]).wr W8 (Or.inl (by simp))).wr W14 (Or.inl (by simp)), by rw [he]; rw [List.append_assoc] at A15; exact A15⟩ (fun _ q => q.elim)
set_option maxRecDepth 65536 in
set_option maxHeartbeats 4000000 in
theorem c_isOW {l : Launch} {Z : State} {a0 : Array Value} {EL : List (String × Nat)} (hG : oG a0 Z EL) (c : Int32) (h : Heap)  :
    oCtr [] l Z a0 EL True (⟨"com/example/gated_claim/gatedclaim/idempotency/IdempotencyKey", "isOptionalWhitespace", "(C)Z"⟩ : MethodName) prog_2_method_5_code 1 (some .boolean) ({ frames := 0, cells := 0, slots := 0, locals := 0 } : Room) #[.int c] [] h (fun v h' => v = some (.int (if isW c then 1 else 0)) ∧ h' = h) oNo := by
  refine oCtr.enter (Ls := #[.val (.int c)]) (plainFor_of_name pn10) hG.2.1 (fun m => by first | (simp [entryFrame, mkF, argsToLocals, Value.category]; done) | rfl) ?_
  intro pP eE sS mM bB tT cC
  refine oGo.iload_n (pc' := 1) d19_0 rfl rfl ?_
  refine oGo.bipush (pc' := 3) (v := 32) d19_1 rfl (by decide) ?_
  refine oGo.icmp_eq (pc1 := 6) (pc2 := 12) d19_3 rfl (by decide) (fun q1 => ?_) (fun q1 => ?_)
  · refine oGo.iconst (pc' := 13) (v := 1) d19_12 rfl (by decide) ?_
    refine oGo.goto (pc' := 17) d19_13 (by decide) ?_
    exact oGo.nreturn d19_17 rfl (by simp) rfl (by decide) (by decide) ⟨by rw [if_pos (Or.inl q1)]; rfl, rfl⟩ (fun _ q => q.elim)
  · refine oGo.iload_n (pc' := 7) d19_6 rfl rfl ?_
    refine oGo.bipush (pc' := 9) (v := 9) d19_7 rfl (by decide) ?_
    refine oGo.icmp_ne (pc1 := 12) (pc2 := 16) d19_9 rfl (by decide) (fun q2 => ?_) (fun q2 => ?_)
    · refine oGo.iconst (pc' := 17) (v := 0) d19_16 rfl (by decide) ?_
      exact oGo.nreturn d19_17 rfl (by simp) rfl (by decide) (by decide) ⟨by rw [if_neg (fun r => r.elim q1 q2)]; rfl, rfl⟩ (fun _ q => q.elim)
    · refine oGo.iconst (pc' := 13) (v := 1) d19_12 rfl (by decide) ?_
      refine oGo.goto (pc' := 17) d19_13 (by decide) ?_
      exact oGo.nreturn d19_17 rfl (by simp) rfl (by decide) (by decide) ⟨by rw [if_pos (Or.inr q2)]; rfl, rfl⟩ (fun _ q => q.elim)
set_option maxRecDepth 65536 in
set_option maxHeartbeats 4000000 in
theorem c_strip {l : Launch} {Z : State} {a0 : Array Value} {EL : List (String × Nat)} (hG : oG a0 Z EL) (x t : Nat) (cs : List Int32) (n1 n2 : Nat) (H : oWs cs n1 n2) (h : Heap) (Sx : oS Z h x t cs) :
    oCtr [] l Z a0 EL True (⟨"com/example/gated_claim/gatedclaim/idempotency/IdempotencyKey", "stripOptionalWhitespace", "(Ljava/lang/String;)Ljava/lang/String;"⟩ : MethodName) prog_2_method_4_code 3 (some (.object "java/lang/String")) ({ frames := 5, cells := 2, slots := 14, locals := 80 } : Room) #[.ref x] [] h ((q_sub Z h ((cs.drop n1).take (n2 - n1)))) oNo := by
  obtain ⟨h12, h2l, hl10, hpre, ⟨c1, hc1, hw1⟩, ⟨c2, hc2, hw2⟩, hpost⟩ := H
  refine oCtr.enter (Ls := #[.val (.ref x), .unset, .unset]) (plainFor_of_name pn10) hG.2.1 (fun m => by first | (simp [entryFrame, mkF, argsToLocals, Value.category]; done) | rfl) ?_
  intro pP eE sS mM bB tT cC
  refine oGo.iconst (pc' := 1) (v := 0) d11_0 rfl (by decide) ?_
  refine oGo.istore_n (pc' := 2) (Ls' := #[.val (.ref x), .val (.int (0 : Int32)), .unset]) d11_1 rfl rfl ?_
  refine oGo.aload_n (pc' := 3) d11_2 rfl rfl rfl ?_
  refine oGo.invokevirtual (pc' := 6) (k' := 0) (n' := 0) (a := x) (argsL := []) (rest := []) d11_3 rfl (w53 hG) (w54 hG) (w56 hG) (w56 hG) rfl (w55 hG) (w11 hG) (w57 hG) (by decide) pd13 rfl rfl rfl Sx.1 (c_length hG x t cs h Sx) (by simp) (by decide) (Nat.le_of_ble_eq_true rfl) rfl rfl (by decide) (by decide) ?_
  intro v1 h2 sh2 q3
  obtain ⟨rfl, ee⟩ := q3
  obtain rfl := ee.symm
  refine ⟨_, fun _ hx => Or.inl hx, ?_⟩
  show oGo l Z a0 EL True pP eE sS mM _ bB tT cC _ _ _ _ _ _ _ _ [] h 0 0 6 #[.val (.ref x), .val (.int (0 : Int32)), .unset] [.int (Int32.ofNat cs.length)]
  refine oGo.istore_n (pc' := 7) (Ls' := #[.val (.ref x), .val (.int (0 : Int32)), .val (.int (Int32.ofNat cs.length))]) d11_6 rfl rfl ?_
  have loop2 : ∀ r : Nat, n2 + r ≤ cs.length → oGo l Z a0 EL True pP eE sS mM #[.ref x] bB tT cC ({ frames := 5, cells := 2, slots := 14, locals := 80 } : Room) "com/example/gated_claim/gatedclaim/idempotency/IdempotencyKey" prog_2_method_4_code 3 (some (.object "java/lang/String")) "stripOptionalWhitespace" (q_sub Z h ((cs.drop n1).take (n2 - n1))) oNo [] h 0 0 29 #[.val (.ref x), .val (.int (Int32.ofNat n1)), .val (.int (Int32.ofNat (n2 + r)))] [] := by
    intro r
    induction r with
    | zero =>
      intro hr
      show oGo l Z a0 EL True pP eE sS mM _ bB tT cC _ _ _ _ _ _ _ _ [] h 0 0 29 #[.val (.ref x), .val (.int (Int32.ofNat n1)), .val (.int (Int32.ofNat n2))] []
      refine oGo.iload_n (pc' := 30) d11_29 rfl rfl ?_
      refine oGo.iload_n (pc' := 31) d11_30 rfl rfl ?_
      refine oGo.icmp_le (pc1 := 34) (pc2 := 53) d11_31 rfl (by decide) (fun q => by exfalso; rw [own_lt (by omega) (by omega)] at q; omega) (fun q4 => ?_)
      refine oGo.aload_n (pc' := 35) d11_34 rfl rfl rfl ?_
      refine oGo.iload_n (pc' := 36) d11_35 rfl rfl ?_
      refine oGo.iconst (pc' := 37) (v := 1) d11_36 rfl (by decide) ?_
      refine oGo.isub (pc' := 38) d11_37 rfl ?_
      rw [own_sub1 (i := n2) (by omega) (by omega)]
      refine oGo.invokevirtual (pc' := 41) (k' := 0) (n' := 0) (a := x) (argsL := [.int (Int32.ofNat (n2 - 1))]) (rest := []) d11_38 rfl (w63 hG) (w64 hG) (w66 hG) (w66 hG) rfl (w65 hG) (w11 hG) (w67 hG) (by decide) pd22 rfl rfl rfl Sx.1 (c_charAt hG x t cs (n2 - 1) c2 hc2 h Sx) (by simp) (by decide) (Nat.le_of_ble_eq_true rfl) rfl rfl (by decide) (by decide) ?_
      intro v5 h6 sh6 q7
      obtain ⟨rfl, ee⟩ := q7
      obtain rfl := ee.symm
      refine ⟨_, fun _ hx => Or.inl hx, ?_⟩
      show oGo l Z a0 EL True pP eE sS mM _ bB tT cC _ _ _ _ _ _ _ _ [] h 0 0 41 #[.val (.ref x), .val (.int (Int32.ofNat n1)), .val (.int (Int32.ofNat n2))] [.int c2]
      refine oGo.invokestatic (pc' := 44) (k' := 0) (n' := 0) (argsL := [.int c2]) (rest := []) d11_41 rfl (w85 hG) (w86 hG) (w40 hG) (w87 hG) (by decide) pd17 rfl rfl rfl (c_isOW hG c2 h) (by simp) (by decide) (Nat.le_of_ble_eq_true rfl) rfl rfl (by decide) (by decide) ?_
      intro v8 h9 sh9 q10
      obtain ⟨rfl, ee⟩ := q10
      obtain rfl := ee.symm
      refine ⟨_, fun _ hx => Or.inl hx, ?_⟩
      show oGo l Z a0 EL True pP eE sS mM _ bB tT cC _ _ _ _ _ _ _ _ [] h 0 0 44 #[.val (.ref x), .val (.int (Int32.ofNat n1)), .val (.int (Int32.ofNat n2))] [.int (if isW c2 then 1 else 0)]
      rw [if_neg hw2]
      refine oGo.if_eq (pc1 := 47) (pc2 := 53) d11_44 rfl (by decide) (fun q11 => ?_) (fun q => by first | exact absurd q (by decide) | exact absurd (by decide) q)
      refine oGo.aload_n (pc' := 54) d11_53 rfl rfl rfl ?_
      refine oGo.iload_n (pc' := 55) d11_54 rfl rfl ?_
      refine oGo.iload_n (pc' := 56) d11_55 rfl rfl ?_
      refine oGo.invokevirtual (pc' := 59) (k' := 2) (n' := 14) (a := x) (argsL := [.int (Int32.ofNat n1), .int (Int32.ofNat n2)]) (rest := []) d11_56 rfl (w88 hG) (w89 hG) (w91 hG) (w91 hG) rfl (w90 hG) (w11 hG) (w92 hG) (by decide) pd23 rfl rfl rfl Sx.1 (c_sub hG x t cs n1 n2 (by omega) h2l (by omega) h Sx) (by simp) (by decide) (Nat.le_of_ble_eq_true rfl) rfl rfl (by decide) (by decide) ?_
      intro v12 h13 sh13 q14
      obtain ⟨K2, y, u, rfl, S2⟩ := q14
      refine ⟨_, fun _ hx => Or.inl hx, ?_⟩
      show oGo l Z a0 EL True pP eE sS mM _ bB tT cC _ _ _ _ _ _ _ _ [] h13 2 14 59 #[.val (.ref x), .val (.int (Int32.ofNat n1)), .val (.int (Int32.ofNat n2))] [.ref y]
      exact oGo.areturn d11_59 rfl rfl rfl rfl (by decide) (by decide) ⟨K2, y, u, rfl, S2⟩ (fun _ q => q.elim)
    | succ r ih =>
      intro hr
      obtain ⟨c, hc, hw⟩ := hpost (n2 + r) (by omega) (by omega)
      show oGo l Z a0 EL True pP eE sS mM _ bB tT cC _ _ _ _ _ _ _ _ [] h 0 0 29 #[.val (.ref x), .val (.int (Int32.ofNat n1)), .val (.int (Int32.ofNat (n2 + (r + 1))))] []
      refine oGo.iload_n (pc' := 30) d11_29 rfl rfl ?_
      refine oGo.iload_n (pc' := 31) d11_30 rfl rfl ?_
      refine oGo.icmp_le (pc1 := 34) (pc2 := 53) d11_31 rfl (by decide) (fun q => by exfalso; rw [own_lt (by omega) (by omega)] at q; omega) (fun q15 => ?_)
      refine oGo.aload_n (pc' := 35) d11_34 rfl rfl rfl ?_
      refine oGo.iload_n (pc' := 36) d11_35 rfl rfl ?_
      refine oGo.iconst (pc' := 37) (v := 1) d11_36 rfl (by decide) ?_
      refine oGo.isub (pc' := 38) d11_37 rfl ?_
      rw [own_sub1 (i := n2 + (r + 1)) (by omega) (by omega), show n2 + (r + 1) - 1 = n2 + r by omega]
      refine oGo.invokevirtual (pc' := 41) (k' := 0) (n' := 0) (a := x) (argsL := [.int (Int32.ofNat (n2 + r))]) (rest := []) d11_38 rfl (w63 hG) (w64 hG) (w66 hG) (w66 hG) rfl (w65 hG) (w11 hG) (w67 hG) (by decide) pd22 rfl rfl rfl Sx.1 (c_charAt hG x t cs (n2 + r) c hc h Sx) (by simp) (by decide) (Nat.le_of_ble_eq_true rfl) rfl rfl (by decide) (by decide) ?_
      intro v16 h17 sh17 q18
      obtain ⟨rfl, ee⟩ := q18
      obtain rfl := ee.symm
      refine ⟨_, fun _ hx => Or.inl hx, ?_⟩
      show oGo l Z a0 EL True pP eE sS mM _ bB tT cC _ _ _ _ _ _ _ _ [] h 0 0 41 #[.val (.ref x), .val (.int (Int32.ofNat n1)), .val (.int (Int32.ofNat (n2 + (r + 1))))] [.int c]
      refine oGo.invokestatic (pc' := 44) (k' := 0) (n' := 0) (argsL := [.int c]) (rest := []) d11_41 rfl (w85 hG) (w86 hG) (w40 hG) (w87 hG) (by decide) pd17 rfl rfl rfl (c_isOW hG c h) (by simp) (by decide) (Nat.le_of_ble_eq_true rfl) rfl rfl (by decide) (by decide) ?_
      intro v19 h20 sh20 q21
      obtain ⟨rfl, ee⟩ := q21
      obtain rfl := ee.symm
      refine ⟨_, fun _ hx => Or.inl hx, ?_⟩
      show oGo l Z a0 EL True pP eE sS mM _ bB tT cC _ _ _ _ _ _ _ _ [] h 0 0 44 #[.val (.ref x), .val (.int (Int32.ofNat n1)), .val (.int (Int32.ofNat (n2 + (r + 1))))] [.int (if isW c then 1 else 0)]
      rw [if_pos hw]
      refine oGo.if_eq (pc1 := 47) (pc2 := 53) d11_44 rfl (by decide) (fun q => by first | exact absurd q (by decide) | exact absurd (by decide) q) (fun q22 => ?_)
      refine oGo.iinc (pc' := 50) (y := -1) (Ls' := #[.val (.ref x), .val (.int (Int32.ofNat n1)), .val (.int ((Int32.ofNat (n2 + (r + 1))) + (-1 : Int32)))]) d11_47 rfl rfl (by decide) rfl ?_
      refine oGo.goto (pc' := 29) d11_50 (by decide) ?_
      rw [own_decA n2 (r + 1) r rfl]
      exact ih (by omega)
  have loop1 : ∀ r i : Nat, r + i = n1 → oGo l Z a0 EL True pP eE sS mM #[.ref x] bB tT cC ({ frames := 5, cells := 2, slots := 14, locals := 80 } : Room) "com/example/gated_claim/gatedclaim/idempotency/IdempotencyKey" prog_2_method_4_code 3 (some (.object "java/lang/String")) "stripOptionalWhitespace" (q_sub Z h ((cs.drop n1).take (n2 - n1))) oNo [] h 0 0 7 #[.val (.ref x), .val (.int (Int32.ofNat i)), .val (.int (Int32.ofNat cs.length))] [] := by
    intro r
    induction r with
    | zero =>
      intro i hi
      obtain rfl : n1 = i := by omega
      refine oGo.iload_n (pc' := 8) d11_7 rfl rfl ?_
      refine oGo.iload_n (pc' := 9) d11_8 rfl rfl ?_
      refine oGo.icmp_ge (pc1 := 12) (pc2 := 29) d11_9 rfl (by decide) (fun q => by exfalso; rw [own_lt (by omega) (by omega)] at q; omega) (fun q23 => ?_)
      refine oGo.aload_n (pc' := 13) d11_12 rfl rfl rfl ?_
      refine oGo.iload_n (pc' := 14) d11_13 rfl rfl ?_
      refine oGo.invokevirtual (pc' := 17) (k' := 0) (n' := 0) (a := x) (argsL := [.int (Int32.ofNat n1)]) (rest := []) d11_14 rfl (w63 hG) (w64 hG) (w66 hG) (w66 hG) rfl (w65 hG) (w11 hG) (w67 hG) (by decide) pd22 rfl rfl rfl Sx.1 (c_charAt hG x t cs n1 c1 hc1 h Sx) (by simp) (by decide) (Nat.le_of_ble_eq_true rfl) rfl rfl (by decide) (by decide) ?_
      intro v24 h25 sh25 q26
      obtain ⟨rfl, ee⟩ := q26
      obtain rfl := ee.symm
      refine ⟨_, fun _ hx => Or.inl hx, ?_⟩
      show oGo l Z a0 EL True pP eE sS mM _ bB tT cC _ _ _ _ _ _ _ _ [] h 0 0 17 #[.val (.ref x), .val (.int (Int32.ofNat n1)), .val (.int (Int32.ofNat cs.length))] [.int c1]
      refine oGo.invokestatic (pc' := 20) (k' := 0) (n' := 0) (argsL := [.int c1]) (rest := []) d11_17 rfl (w85 hG) (w86 hG) (w40 hG) (w87 hG) (by decide) pd17 rfl rfl rfl (c_isOW hG c1 h) (by simp) (by decide) (Nat.le_of_ble_eq_true rfl) rfl rfl (by decide) (by decide) ?_
      intro v27 h28 sh28 q29
      obtain ⟨rfl, ee⟩ := q29
      obtain rfl := ee.symm
      refine ⟨_, fun _ hx => Or.inl hx, ?_⟩
      show oGo l Z a0 EL True pP eE sS mM _ bB tT cC _ _ _ _ _ _ _ _ [] h 0 0 20 #[.val (.ref x), .val (.int (Int32.ofNat n1)), .val (.int (Int32.ofNat cs.length))] [.int (if isW c1 then 1 else 0)]
      rw [if_neg hw1]
      refine oGo.if_eq (pc1 := 23) (pc2 := 29) d11_20 rfl (by decide) (fun q30 => ?_) (fun q => by first | exact absurd q (by decide) | exact absurd (by decide) q)
      have e := loop2 (cs.length - n2) (by omega)
      rw [show n2 + (cs.length - n2) = cs.length by omega] at e
      exact e
    | succ r ih =>
      intro i hi
      obtain ⟨c, hc, hw⟩ := hpre i (by omega)
      refine oGo.iload_n (pc' := 8) d11_7 rfl rfl ?_
      refine oGo.iload_n (pc' := 9) d11_8 rfl rfl ?_
      refine oGo.icmp_ge (pc1 := 12) (pc2 := 29) d11_9 rfl (by decide) (fun q => by exfalso; rw [own_lt (by omega) (by omega)] at q; omega) (fun q31 => ?_)
      refine oGo.aload_n (pc' := 13) d11_12 rfl rfl rfl ?_
      refine oGo.iload_n (pc' := 14) d11_13 rfl rfl ?_
      refine oGo.invokevirtual (pc' := 17) (k' := 0) (n' := 0) (a := x) (argsL := [.int (Int32.ofNat i)]) (rest := []) d11_14 rfl (w63 hG) (w64 hG) (w66 hG) (w66 hG) rfl (w65 hG) (w11 hG) (w67 hG) (by decide) pd22 rfl rfl rfl Sx.1 (c_charAt hG x t cs i c hc h Sx) (by simp) (by decide) (Nat.le_of_ble_eq_true rfl) rfl rfl (by decide) (by decide) ?_
      intro v32 h33 sh33 q34
      obtain ⟨rfl, ee⟩ := q34
      obtain rfl := ee.symm
      refine ⟨_, fun _ hx => Or.inl hx, ?_⟩
      show oGo l Z a0 EL True pP eE sS mM _ bB tT cC _ _ _ _ _ _ _ _ [] h 0 0 17 #[.val (.ref x), .val (.int (Int32.ofNat i)), .val (.int (Int32.ofNat cs.length))] [.int c]
      refine oGo.invokestatic (pc' := 20) (k' := 0) (n' := 0) (argsL := [.int c]) (rest := []) d11_17 rfl (w85 hG) (w86 hG) (w40 hG) (w87 hG) (by decide) pd17 rfl rfl rfl (c_isOW hG c h) (by simp) (by decide) (Nat.le_of_ble_eq_true rfl) rfl rfl (by decide) (by decide) ?_
      intro v35 h36 sh36 q37
      obtain ⟨rfl, ee⟩ := q37
      obtain rfl := ee.symm
      refine ⟨_, fun _ hx => Or.inl hx, ?_⟩
      show oGo l Z a0 EL True pP eE sS mM _ bB tT cC _ _ _ _ _ _ _ _ [] h 0 0 20 #[.val (.ref x), .val (.int (Int32.ofNat i)), .val (.int (Int32.ofNat cs.length))] [.int (if isW c then 1 else 0)]
      rw [if_pos hw]
      refine oGo.if_eq (pc1 := 23) (pc2 := 29) d11_20 rfl (by decide) (fun q => by first | exact absurd q (by decide) | exact absurd (by decide) q) (fun q38 => ?_)
      refine oGo.iinc (pc' := 26) (y := 1) (Ls' := #[.val (.ref x), .val (.int ((Int32.ofNat i) + (1 : Int32))), .val (.int (Int32.ofNat cs.length))]) d11_23 rfl rfl (by decide) rfl ?_
      refine oGo.goto (pc' := 7) d11_26 (by decide) ?_
      rw [own_succ]
      exact ih (i + 1) (by omega)
  exact loop1 n1 0 rfl
set_option maxRecDepth 65536 in
set_option maxHeartbeats 4000000 in
theorem c_mism {l : Launch} {Z : State} {a0 : Array Value} {EL : List (String × Nat)} (hG : oG a0 Z EL) (a b : Nat) (us vs : List Value) (x y : Int32) (hx : us[0]? = some (.int x)) (hy : vs[0]? = some (.int y)) (h : Heap) (A : oArr Z h a .byte us) (B : oArr Z h b .byte vs) :
    oCtr [] l Z a0 EL True (⟨"jdk/internal/util/ArraysSupport", "mismatch", "([BI[BII)I"⟩ : MethodName) jdk_48_method_14_code 8 (some .int) ({ frames := 0, cells := 0, slots := 0, locals := 0 } : Room) #[.ref a, .int (0 : Int32), .ref b, .int (0 : Int32), .int (1 : Int32)] [] h (fun v h' => v = some (.int (if x = y then -1 else 0)) ∧ h' = h) oNo := by
  refine oCtr.enter (Ls := #[.val (.ref a), .val (.int (0 : Int32)), .val (.ref b), .val (.int (0 : Int32)), .val (.int (1 : Int32)), .unset, .unset, .unset]) (plainFor_of_name pn11) hG.2.1 (fun m => by first | (simp [entryFrame, mkF, argsToLocals, Value.category]; done) | rfl) ?_
  intro pP eE sS mM bB tT cC
  refine oGo.iconst (pc' := 1) (v := 0) d31_0 rfl (by decide) ?_
  refine oGo.istore (pc' := 3) (Ls' := #[.val (.ref a), .val (.int (0 : Int32)), .val (.ref b), .val (.int (0 : Int32)), .val (.int (1 : Int32)), .val (.int (0 : Int32)), .unset, .unset]) d31_1 rfl rfl ?_
  refine oGo.iload (pc' := 5) d31_3 rfl rfl ?_
  refine oGo.bipush (pc' := 7) (v := 7) d31_5 rfl (by decide) ?_
  refine oGo.icmp_le (pc1 := 10) (pc2 := 70) d31_7 rfl (by decide) (fun q1 => ?_) (fun q => by first | exact absurd q (by decide) | exact absurd (by decide) q)
  refine oGo.iload (pc' := 72) d31_70 rfl rfl ?_
  refine oGo.iload (pc' := 74) d31_72 rfl rfl ?_
  refine oGo.icmp_ge (pc1 := 77) (pc2 := 101) d31_74 rfl (by decide) (fun q => by first | exact absurd q (by decide) | exact absurd (by decide) q) (fun q2 => ?_)
  refine oGo.aload_n (pc' := 78) d31_77 rfl rfl rfl ?_
  refine oGo.iload_n (pc' := 79) d31_78 rfl rfl ?_
  refine oGo.iload (pc' := 81) d31_79 rfl rfl ?_
  refine oGo.iadd (pc' := 82) d31_81 rfl ?_
  rw [show (0 : Int32) + (0 : Int32) = (0 : Int32) from by decide]
  refine oGo.baload (pc' := 83) (i := 0) d31_82 rfl A rfl (v := .int x) hx ?_
  refine oGo.aload_n (pc' := 84) d31_83 rfl rfl rfl ?_
  refine oGo.iload_n (pc' := 85) d31_84 rfl rfl ?_
  refine oGo.iload (pc' := 87) d31_85 rfl rfl ?_
  refine oGo.iadd (pc' := 88) d31_87 rfl ?_
  rw [show (0 : Int32) + (0 : Int32) = (0 : Int32) from by decide]
  refine oGo.baload (pc' := 89) (i := 0) d31_88 rfl B rfl (v := .int y) hy ?_
  refine oGo.icmp_eq (pc1 := 92) (pc2 := 95) d31_89 rfl (by decide) (fun q1 => ?_) (fun q1 => ?_)
  · refine oGo.iinc (pc' := 98) (y := 1) (Ls' := #[.val (.ref a), .val (.int (0 : Int32)), .val (.ref b), .val (.int (0 : Int32)), .val (.int (1 : Int32)), .val (.int ((0 : Int32) + (1 : Int32))), .unset, .unset]) d31_95 rfl rfl (by decide) rfl ?_
    rw [show (0 : Int32) + (1 : Int32) = (1 : Int32) from by decide]
    refine oGo.goto (pc' := 70) d31_98 (by decide) ?_
    refine oGo.iload (pc' := 72) d31_70 rfl rfl ?_
    refine oGo.iload (pc' := 74) d31_72 rfl rfl ?_
    refine oGo.icmp_ge (pc1 := 77) (pc2 := 101) d31_74 rfl (by decide) (fun q3 => ?_) (fun q => by first | exact absurd q (by decide) | exact absurd (by decide) q)
    refine oGo.iconst (pc' := 102) (v := -1) d31_101 rfl (by decide) ?_
    exact oGo.ireturn d31_102 rfl (by decide) (by decide) ⟨by rw [if_pos q1], rfl⟩ (fun _ q => q.elim)
  · refine oGo.iload (pc' := 94) d31_92 rfl rfl ?_
    exact oGo.ireturn d31_94 rfl (by decide) (by decide) ⟨by rw [if_neg q1], rfl⟩ (fun _ q => q.elim)
set_option maxRecDepth 65536 in
set_option maxHeartbeats 4000000 in
theorem c_sw2 {l : Launch} {Z : State} {a0 : Array Value} {EL : List (String × Nat)} (hG : oG a0 Z EL) (x t y u : Nat) (cs : List Int32) (c : Int32) (hc : cs[0]? = some c) (h : Heap) (Sx : oS Z h x t cs) (Sy : oS Z h y u [34]) :
    oCtr [] l Z a0 EL True (⟨"java/lang/String", "startsWith", "(Ljava/lang/String;I)Z"⟩ : MethodName) jdk_42_method_75_code 8 (some .boolean) ({ frames := 2, cells := 0, slots := 0, locals := 27 } : Room) #[.ref x, .ref y, .int (0 : Int32)] [] h (fun v h' => v = some (.int (if c = 34 then 1 else 0)) ∧ h' = h) oNo := by
  have hl : 0 < cs.length := (List.getElem?_eq_some_iff.mp hc).1
  have hb31 := Sx.len
  have hcc := Sx.2.2.2.2 c (List.mem_of_getElem? hc)
  refine oCtr.enter (Ls := #[.val (.ref x), .val (.ref y), .val (.int (0 : Int32)), .unset, .unset, .unset, .unset, .unset]) (plainFor_of_name pn1) hG.2.1 (fun m => by first | (simp [entryFrame, mkF, argsToLocals, Value.category]; done) | rfl) ?_
  intro pP eE sS mM bB tT cC
  refine oGo.iload_n (pc' := 1) d30_0 rfl rfl ?_
  refine oGo.if_lt (pc1 := 4) (pc2 := 17) d30_1 rfl (by decide) (fun q => by first | exact absurd q (by decide) | exact absurd (by decide) q) (fun q1 => ?_)
  refine oGo.iload_n (pc' := 5) d30_4 rfl rfl ?_
  refine oGo.aload_n (pc' := 6) d30_5 rfl rfl rfl ?_
  refine oGo.invokevirtual (pc' := 9) (k' := 0) (n' := 0) (a := x) (argsL := []) (rest := [.int (0 : Int32)]) d30_6 rfl (w93 hG) (w54 hG) (w56 hG) (w56 hG) rfl (w55 hG) (w11 hG) (w57 hG) (by decide) pd13 rfl rfl rfl Sx.1 (c_length hG x t cs h Sx) (by simp) (by decide) (Nat.le_of_ble_eq_true rfl) rfl rfl (by decide) (by decide) ?_
  intro v2 h3 sh3 q4
  obtain ⟨rfl, ee⟩ := q4
  obtain rfl := ee.symm
  refine ⟨_, fun _ hx => Or.inl hx, ?_⟩
  show oGo l Z a0 EL True pP eE sS mM _ bB tT cC _ _ _ _ _ _ _ _ [] h 0 0 9 #[.val (.ref x), .val (.ref y), .val (.int (0 : Int32)), .unset, .unset, .unset, .unset, .unset] [.int (Int32.ofNat cs.length), .int (0 : Int32)]
  refine oGo.aload_n (pc' := 10) d30_9 rfl rfl rfl ?_
  refine oGo.invokevirtual (pc' := 13) (k' := 0) (n' := 0) (a := y) (argsL := []) (rest := [.int (Int32.ofNat cs.length), .int (0 : Int32)]) d30_10 rfl (w93 hG) (w54 hG) (w56 hG) (w56 hG) rfl (w55 hG) (w11 hG) (w57 hG) (by decide) pd13 rfl rfl rfl Sy.1 (c_length hG y u [34] h Sy) (by simp) (by decide) (Nat.le_of_ble_eq_true rfl) rfl rfl (by decide) (by decide) ?_
  intro v5 h6 sh6 q7
  obtain ⟨rfl, ee⟩ := q7
  obtain rfl := ee.symm
  refine ⟨_, fun _ hx => Or.inl hx, ?_⟩
  show oGo l Z a0 EL True pP eE sS mM _ bB tT cC _ _ _ _ _ _ _ _ [] h 0 0 13 #[.val (.ref x), .val (.ref y), .val (.int (0 : Int32)), .unset, .unset, .unset, .unset, .unset] [.int (1 : Int32), .int (Int32.ofNat cs.length), .int (0 : Int32)]
  refine oGo.isub (pc' := 14) d30_13 rfl ?_
  rw [own_sub1 (i := cs.length) (by omega) (by omega)]
  refine oGo.icmp_le (pc1 := 17) (pc2 := 19) d30_14 rfl (by decide) (fun q8 => ?_) (fun q => absurd q (own_nn (by omega)))
  refine oGo.aload_n (pc' := 20) d30_19 rfl rfl rfl ?_
  refine oGo.getfield (pc' := 23) d30_20 rfl (w36 hG) Via.refl Sx.2.1 ?_
  refine oGo.astore_n (pc' := 24) (Ls' := #[.val (.ref x), .val (.ref y), .val (.int (0 : Int32)), .val (.ref t), .unset, .unset, .unset, .unset]) d30_23 rfl rfl rfl ?_
  refine oGo.aload_n (pc' := 25) d30_24 rfl rfl rfl ?_
  refine oGo.getfield (pc' := 28) d30_25 rfl (w36 hG) Via.refl Sy.2.1 ?_
  refine oGo.astore (pc' := 30) (Ls' := #[.val (.ref x), .val (.ref y), .val (.int (0 : Int32)), .val (.ref t), .val (.ref u), .unset, .unset, .unset]) d30_28 rfl rfl rfl ?_
  refine oGo.iconst (pc' := 31) (v := 0) d30_30 rfl (by decide) ?_
  refine oGo.istore (pc' := 33) (Ls' := #[.val (.ref x), .val (.ref y), .val (.int (0 : Int32)), .val (.ref t), .val (.ref u), .val (.int (0 : Int32)), .unset, .unset]) d30_31 rfl rfl ?_
  refine oGo.aload (pc' := 35) d30_33 rfl rfl rfl ?_
  refine oGo.arraylength (pc' := 36) (z := (1 : Int32)) d30_35 rfl Sy.2.2.2.1 (by decide) ?_
  refine oGo.istore (pc' := 38) (Ls' := #[.val (.ref x), .val (.ref y), .val (.int (0 : Int32)), .val (.ref t), .val (.ref u), .val (.int (0 : Int32)), .val (.int (1 : Int32)), .unset]) d30_36 rfl rfl ?_
  refine oGo.aload_n (pc' := 39) d30_38 rfl rfl rfl ?_
  refine oGo.invokevirtual (pc' := 42) (k' := 0) (n' := 0) (a := x) (argsL := []) (rest := []) d30_39 rfl (w58 hG) (w59 hG) (w61 hG) (w61 hG) rfl (w60 hG) (w11 hG) (w62 hG) (by decide) pd4 rfl rfl rfl Sx.1 (c_coder hG x 0 (Or.inl rfl) h Sx.2.2.1) (by simp) (by decide) (Nat.le_of_ble_eq_true rfl) rfl rfl (by decide) (by decide) ?_
  intro v9 h10 sh10 q11
  obtain ⟨rfl, ee⟩ := q11
  obtain rfl := ee.symm
  refine ⟨_, fun _ hx => Or.inl hx, ?_⟩
  show oGo l Z a0 EL True pP eE sS mM _ bB tT cC _ _ _ _ _ _ _ _ [] h 0 0 42 #[.val (.ref x), .val (.ref y), .val (.int (0 : Int32)), .val (.ref t), .val (.ref u), .val (.int (0 : Int32)), .val (.int (1 : Int32)), .unset] [.int (0 : Int32)]
  refine oGo.istore (pc' := 44) (Ls' := #[.val (.ref x), .val (.ref y), .val (.int (0 : Int32)), .val (.ref t), .val (.ref u), .val (.int (0 : Int32)), .val (.int (1 : Int32)), .val (.int (0 : Int32))]) d30_42 rfl rfl ?_
  refine oGo.iload (pc' := 46) d30_44 rfl rfl ?_
  refine oGo.aload_n (pc' := 47) d30_46 rfl rfl rfl ?_
  refine oGo.invokevirtual (pc' := 50) (k' := 0) (n' := 0) (a := y) (argsL := []) (rest := [.int (0 : Int32)]) d30_47 rfl (w58 hG) (w59 hG) (w61 hG) (w61 hG) rfl (w60 hG) (w11 hG) (w62 hG) (by decide) pd4 rfl rfl rfl Sy.1 (c_coder hG y 0 (Or.inl rfl) h Sy.2.2.1) (by simp) (by decide) (Nat.le_of_ble_eq_true rfl) rfl rfl (by decide) (by decide) ?_
  intro v12 h13 sh13 q14
  obtain ⟨rfl, ee⟩ := q14
  obtain rfl := ee.symm
  refine ⟨_, fun _ hx => Or.inl hx, ?_⟩
  show oGo l Z a0 EL True pP eE sS mM _ bB tT cC _ _ _ _ _ _ _ _ [] h 0 0 50 #[.val (.ref x), .val (.ref y), .val (.int (0 : Int32)), .val (.ref t), .val (.ref u), .val (.int (0 : Int32)), .val (.int (1 : Int32)), .val (.int (0 : Int32))] [.int (0 : Int32), .int (0 : Int32)]
  refine oGo.icmp_ne (pc1 := 53) (pc2 := 82) d30_50 rfl (by decide) (fun q => by first | exact absurd q (by decide) | exact absurd (by decide) q) (fun q15 => ?_)
  refine oGo.iload (pc' := 55) d30_53 rfl rfl ?_
  refine oGo.iconst (pc' := 56) (v := 1) d30_55 rfl (by decide) ?_
  refine oGo.icmp_ne (pc1 := 59) (pc2 := 63) d30_56 rfl (by decide) (fun q16 => ?_) (fun q => by first | exact absurd q (by decide) | exact absurd (by decide) q)
  refine oGo.aload_n (pc' := 64) d30_63 rfl rfl rfl ?_
  refine oGo.iload_n (pc' := 65) d30_64 rfl rfl ?_
  refine oGo.aload (pc' := 67) d30_65 rfl rfl rfl ?_
  refine oGo.iconst (pc' := 68) (v := 0) d30_67 rfl (by decide) ?_
  refine oGo.iload (pc' := 70) d30_68 rfl rfl ?_
  refine oGo.invokestatic (pc' := 73) (k' := 0) (n' := 0) (argsL := [.ref t, .int (0 : Int32), .ref u, .int (0 : Int32), .int (1 : Int32)]) (rest := []) d30_70 rfl (w136 hG) (w137 hG) (w138 hG) (w139 hG) (by decide) pd24 rfl rfl rfl (c_mism hG t u _ _ (lo8 c) (lo8 34) (by rw [List.getElem?_map, List.getElem?_map, hc]; rfl) (by rfl) h Sx.2.2.2.1 Sy.2.2.2.1) (by simp) (by decide) (Nat.le_of_ble_eq_true rfl) rfl rfl (by decide) (by decide) ?_
  intro v17 h18 sh18 q19
  obtain ⟨rfl, ee⟩ := q19
  obtain rfl := ee.symm
  refine ⟨_, fun _ hx => Or.inl hx, ?_⟩
  show oGo l Z a0 EL True pP eE sS mM _ bB tT cC _ _ _ _ _ _ _ _ [] h 0 0 73 #[.val (.ref x), .val (.ref y), .val (.int (0 : Int32)), .val (.ref t), .val (.ref u), .val (.int (0 : Int32)), .val (.int (1 : Int32)), .val (.int (0 : Int32))] [.int (if lo8 c = lo8 34 then -1 else 0)]
  by_cases hq : c = 34
  · rw [if_pos (show lo8 c = lo8 34 by rw [hq])]
    refine oGo.if_ge (pc1 := 76) (pc2 := 80) d30_73 rfl (by decide) (fun q => by first | exact absurd q (by decide) | exact absurd (by decide) q) (fun q20 => ?_)
    refine oGo.iconst (pc' := 77) (v := 1) d30_76 rfl (by decide) ?_
    refine oGo.goto (pc' := 81) d30_77 (by decide) ?_
    exact oGo.nreturn d30_81 rfl (by simp) rfl (by decide) (by decide) ⟨by rw [if_pos hq]; rfl, rfl⟩ (fun _ q => q.elim)
  · rw [if_neg (lo8_ne hcc (by decide) hq)]
    refine oGo.if_ge (pc1 := 76) (pc2 := 80) d30_73 rfl (by decide) (fun q21 => ?_) (fun q => by first | exact absurd q (by decide) | exact absurd (by decide) q)
    refine oGo.iconst (pc' := 81) (v := 0) d30_80 rfl (by decide) ?_
    exact oGo.nreturn d30_81 rfl (by simp) rfl (by decide) (by decide) ⟨by rw [if_neg hq]; rfl, rfl⟩ (fun _ q => q.elim)
set_option maxRecDepth 65536 in
set_option maxHeartbeats 4000000 in
theorem c_sw1 {l : Launch} {Z : State} {a0 : Array Value} {EL : List (String × Nat)} (hG : oG a0 Z EL) (x t y u : Nat) (cs : List Int32) (c : Int32) (hc : cs[0]? = some c) (h : Heap) (Sx : oS Z h x t cs) (Sy : oS Z h y u [34]) :
    oCtr [] l Z a0 EL True (⟨"java/lang/String", "startsWith", "(Ljava/lang/String;)Z"⟩ : MethodName) jdk_42_method_76_code 2 (some .boolean) ({ frames := 3, cells := 0, slots := 0, locals := 46 } : Room) #[.ref x, .ref y] [] h (fun v h' => v = some (.int (if c = 34 then 1 else 0)) ∧ h' = h) oNo := by
  refine oCtr.enter (Ls := #[.val (.ref x), .val (.ref y)]) (plainFor_of_name pn1) hG.2.1 (fun m => by first | (simp [entryFrame, mkF, argsToLocals, Value.category]; done) | rfl) ?_
  intro pP eE sS mM bB tT cC
  refine oGo.aload_n (pc' := 1) d29_0 rfl rfl rfl ?_
  refine oGo.aload_n (pc' := 2) d29_1 rfl rfl rfl ?_
  refine oGo.iconst (pc' := 3) (v := 0) d29_2 rfl (by decide) ?_
  refine oGo.invokevirtual (pc' := 6) (k' := 0) (n' := 0) (a := x) (argsL := [.ref y, .int (0 : Int32)]) (rest := []) d29_3 rfl (w131 hG) (w132 hG) (w134 hG) (w134 hG) rfl (w133 hG) (w11 hG) (w135 hG) (by decide) pd25 rfl rfl rfl Sx.1 (c_sw2 hG x t y u cs c hc h Sx Sy) (by simp) (by decide) (Nat.le_of_ble_eq_true rfl) rfl rfl (by decide) (by decide) ?_
  intro v1 h2 sh2 q3
  obtain ⟨rfl, ee⟩ := q3
  obtain rfl := ee.symm
  refine ⟨_, fun _ hx => Or.inl hx, ?_⟩
  show oGo l Z a0 EL True pP eE sS mM _ bB tT cC _ _ _ _ _ _ _ _ [] h 0 0 6 #[.val (.ref x), .val (.ref y)] [.int (if c = 34 then 1 else 0)]
  exact oGo.nreturn d29_6 rfl (by simp) (by split <;> decide) (by decide) (by decide) ⟨rfl, rfl⟩ (fun _ q => q.elim)
set_option maxRecDepth 65536 in
set_option maxHeartbeats 4000000 in
theorem c_canI {l : Launch} {Z : State} {a0 : Array Value} {EL : List (String × Nat)} (hG : oG a0 Z EL) (c : Int32) (hc : ¬ c < 0 ∧ ¬ 255 < c) (h : Heap)  :
    oCtr [] l Z a0 EL True (⟨"java/lang/StringLatin1", "canEncode", "(I)Z"⟩ : MethodName) jdk_43_method_4_code 1 (some .boolean) ({ frames := 0, cells := 0, slots := 0, locals := 0 } : Room) #[.int c] [] h (fun v h' => v = some (.int 1) ∧ h' = h) oNo := by
  refine oCtr.enter (Ls := #[.val (.int c)]) (plainFor_of_name pn4) hG.2.1 (fun m => by first | (simp [entryFrame, mkF, argsToLocals, Value.category]; done) | rfl) ?_
  intro pP eE sS mM bB tT cC
  refine oGo.iload_n (pc' := 1) d35_0 rfl rfl ?_
  refine oGo.if_lt (pc1 := 4) (pc2 := 15) d35_1 rfl (by decide) (fun q => absurd q hc.1) (fun q1 => ?_)
  refine oGo.iload_n (pc' := 5) d35_4 rfl rfl ?_
  refine oGo.sipush (pc' := 8) (v := 255) d35_5 rfl (by decide) ?_
  refine oGo.icmp_gt (pc1 := 11) (pc2 := 15) d35_8 rfl (by decide) (fun q => absurd q hc.2) (fun q2 => ?_)
  refine oGo.iconst (pc' := 12) (v := 1) d35_11 rfl (by decide) ?_
  refine oGo.goto (pc' := 16) d35_12 (by decide) ?_
  exact oGo.nreturn d35_16 rfl (by simp) rfl (by decide) (by decide) ⟨rfl, rfl⟩ (fun _ q => q.elim)
set_option maxRecDepth 65536 in
set_option maxHeartbeats 4000000 in
theorem c_ioc {l : Launch} {Z : State} {a0 : Array Value} {EL : List (String × Nat)} (hG : oG a0 Z EL) (t : Nat) (cs : List Int32) (ch : Int32) (hch : ¬ ch < 0 ∧ ¬ 255 < ch) (hno : ∀ c ∈ cs, c ≠ ch) (h0 : 0 < cs.length) (hcs : ∀ c ∈ cs, ¬ c < 0 ∧ ¬ 255 < c) (h : Heap) (B : oArr Z h t .byte (oI (cs.map lo8))) :
    oCtr [] l Z a0 EL True (⟨"java/lang/StringLatin1", "indexOfChar", "([BIII)I"⟩ : MethodName) jdk_43_method_23_code 6 (some .int) ({ frames := 0, cells := 0, slots := 0, locals := 0 } : Room) #[.ref t, .int ch, .int (0 : Int32), .int (Int32.ofNat cs.length)] [] h (fun v h' => v = some (.int (-1)) ∧ h' = h) oNo := by
  have hb31 : cs.length < 2147483648 := by obtain ⟨_, _, _, q, _⟩ := B; simpa using q
  refine oCtr.enter (Ls := #[.val (.ref t), .val (.int ch), .val (.int (0 : Int32)), .val (.int (Int32.ofNat cs.length)), .unset, .unset]) (plainFor_of_name pn4) hG.2.1 (fun m => by first | (simp [entryFrame, mkF, argsToLocals, Value.category]; done) | rfl) ?_
  intro pP eE sS mM bB tT cC
  refine oGo.iload_n (pc' := 1) d37_0 rfl rfl ?_
  refine oGo.i2b (pc' := 2) d37_1 rfl ?_
  refine oGo.istore (pc' := 4) (Ls' := #[.val (.ref t), .val (.int ch), .val (.int (0 : Int32)), .val (.int (Int32.ofNat cs.length)), .val (.int (ch.toInt8.toInt32)), .unset]) d37_2 rfl rfl ?_
  refine oGo.iload_n (pc' := 5) d37_4 rfl rfl ?_
  refine oGo.istore (pc' := 7) (Ls' := #[.val (.ref t), .val (.int ch), .val (.int (0 : Int32)), .val (.int (Int32.ofNat cs.length)), .val (.int (ch.toInt8.toInt32)), .val (.int (0 : Int32))]) d37_5 rfl rfl ?_
  have loop : ∀ r i : Nat, r + i = cs.length → oGo l Z a0 EL True pP eE sS mM #[.ref t, .int ch, .int (0 : Int32), .int (Int32.ofNat cs.length)] bB tT cC ({ frames := 0, cells := 0, slots := 0, locals := 0 } : Room) "java/lang/StringLatin1" jdk_43_method_23_code 6 (some .int) "indexOfChar" (fun v h' => v = some (.int (-1)) ∧ h' = h) oNo [] h 0 0 7 #[.val (.ref t), .val (.int ch), .val (.int (0 : Int32)), .val (.int (Int32.ofNat cs.length)), .val (.int (lo8 ch)), .val (.int (Int32.ofNat i))] [] := by
    intro r
    induction r with
    | zero =>
      intro i hr
      obtain rfl : i = cs.length := by omega
      refine oGo.iload (pc' := 9) d37_7 rfl rfl ?_
      refine oGo.iload_n (pc' := 10) d37_9 rfl rfl ?_
      refine oGo.icmp_ge (pc1 := 13) (pc2 := 31) d37_10 rfl (by decide) (fun q1 => ?_) (fun q => absurd q (by rw [own_lt hb31 hb31]; omega))
      refine oGo.iconst (pc' := 32) (v := -1) d37_31 rfl (by decide) ?_
      exact oGo.ireturn d37_32 rfl (by decide) (by decide) ⟨rfl, rfl⟩ (fun _ q => q.elim)
    | succ r ih =>
      intro i hr
      have hi : i < cs.length := by omega
      obtain ⟨c, hci⟩ : ∃ c, cs[i]? = some c := ⟨_, List.getElem?_eq_getElem hi⟩
      have hm := List.mem_of_getElem? hci
      refine oGo.iload (pc' := 9) d37_7 rfl rfl ?_
      refine oGo.iload_n (pc' := 10) d37_9 rfl rfl ?_
      refine oGo.icmp_ge (pc1 := 13) (pc2 := 31) d37_10 rfl (by decide) (fun q => absurd ((own_lt (by omega) hb31).mpr hi) q) (fun q2 => ?_)
      refine oGo.aload_n (pc' := 14) d37_13 rfl rfl rfl ?_
      refine oGo.iload (pc' := 16) d37_14 rfl rfl ?_
      refine oGo.baload (pc' := 17) (i := i) d37_16 rfl B rfl (v := .int (lo8 c)) (by simp [hci]) ?_
      refine oGo.iload (pc' := 19) d37_17 rfl rfl ?_
      refine oGo.icmp_ne (pc1 := 22) (pc2 := 25) d37_19 rfl (by decide) (fun q3 => ?_) (fun q => absurd q (lo8_ne (hcs c hm) hch (hno c hm)))
      refine oGo.iinc (pc' := 28) (y := 1) (Ls' := #[.val (.ref t), .val (.int ch), .val (.int (0 : Int32)), .val (.int (Int32.ofNat cs.length)), .val (.int (lo8 ch)), .val (.int ((Int32.ofNat i) + (1 : Int32)))]) d37_25 rfl rfl (by decide) rfl ?_
      refine oGo.goto (pc' := 7) d37_28 (by decide) ?_
      rw [own_succ]
      exact ih (i + 1) (by omega)
  exact loop cs.length 0 rfl
set_option maxRecDepth 65536 in
set_option maxHeartbeats 4000000 in
theorem c_lio {l : Launch} {Z : State} {a0 : Array Value} {EL : List (String × Nat)} (hG : oG a0 Z EL) (t : Nat) (cs : List Int32) (ch : Int32) (hch : ¬ ch < 0 ∧ ¬ 255 < ch) (hno : ∀ c ∈ cs, c ≠ ch) (h0 : 0 < cs.length) (hcs : ∀ c ∈ cs, ¬ c < 0 ∧ ¬ 255 < c) (h : Heap) (B : oArr Z h t .byte (oI (cs.map lo8))) :
    oCtr [] l Z a0 EL True (⟨"java/lang/StringLatin1", "indexOf", "([BIII)I"⟩ : MethodName) jdk_43_method_22_code 4 (some .int) ({ frames := 1, cells := 0, slots := 0, locals := 17 } : Room) #[.ref t, .int ch, .int (0 : Int32), .int (Int32.ofNat cs.length)] [] h (fun v h' => v = some (.int (-1)) ∧ h' = h) oNo := by
  have hb31 : cs.length < 2147483648 := by obtain ⟨_, _, _, q, _⟩ := B; simpa using q
  refine oCtr.enter (Ls := #[.val (.ref t), .val (.int ch), .val (.int (0 : Int32)), .val (.int (Int32.ofNat cs.length))]) (plainFor_of_name pn4) hG.2.1 (fun m => by first | (simp [entryFrame, mkF, argsToLocals, Value.category]; done) | rfl) ?_
  intro pP eE sS mM bB tT cC
  refine oGo.iload_n (pc' := 1) d34_0 rfl rfl ?_
  refine oGo.invokestatic (pc' := 4) (k' := 0) (n' := 0) (argsL := [.int ch]) (rest := []) d34_1 rfl (w153 hG) (w154 hG) (w75 hG) (w155 hG) (by decide) pd26 rfl rfl rfl (c_canI hG ch hch h) (by simp) (by decide) (Nat.le_of_ble_eq_true rfl) rfl rfl (by decide) (by decide) ?_
  intro v1 h2 sh2 q3
  obtain ⟨rfl, ee⟩ := q3
  obtain rfl := ee.symm
  refine ⟨_, fun _ hx => Or.inl hx, ?_⟩
  show oGo l Z a0 EL True pP eE sS mM _ bB tT cC _ _ _ _ _ _ _ _ [] h 0 0 4 #[.val (.ref t), .val (.int ch), .val (.int (0 : Int32)), .val (.int (Int32.ofNat cs.length))] [.int (1 : Int32)]
  refine oGo.if_ne (pc1 := 7) (pc2 := 9) d34_4 rfl (by decide) (fun q4 => ?_) (fun q => by first | exact absurd q (by decide) | exact absurd (by decide) q)
  refine oGo.iload_n (pc' := 10) d34_9 rfl rfl ?_
  refine oGo.iconst (pc' := 11) (v := 0) d34_10 rfl (by decide) ?_
  refine oGo.invokestatic (pc' := 14) (k' := 0) (n' := 0) (argsL := [.int (0 : Int32), .int (0 : Int32)]) (rest := []) d34_11 rfl (w156 hG) (w157 hG) (w116 hG) (w158 hG) (by decide) pd6 rfl rfl rfl (c_max hG 0 0 (by decide) (by decide) h) (by simp) (by decide) (Nat.le_of_ble_eq_true rfl) rfl rfl (by decide) (by decide) ?_
  intro v5 h6 sh6 q7
  obtain ⟨rfl, ee⟩ := q7
  obtain rfl := ee.symm
  refine ⟨_, fun _ hx => Or.inl hx, ?_⟩
  show oGo l Z a0 EL True pP eE sS mM _ bB tT cC _ _ _ _ _ _ _ _ [] h 0 0 14 #[.val (.ref t), .val (.int ch), .val (.int (0 : Int32)), .val (.int (Int32.ofNat cs.length))] [.int (0 : Int32)]
  refine oGo.istore_n (pc' := 15) (Ls' := #[.val (.ref t), .val (.int ch), .val (.int (0 : Int32)), .val (.int (Int32.ofNat cs.length))]) d34_14 rfl rfl ?_
  refine oGo.iload_n (pc' := 16) d34_15 rfl rfl ?_
  refine oGo.aload_n (pc' := 17) d34_16 rfl rfl rfl ?_
  refine oGo.arraylength (pc' := 18) (z := (Int32.ofNat cs.length)) d34_17 rfl B (by rw [List.length_map, List.length_map]) ?_
  refine oGo.invokestatic (pc' := 21) (k' := 0) (n' := 0) (argsL := [.int (Int32.ofNat cs.length), .int (Int32.ofNat cs.length)]) (rest := []) d34_18 rfl (w159 hG) (w115 hG) (w116 hG) (w117 hG) (by decide) pd6 rfl rfl rfl (c_min hG cs.length cs.length hb31 hb31 h) (by simp) (by decide) (Nat.le_of_ble_eq_true rfl) rfl rfl (by decide) (by decide) ?_
  intro v8 h9 sh9 q10
  obtain ⟨rfl, ee⟩ := q10
  obtain rfl := ee.symm
  refine ⟨_, fun _ hx => Or.inl hx, ?_⟩
  show oGo l Z a0 EL True pP eE sS mM _ bB tT cC _ _ _ _ _ _ _ _ [] h 0 0 21 #[.val (.ref t), .val (.int ch), .val (.int (0 : Int32)), .val (.int (Int32.ofNat cs.length))] [.int (Int32.ofNat (min cs.length cs.length))]
  rw [Nat.min_self]
  refine oGo.istore_n (pc' := 22) (Ls' := #[.val (.ref t), .val (.int ch), .val (.int (0 : Int32)), .val (.int (Int32.ofNat cs.length))]) d34_21 rfl rfl ?_
  refine oGo.iload_n (pc' := 23) d34_22 rfl rfl ?_
  refine oGo.iload_n (pc' := 24) d34_23 rfl rfl ?_
  refine oGo.icmp_lt (pc1 := 27) (pc2 := 29) d34_24 rfl (by decide) (fun q11 => ?_) (fun q => absurd ((own_lt (a := 0) (by decide) hb31).mpr h0) q)
  refine oGo.aload_n (pc' := 30) d34_29 rfl rfl rfl ?_
  refine oGo.iload_n (pc' := 31) d34_30 rfl rfl ?_
  refine oGo.iload_n (pc' := 32) d34_31 rfl rfl ?_
  refine oGo.iload_n (pc' := 33) d34_32 rfl rfl ?_
  refine oGo.invokestatic (pc' := 36) (k' := 0) (n' := 0) (argsL := [.ref t, .int ch, .int (0 : Int32), .int (Int32.ofNat cs.length)]) (rest := []) d34_33 rfl (w160 hG) (w161 hG) (w75 hG) (w162 hG) (by decide) pd27 rfl rfl rfl (c_ioc hG t cs ch hch hno h0 hcs h B) (by simp) (by decide) (Nat.le_of_ble_eq_true rfl) rfl rfl (by decide) (by decide) ?_
  intro v12 h13 sh13 q14
  obtain ⟨rfl, ee⟩ := q14
  obtain rfl := ee.symm
  refine ⟨_, fun _ hx => Or.inl hx, ?_⟩
  show oGo l Z a0 EL True pP eE sS mM _ bB tT cC _ _ _ _ _ _ _ _ [] h 0 0 36 #[.val (.ref t), .val (.int ch), .val (.int (0 : Int32)), .val (.int (Int32.ofNat cs.length))] [.int (-1 : Int32)]
  exact oGo.ireturn d34_36 rfl (by decide) (by decide) ⟨rfl, rfl⟩ (fun _ q => q.elim)
set_option maxRecDepth 65536 in
set_option maxHeartbeats 4000000 in
theorem c_io2 {l : Launch} {Z : State} {a0 : Array Value} {EL : List (String × Nat)} (hG : oG a0 Z EL) (x t : Nat) (cs : List Int32) (ch : Int32) (hch : ¬ ch < 0 ∧ ¬ 255 < ch) (hno : ∀ c ∈ cs, c ≠ ch) (h0 : 0 < cs.length) (h : Heap) (Sx : oS Z h x t cs) :
    oCtr [] l Z a0 EL True (⟨"java/lang/String", "indexOf", "(II)I"⟩ : MethodName) jdk_42_method_80_code 3 (some .int) ({ frames := 2, cells := 0, slots := 0, locals := 32 } : Room) #[.ref x, .int ch, .int (0 : Int32)] [] h (fun v h' => v = some (.int (-1)) ∧ h' = h) oNo := by
  refine oCtr.enter (Ls := #[.val (.ref x), .val (.int ch), .val (.int (0 : Int32))]) (plainFor_of_name pn1) hG.2.1 (fun m => by first | (simp [entryFrame, mkF, argsToLocals, Value.category]; done) | rfl) ?_
  intro pP eE sS mM bB tT cC
  refine oGo.aload_n (pc' := 1) d33_0 rfl rfl rfl ?_
  refine oGo.invokevirtual (pc' := 4) (k' := 0) (n' := 0) (a := x) (argsL := []) (rest := []) d33_1 rfl (w68 hG) (w69 hG) (w71 hG) (w71 hG) rfl (w70 hG) (w11 hG) (w72 hG) (by decide) pd9 rfl rfl rfl Sx.1 (c_isLatin1 hG x 0 h Sx.2.2.1) (by simp) (by decide) (Nat.le_of_ble_eq_true rfl) rfl rfl (by decide) (by decide) ?_
  intro v1 h2 sh2 q3
  obtain ⟨rfl, ee⟩ := q3
  obtain rfl := ee.symm
  refine ⟨_, fun _ hx => Or.inl hx, ?_⟩
  show oGo l Z a0 EL True pP eE sS mM _ bB tT cC _ _ _ _ _ _ _ _ [] h 0 0 4 #[.val (.ref x), .val (.int ch), .val (.int (0 : Int32))] [.int (1 : Int32)]
  refine oGo.if_eq (pc1 := 7) (pc2 := 23) d33_4 rfl (by decide) (fun q => by first | exact absurd q (by decide) | exact absurd (by decide) q) (fun q4 => ?_)
  refine oGo.aload_n (pc' := 8) d33_7 rfl rfl rfl ?_
  refine oGo.getfield (pc' := 11) d33_8 rfl (w36 hG) Via.refl Sx.2.1 ?_
  refine oGo.iload_n (pc' := 12) d33_11 rfl rfl ?_
  refine oGo.iload_n (pc' := 13) d33_12 rfl rfl ?_
  refine oGo.aload_n (pc' := 14) d33_13 rfl rfl rfl ?_
  refine oGo.invokevirtual (pc' := 17) (k' := 0) (n' := 0) (a := x) (argsL := []) (rest := [.int (0 : Int32), .int ch, .ref t]) d33_14 rfl (w93 hG) (w54 hG) (w56 hG) (w56 hG) rfl (w55 hG) (w11 hG) (w57 hG) (by decide) pd13 rfl rfl rfl Sx.1 (c_length hG x t cs h Sx) (by simp) (by decide) (Nat.le_of_ble_eq_true rfl) rfl rfl (by decide) (by decide) ?_
  intro v5 h6 sh6 q7
  obtain ⟨rfl, ee⟩ := q7
  obtain rfl := ee.symm
  refine ⟨_, fun _ hx => Or.inl hx, ?_⟩
  show oGo l Z a0 EL True pP eE sS mM _ bB tT cC _ _ _ _ _ _ _ _ [] h 0 0 17 #[.val (.ref x), .val (.int ch), .val (.int (0 : Int32))] [.int (Int32.ofNat cs.length), .int (0 : Int32), .int ch, .ref t]
  refine oGo.invokestatic (pc' := 20) (k' := 0) (n' := 0) (argsL := [.ref t, .int ch, .int (0 : Int32), .int (Int32.ofNat cs.length)]) (rest := []) d33_17 rfl (w150 hG) (w151 hG) (w75 hG) (w152 hG) (by decide) pd27 rfl rfl rfl (c_lio hG t cs ch hch hno h0 Sx.2.2.2.2 h Sx.2.2.2.1) (by simp) (by decide) (Nat.le_of_ble_eq_true rfl) rfl rfl (by decide) (by decide) ?_
  intro v8 h9 sh9 q10
  obtain ⟨rfl, ee⟩ := q10
  obtain rfl := ee.symm
  refine ⟨_, fun _ hx => Or.inl hx, ?_⟩
  show oGo l Z a0 EL True pP eE sS mM _ bB tT cC _ _ _ _ _ _ _ _ [] h 0 0 20 #[.val (.ref x), .val (.int ch), .val (.int (0 : Int32))] [.int (-1 : Int32)]
  refine oGo.goto (pc' := 36) d33_20 (by decide) ?_
  exact oGo.ireturn d33_36 rfl (by decide) (by decide) ⟨rfl, rfl⟩ (fun _ q => q.elim)
set_option maxRecDepth 65536 in
set_option maxHeartbeats 4000000 in
theorem c_io1 {l : Launch} {Z : State} {a0 : Array Value} {EL : List (String × Nat)} (hG : oG a0 Z EL) (x t : Nat) (cs : List Int32) (ch : Int32) (hch : ¬ ch < 0 ∧ ¬ 255 < ch) (hno : ∀ c ∈ cs, c ≠ ch) (h0 : 0 < cs.length) (h : Heap) (Sx : oS Z h x t cs) :
    oCtr [] l Z a0 EL True (⟨"java/lang/String", "indexOf", "(I)I"⟩ : MethodName) jdk_42_method_79_code 2 (some .int) ({ frames := 3, cells := 0, slots := 0, locals := 46 } : Room) #[.ref x, .int ch] [] h (fun v h' => v = some (.int (-1)) ∧ h' = h) oNo := by
  refine oCtr.enter (Ls := #[.val (.ref x), .val (.int ch)]) (plainFor_of_name pn1) hG.2.1 (fun m => by first | (simp [entryFrame, mkF, argsToLocals, Value.category]; done) | rfl) ?_
  intro pP eE sS mM bB tT cC
  refine oGo.aload_n (pc' := 1) d32_0 rfl rfl rfl ?_
  refine oGo.iload_n (pc' := 2) d32_1 rfl rfl ?_
  refine oGo.iconst (pc' := 3) (v := 0) d32_2 rfl (by decide) ?_
  refine oGo.invokevirtual (pc' := 6) (k' := 0) (n' := 0) (a := x) (argsL := [.int ch, .int (0 : Int32)]) (rest := []) d32_3 rfl (w145 hG) (w146 hG) (w148 hG) (w148 hG) rfl (w147 hG) (w11 hG) (w149 hG) (by decide) pd6 rfl rfl rfl Sx.1 (c_io2 hG x t cs ch hch hno h0 h Sx) (by simp) (by decide) (Nat.le_of_ble_eq_true rfl) rfl rfl (by decide) (by decide) ?_
  intro v1 h2 sh2 q3
  obtain ⟨rfl, ee⟩ := q3
  obtain rfl := ee.symm
  refine ⟨_, fun _ hx => Or.inl hx, ?_⟩
  show oGo l Z a0 EL True pP eE sS mM _ bB tT cC _ _ _ _ _ _ _ _ [] h 0 0 6 #[.val (.ref x), .val (.int ch)] [.int (-1 : Int32)]
  exact oGo.ireturn d32_6 rfl (by decide) (by decide) ⟨rfl, rfl⟩ (fun _ q => q.elim)
set_option maxRecDepth 65536 in
set_option maxHeartbeats 4000000 in
theorem c_empty {l : Launch} {Z : State} {a0 : Array Value} {EL : List (String × Nat)} (hG : oG a0 Z EL) (x t : Nat) (cs : List Int32) (h0 : 0 < cs.length) (h : Heap) (Sx : oS Z h x t cs) :
    oCtr [] l Z a0 EL True (⟨"java/lang/String", "isEmpty", "()Z"⟩ : MethodName) jdk_42_method_55_code 1 (some .boolean) ({ frames := 0, cells := 0, slots := 0, locals := 0 } : Room) #[.ref x] [] h (fun v h' => v = some (.int 0) ∧ h' = h) oNo := by
  have hb31 := Sx.len
  refine oCtr.enter (Ls := #[.val (.ref x)]) (plainFor_of_name pn1) hG.2.1 (fun m => by first | (simp [entryFrame, mkF, argsToLocals, Value.category]; done) | rfl) ?_
  intro pP eE sS mM bB tT cC
  refine oGo.aload_n (pc' := 1) d40_0 rfl rfl rfl ?_
  refine oGo.getfield (pc' := 4) d40_1 rfl (w36 hG) Via.refl Sx.2.1 ?_
  refine oGo.arraylength (pc' := 5) (z := (Int32.ofNat cs.length)) d40_4 rfl Sx.2.2.2.1 (by rw [List.length_map, List.length_map]) ?_
  refine oGo.if_ne (pc1 := 8) (pc2 := 12) d40_5 rfl (by decide) (fun q1 => ?_) (fun q => absurd ((own_eq (b := 0) hb31 (by decide)).mp q) (by omega))
  refine oGo.iconst (pc' := 13) (v := 0) d40_12 rfl (by decide) ?_
  exact oGo.nreturn d40_13 rfl (by simp) rfl (by decide) (by decide) ⟨rfl, rfl⟩ (fun _ q => q.elim)
set_option maxRecDepth 65536 in
set_option maxHeartbeats 4000000 in
theorem c_ik {l : Launch} {Z : State} {a0 : Array Value} {EL : List (String × Nat)} (hG : oG a0 Z EL) (key x t : Nat) (ks : List Int32) (h0 : 0 < ks.length) (h3 : ks.length ≤ 3) (hpr : ∀ c ∈ ks, ¬ c < 32 ∧ ¬ 126 < c) (h : Heap) (E : Exa Z h key "com/example/gated_claim/gatedclaim/idempotency/IdempotencyKey") (F1 : Fld Z h key "com/example/gated_claim/gatedclaim/idempotency/IdempotencyKey" "value" "Ljava/lang/String;" .null) (Sx : oS Z h x t ks) :
    oCtr [] l Z a0 EL True (⟨"com/example/gated_claim/gatedclaim/idempotency/IdempotencyKey", "<init>", "(Ljava/lang/String;)V"⟩ : MethodName) prog_2_method_1_code 4 none ({ frames := 4, cells := 2, slots := 24, locals := 53 } : Room) #[.ref key, .ref x] [key] h (fun v h' => v = none ∧ Keep h h' [key] ∧ Exa Z h' key "com/example/gated_claim/gatedclaim/idempotency/IdempotencyKey" ∧ Fld Z h' key "com/example/gated_claim/gatedclaim/idempotency/IdempotencyKey" "value" "Ljava/lang/String;" (.ref x)) oNo := by
  refine oCtr.enter (Ls := #[.val (.ref key), .val (.ref x), .unset, .unset]) (plainFor_of_name pn10) hG.2.1 (fun m => by first | (simp [entryFrame, mkF, argsToLocals, Value.category]; done) | rfl) ?_
  intro pP eE sS mM bB tT cC
  refine oGo.aload_n (pc' := 1) d38_0 rfl rfl rfl ?_
  refine oGo.invokespecial (pc' := 4) (k' := 0) (n' := 0) (a := key) (argsL := []) (rest := []) d38_1 rfl rfl (w168 hG) (w169 hG) (w171 hG) (w172 hG) (by decide) pd28 rfl rfl rfl (c_record hG key h) (by simp) (by decide) (Nat.le_of_ble_eq_true rfl) rfl rfl (by decide) (by decide) ?_
  intro v1 h2 sh2 q3
  obtain ⟨rfl, ee⟩ := q3
  obtain rfl := ee.symm
  refine ⟨_, fun _ hx => Or.inl hx, ?_⟩
  show oGo l Z a0 EL True pP eE sS mM _ bB tT cC _ _ _ _ _ _ _ _ [key] h 0 0 4 #[.val (.ref key), .val (.ref x), .unset, .unset] []
  refine oGo.aload_n (pc' := 5) d38_4 rfl rfl rfl ?_
  refine oGo.ldc_op (pc' := 7) (k' := 2) (n' := 24) d38_5 rfl trivial (w174 hG) (strAt hG) (by decide) rfl rfl (by decide) (by decide) ?_
  intro h4 a5 E6
  have sh4 := E6.1
  refine oGo.invokestatic (pc' := 10) (k' := 2) (n' := 24) (argsL := [.ref x, .ref a5]) (rest := []) d38_7 rfl (w45 hG) (w46 hG) (w47 hG) (w48 hG) (by decide) pd29 rfl rfl rfl (c_rnn hG x a5 _) (by simp) (by decide) (Nat.le_of_ble_eq_true rfl) rfl rfl (by decide) (by decide) ?_
  intro v7 h8 sh8 q9
  obtain ⟨rfl, ee⟩ := q9
  obtain rfl := ee.symm
  refine ⟨_, fun _ hx => Or.inl hx, ?_⟩
  show oGo l Z a0 EL True pP eE sS mM _ bB tT cC _ _ _ _ _ _ _ _ [key] h4 2 24 10 #[.val (.ref key), .val (.ref x), .unset, .unset] [.ref x]
  refine oGo.pop (pc' := 11) d38_10 rfl rfl ?_
  refine oGo.aload_n (pc' := 12) d38_11 rfl rfl rfl ?_
  have f10 := Sx.ext E6
  have Sx1 := f10
  have f11 := Exa.ext E6 Sx.1
  refine oGo.invokevirtual (pc' := 15) (k' := 2) (n' := 24) (a := x) (argsL := []) (rest := []) d38_12 rfl (w175 hG) (w176 hG) (w178 hG) (w178 hG) rfl (w177 hG) (w11 hG) (w179 hG) (by decide) pd9 rfl rfl rfl f11 (c_empty hG x t ks h0 _ Sx1) (by simp) (by decide) (Nat.le_of_ble_eq_true rfl) rfl rfl (by decide) (by decide) ?_
  intro v12 h13 sh13 q14
  obtain ⟨rfl, ee⟩ := q14
  obtain rfl := ee.symm
  refine ⟨_, fun _ hx => Or.inl hx, ?_⟩
  show oGo l Z a0 EL True pP eE sS mM _ bB tT cC _ _ _ _ _ _ _ _ [key] h4 2 24 15 #[.val (.ref key), .val (.ref x), .unset, .unset] [.int (0 : Int32)]
  refine oGo.if_eq (pc1 := 18) (pc2 := 28) d38_15 rfl (by decide) (fun q15 => ?_) (fun q => by first | exact absurd q (by decide) | exact absurd (by decide) q)
  refine oGo.aload_n (pc' := 29) d38_28 rfl rfl rfl ?_
  refine oGo.invokevirtual (pc' := 32) (k' := 2) (n' := 24) (a := x) (argsL := []) (rest := []) d38_29 rfl (w53 hG) (w54 hG) (w56 hG) (w56 hG) rfl (w55 hG) (w11 hG) (w57 hG) (by decide) pd13 rfl rfl rfl f11 (c_length hG x t ks _ Sx1) (by simp) (by decide) (Nat.le_of_ble_eq_true rfl) rfl rfl (by decide) (by decide) ?_
  intro v16 h17 sh17 q18
  obtain ⟨rfl, ee⟩ := q18
  obtain rfl := ee.symm
  refine ⟨_, fun _ hx => Or.inl hx, ?_⟩
  show oGo l Z a0 EL True pP eE sS mM _ bB tT cC _ _ _ _ _ _ _ _ [key] h4 2 24 32 #[.val (.ref key), .val (.ref x), .unset, .unset] [.int (Int32.ofNat ks.length)]
  refine oGo.sipush (pc' := 35) (v := 255) d38_32 rfl (by decide) ?_
  refine oGo.icmp_le (pc1 := 38) (pc2 := 48) d38_35 rfl (by decide) (fun q19 => ?_) (fun q => by exfalso; rw [show (255 : Int32) = Int32.ofNat 255 from rfl, own_lt (by omega) (by omega)] at q; omega)
  refine oGo.iconst (pc' := 49) (v := 0) d38_48 rfl (by decide) ?_
  refine oGo.istore_n (pc' := 50) (Ls' := #[.val (.ref key), .val (.ref x), .val (.int (0 : Int32)), .unset]) d38_49 rfl rfl ?_
  have f20 := Exa.ext E6 E
  have f21 := Fld.ext E6 F1
  have E1 := f20
  have G1 := f21
  have loop : ∀ (r i : Nat) (s3 : Slot), r + i = ks.length → oSl s3 → oGo l Z a0 EL True pP eE sS mM #[.ref key, .ref x] bB tT cC ({ frames := 4, cells := 2, slots := 24, locals := 53 } : Room) "com/example/gated_claim/gatedclaim/idempotency/IdempotencyKey" prog_2_method_1_code 4 none "<init>" (fun v h' => v = none ∧ Keep h h' [key] ∧ Exa Z h' key "com/example/gated_claim/gatedclaim/idempotency/IdempotencyKey" ∧ Fld Z h' key "com/example/gated_claim/gatedclaim/idempotency/IdempotencyKey" "value" "Ljava/lang/String;" (.ref x)) oNo [key] h4 2 24 50 #[.val (.ref key), .val (.ref x), .val (.int (Int32.ofNat i)), s3] [] := by
    intro r
    induction r with
    | zero =>
      intro i s3 hr hs3
      obtain rfl : i = ks.length := by omega
      refine oGo.iload_n (pc' := 51) d38_50 rfl rfl ?_
      refine oGo.aload_n (pc' := 52) d38_51 rfl rfl rfl ?_
      refine oGo.invokevirtual (pc' := 55) (k' := 2) (n' := 24) (a := x) (argsL := []) (rest := [.int (Int32.ofNat ks.length)]) d38_52 rfl (w53 hG) (w54 hG) (w56 hG) (w56 hG) rfl (w55 hG) (w11 hG) (w57 hG) (by decide) pd13 rfl rfl rfl f11 (c_length hG x t ks _ Sx1) (by simp) (by decide) (Nat.le_of_ble_eq_true rfl) rfl rfl (by decide) (by decide) ?_
      intro v22 h23 sh23 q24
      obtain ⟨rfl, ee⟩ := q24
      obtain rfl := ee.symm
      refine ⟨_, fun _ hx => Or.inl hx, ?_⟩
      show oGo l Z a0 EL True pP eE sS mM _ bB tT cC _ _ _ _ _ _ _ _ [key] h4 2 24 55 #[.val (.ref key), .val (.ref x), .val (.int (Int32.ofNat ks.length)), s3] [.int (Int32.ofNat ks.length), .int (Int32.ofNat ks.length)]
      refine oGo.icmp_ge (pc1 := 58) (pc2 := 98) d38_55 rfl (by decide) (fun q25 => ?_) (fun q => by exfalso; rw [own_lt (by omega) (by omega)] at q; omega)
      refine oGo.aload_n (pc' := 99) d38_98 rfl rfl rfl ?_
      refine oGo.aload_n (pc' := 100) d38_99 rfl rfl rfl ?_
      refine oGo.putfield (pc' := 103) (ty := (.object "java/lang/String")) d38_100 rfl (w180 hG) Via.refl G1 E1 (Or.inr ⟨(w181 hG), rfl, rfl⟩) (w164 hG) (by decide) rfl rfl (by simp) ?_
      intro h26 W27 sh26
      have f28 := Fld.same W27 G1
      have f29 := Exa.wr W27 E1
      exact oGo.return_ d38_103 rfl (by decide) (by decide) ⟨rfl, (((Keep.refl h [key]).ext E6).wr W27 (Or.inl (by simp))), f29, f28⟩ (fun _ q => q.elim)
    | succ r ih =>
      intro i s3 hr hs3
      have hi : i < ks.length := by omega
      obtain ⟨c, hc⟩ : ∃ c, ks[i]? = some c := ⟨_, List.getElem?_eq_getElem hi⟩
      have hp := hpr c (List.mem_of_getElem? hc)
      refine oGo.iload_n (pc' := 51) d38_50 rfl rfl ?_
      refine oGo.aload_n (pc' := 52) d38_51 rfl rfl rfl ?_
      refine oGo.invokevirtual (pc' := 55) (k' := 2) (n' := 24) (a := x) (argsL := []) (rest := [.int (Int32.ofNat i)]) d38_52 rfl (w53 hG) (w54 hG) (w56 hG) (w56 hG) rfl (w55 hG) (w11 hG) (w57 hG) (by decide) pd13 rfl rfl rfl f11 (c_length hG x t ks _ Sx1) (by simp) (by decide) (Nat.le_of_ble_eq_true rfl) rfl rfl (by decide) (by decide) ?_
      intro v30 h31 sh31 q32
      obtain ⟨rfl, ee⟩ := q32
      obtain rfl := ee.symm
      refine ⟨_, fun _ hx => Or.inl hx, ?_⟩
      show oGo l Z a0 EL True pP eE sS mM _ bB tT cC _ _ _ _ _ _ _ _ [key] h4 2 24 55 #[.val (.ref key), .val (.ref x), .val (.int (Int32.ofNat i)), s3] [.int (Int32.ofNat ks.length), .int (Int32.ofNat i)]
      refine oGo.icmp_ge (pc1 := 58) (pc2 := 98) d38_55 rfl (by decide) (fun q => by exfalso; rw [own_lt (by omega) (by omega)] at q; omega) (fun q33 => ?_)
      refine oGo.aload_n (pc' := 59) d38_58 rfl rfl rfl ?_
      refine oGo.iload_n (pc' := 60) d38_59 rfl rfl ?_
      refine oGo.invokevirtual (pc' := 63) (k' := 2) (n' := 24) (a := x) (argsL := [.int (Int32.ofNat i)]) (rest := []) d38_60 rfl (w63 hG) (w64 hG) (w66 hG) (w66 hG) rfl (w65 hG) (w11 hG) (w67 hG) (by decide) pd22 rfl rfl rfl f11 (c_charAt hG x t ks i c hc _ Sx1) (by simp) (by decide) (Nat.le_of_ble_eq_true rfl) rfl rfl (by decide) (by decide) ?_
      intro v34 h35 sh35 q36
      obtain ⟨rfl, ee⟩ := q36
      obtain rfl := ee.symm
      refine ⟨_, fun _ hx => Or.inl hx, ?_⟩
      show oGo l Z a0 EL True pP eE sS mM _ bB tT cC _ _ _ _ _ _ _ _ [key] h4 2 24 63 #[.val (.ref key), .val (.ref x), .val (.int (Int32.ofNat i)), s3] [.int c]
      refine oGo.istore_nS (pc' := 64) (Ls' := #[.val (.ref key), .val (.ref x), .val (.int (Int32.ofNat i)), .val (.int c)]) d38_63 rfl hs3 rfl rfl ?_
      refine oGo.iload_n (pc' := 65) d38_64 rfl rfl ?_
      refine oGo.bipush (pc' := 67) (v := 32) d38_65 rfl (by decide) ?_
      refine oGo.icmp_lt (pc1 := 70) (pc2 := 76) d38_67 rfl (by decide) (fun q => absurd q hp.1) (fun q37 => ?_)
      refine oGo.iload_n (pc' := 71) d38_70 rfl rfl ?_
      refine oGo.bipush (pc' := 73) (v := 126) d38_71 rfl (by decide) ?_
      refine oGo.icmp_le (pc1 := 76) (pc2 := 92) d38_73 rfl (by decide) (fun q38 => ?_) (fun q => absurd q hp.2)
      refine oGo.iinc (pc' := 95) (y := 1) (Ls' := #[.val (.ref key), .val (.ref x), .val (.int ((Int32.ofNat i) + (1 : Int32))), .val (.int c)]) d38_92 rfl rfl (by decide) rfl ?_
      refine oGo.goto (pc' := 50) d38_95 (by decide) ?_
      rw [own_succ]
      exact ih (i + 1) _ (by omega) (Or.inr ⟨_, rfl, rfl⟩)
  exact loop ks.length 0 _ rfl (Or.inl rfl)
set_option maxRecDepth 65536 in
set_option maxHeartbeats 4000000 in
theorem c_unq {l : Launch} {Z : State} {a0 : Array Value} {EL : List (String × Nat)} (hG : oG a0 Z EL) (x t : Nat) (ks : List Int32) (hk : ks.length ≤ 3) (hpr : ∀ c ∈ ks, ¬ c < 32 ∧ ¬ 126 < c) (h10 : (qot ks).length ≤ 10) (h : Heap) (Sx : oS Z h x t (qot ks)) :
    oCtr [] l Z a0 EL True (⟨"com/example/gated_claim/gatedclaim/idempotency/IdempotencyKey", "unquote", "(Ljava/lang/String;)Ljava/lang/String;"⟩ : MethodName) prog_2_method_3_code 4 (some (.object "java/lang/String")) ({ frames := 6, cells := 5, slots := 40, locals := 91 } : Room) #[.ref x] [] h ((q_toStr Z h ks)) oNo := by
  have lx := own_ltN Sx.1.lt
  have lt := own_ltN Sx.2.2.2.1.lt
  have hql := qot_len ks
  have hge := flat_ge ks
  refine oCtr.enter (Ls := #[.val (.ref x), .unset, .unset, .unset]) (plainFor_of_name pn10) hG.2.1 (fun m => by first | (simp [entryFrame, mkF, argsToLocals, Value.category]; done) | rfl) ?_
  intro pP eE sS mM bB tT cC
  refine oGo.new (pc' := 3) (k' := 1) (n' := 4) d45_0 rfl (w201 hG) (w202 hG) (w203 hG) rfl rfl (by decide) (by decide) ?_
  intro h1 a2 qa2 la2 E3 X4 F5
  have f6 := F5 (Or.inl (w216 hG)) (ty := (.array .byte)) (by decide)
  have f7 := F5 (Or.inl (w218 hG)) (ty := .byte) (by decide)
  have f8 := F5 (Or.inl (w230 hG)) (ty := .int) (by decide)
  refine oGo.dup (pc' := 4) d45_3 rfl rfl ?_
  refine oGo.aload_n (pc' := 5) d45_4 rfl rfl rfl ?_
  have f9 := Sx.ext E3
  have f13 := Exa.ext E3 Sx.1
  refine oGo.invokevirtual (pc' := 8) (k' := 1) (n' := 4) (a := x) (argsL := []) (rest := [.ref a2, .ref a2]) d45_5 rfl (w53 hG) (w54 hG) (w56 hG) (w56 hG) rfl (w55 hG) (w11 hG) (w57 hG) (by decide) pd13 rfl rfl rfl f13 (c_length hG x t (qot ks) _ f9) (by simp) (by decide) (Nat.le_of_ble_eq_true rfl) rfl rfl (by decide) (by decide) ?_
  intro v10 h11 sh11 q12
  obtain ⟨rfl, ee⟩ := q12
  obtain rfl := ee.symm
  refine ⟨_, fun _ hx => Or.inl hx, ?_⟩
  show oGo l Z a0 EL True pP eE sS mM _ bB tT cC _ _ _ _ _ _ _ _ [a2] h1 1 4 8 #[.val (.ref x), .unset, .unset, .unset] [.int (Int32.ofNat (qot ks).length), .ref a2, .ref a2]
  refine oGo.invokespecial (pc' := 11) (k' := 2) (n' := 14) (a := a2) (argsL := [.int (Int32.ofNat (qot ks).length)]) (rest := [.ref a2]) d45_8 rfl rfl (w204 hG) (w205 hG) (w203 hG) (w206 hG) (by decide) pd16 rfl rfl rfl (c_sbInitI hG a2 (qot ks).length h10 _ _ X4 f6 f7 f8) (by simp) (by decide) (Nat.le_of_ble_eq_true rfl) rfl rfl (by decide) (by decide) ?_
  intro v14 h15 sh15 q16
  obtain ⟨rfl, K2, b, hb, S2⟩ := q16
  have lb : b < h15.size := by obtain ⟨_, _, _, _, _, B, _⟩ := S2; exact own_ltN B.lt
  refine ⟨[b, a2], own_D1 (S2.2.1), ?_⟩
  show oGo l Z a0 EL True pP eE sS mM _ bB tT cC _ _ _ _ _ _ _ _ [b, a2] h15 2 14 11 #[.val (.ref x), .unset, .unset, .unset] [.ref a2]
  refine oGo.astore_n (pc' := 12) (Ls' := #[.val (.ref x), .val (.ref a2), .unset, .unset]) d45_11 rfl rfl rfl ?_
  refine oGo.iconst (pc' := 13) (v := 1) d45_12 rfl (by decide) ?_
  refine oGo.istore_n (pc' := 14) (Ls' := #[.val (.ref x), .val (.ref a2), .val (.int (1 : Int32)), .unset]) d45_13 rfl rfl ?_
  have f17 := f9.keep K2 (own_nin1 (own_ne_ge (x := x) (y := a2) lx (own_ge_eq qa2))) (own_nin1 (own_ne_ge (x := t) (y := a2) lt (own_ge_eq qa2)))
  have g18 := own_lt_le (x := x) lx E3.1
  have g19 := own_lt_le (x := t) lt E3.1
  have Sx2 := f17
  have nxs : x ≠ a2 := (own_ne_ge (x := x) (y := a2) lx (own_ge_eq qa2))
  have nxb : x ≠ b := (own_ne_ge (x := x) (y := b) g18 hb)
  have nts : t ≠ a2 := (own_ne_ge (x := t) (y := a2) lt (own_ge_eq qa2))
  have ntb : t ≠ b := (own_ne_ge (x := t) (y := b) g19 hb)
  have z20 := own_le_le (x := h.size) (Nat.le_refl _) E3.1
  have gsb : h.size ≤ a2 := (own_le_le (x := h.size) (Nat.le_refl _) (own_ge_eq qa2))
  have gb : h.size ≤ b := (own_le_le (x := h.size) z20 hb)
  have K21 : Keep h h15 [] := (((Keep.refl h []).ext E3).trans K2 (own_new1 (own_le_le (x := h.size) (Nat.le_refl _) (own_ge_eq qa2))))
  have loop : ∀ (rs ds : List Int32) (h1 : Heap) (s3 : Slot), ds ++ rs = ks → Keep h15 h1 [a2, b] → oSB Z h1 a2 b ds (qot ks).length → oSl s3 → oGo l Z a0 EL True pP eE sS mM #[.ref x] bB tT cC ({ frames := 6, cells := 5, slots := 40, locals := 91 } : Room) "com/example/gated_claim/gatedclaim/idempotency/IdempotencyKey" prog_2_method_3_code 4 (some (.object "java/lang/String")) "unquote" (q_toStr Z h ks) oNo [b, a2] h1 2 14 14 #[.val (.ref x), .val (.ref a2), .val (.int (Int32.ofNat (1 + (ds.flatMap enc).length))), s3] [] := by
    intro rs
    induction rs with
    | nil =>
      intro ds h1 s3 hd K1 SB1 hs3
      obtain rfl : ks = ds := by simpa using hd.symm
      have Sx1 := Sx2.keep K1 (own_nin2 nxs nxb) (own_nin2 nts ntb)
      refine oGo.iload_n (pc' := 15) d45_14 rfl rfl ?_
      refine oGo.aload_n (pc' := 16) d45_15 rfl rfl rfl ?_
      refine oGo.invokevirtual (pc' := 19) (k' := 2) (n' := 14) (a := x) (argsL := []) (rest := [.int (Int32.ofNat (1 + (ks.flatMap enc).length))]) d45_16 rfl (w53 hG) (w54 hG) (w56 hG) (w56 hG) rfl (w55 hG) (w11 hG) (w57 hG) (by decide) pd13 rfl rfl rfl Sx1.1 (c_length hG x t (qot ks) _ Sx1) (by simp) (by decide) (Nat.le_of_ble_eq_true rfl) rfl rfl (by decide) (by decide) ?_
      intro v22 h23 sh23 q24
      obtain ⟨rfl, ee⟩ := q24
      obtain rfl := ee.symm
      refine ⟨_, fun _ hx => Or.inl hx, ?_⟩
      show oGo l Z a0 EL True pP eE sS mM _ bB tT cC _ _ _ _ _ _ _ _ [b, a2] h1 2 14 19 #[.val (.ref x), .val (.ref a2), .val (.int (Int32.ofNat (1 + (ks.flatMap enc).length))), s3] [.int (Int32.ofNat (qot ks).length), .int (Int32.ofNat (1 + (ks.flatMap enc).length))]
      refine oGo.icmp_ge (pc1 := 22) (pc2 := 117) d45_19 rfl (by decide) (fun q => by exfalso; rw [own_lt (by omega) (by omega)] at q; omega) (fun q25 => ?_)
      refine oGo.aload_n (pc' := 23) d45_22 rfl rfl rfl ?_
      refine oGo.iload_n (pc' := 24) d45_23 rfl rfl ?_
      refine oGo.iinc (pc' := 27) (y := 1) (Ls' := #[.val (.ref x), .val (.ref a2), .val (.int ((Int32.ofNat (1 + (ks.flatMap enc).length)) + (1 : Int32))), s3]) d45_24 rfl rfl (by decide) rfl ?_
      rw [own_succ]
      refine oGo.invokevirtual (pc' := 30) (k' := 2) (n' := 14) (a := x) (argsL := [.int (Int32.ofNat (1 + (ks.flatMap enc).length))]) (rest := []) d45_27 rfl (w63 hG) (w64 hG) (w66 hG) (w66 hG) rfl (w65 hG) (w11 hG) (w67 hG) (by decide) pd22 rfl rfl rfl Sx1.1 (c_charAt hG x t (qot ks) (1 + (ks.flatMap enc).length) 34 (qot_end ks) _ Sx1) (by simp) (by decide) (Nat.le_of_ble_eq_true rfl) rfl rfl (by decide) (by decide) ?_
      intro v26 h27 sh27 q28
      obtain ⟨rfl, ee⟩ := q28
      obtain rfl := ee.symm
      refine ⟨_, fun _ hx => Or.inl hx, ?_⟩
      show oGo l Z a0 EL True pP eE sS mM _ bB tT cC _ _ _ _ _ _ _ _ [b, a2] h1 2 14 30 #[.val (.ref x), .val (.ref a2), .val (.int (Int32.ofNat (1 + (ks.flatMap enc).length + 1))), s3] [.int (34 : Int32)]
      refine oGo.istore_nS (pc' := 31) (Ls' := #[.val (.ref x), .val (.ref a2), .val (.int (Int32.ofNat (1 + (ks.flatMap enc).length + 1))), .val (.int (34 : Int32))]) d45_30 rfl hs3 rfl rfl ?_
      refine oGo.iload_n (pc' := 32) d45_31 rfl rfl ?_
      refine oGo.bipush (pc' := 34) (v := 34) d45_32 rfl (by decide) ?_
      refine oGo.icmp_ne (pc1 := 37) (pc2 := 60) d45_34 rfl (by decide) (fun q => by first | exact absurd q (by decide) | exact absurd (by decide) q) (fun q29 => ?_)
      refine oGo.iload_n (pc' := 38) d45_37 rfl rfl ?_
      refine oGo.aload_n (pc' := 39) d45_38 rfl rfl rfl ?_
      refine oGo.invokevirtual (pc' := 42) (k' := 2) (n' := 14) (a := x) (argsL := []) (rest := [.int (Int32.ofNat (1 + (ks.flatMap enc).length + 1))]) d45_39 rfl (w53 hG) (w54 hG) (w56 hG) (w56 hG) rfl (w55 hG) (w11 hG) (w57 hG) (by decide) pd13 rfl rfl rfl Sx1.1 (c_length hG x t (qot ks) _ Sx1) (by simp) (by decide) (Nat.le_of_ble_eq_true rfl) rfl rfl (by decide) (by decide) ?_
      intro v30 h31 sh31 q32
      obtain ⟨rfl, ee⟩ := q32
      obtain rfl := ee.symm
      refine ⟨_, fun _ hx => Or.inl hx, ?_⟩
      show oGo l Z a0 EL True pP eE sS mM _ bB tT cC _ _ _ _ _ _ _ _ [b, a2] h1 2 14 42 #[.val (.ref x), .val (.ref a2), .val (.int (Int32.ofNat (1 + (ks.flatMap enc).length + 1))), .val (.int (34 : Int32))] [.int (Int32.ofNat (qot ks).length), .int (Int32.ofNat (1 + (ks.flatMap enc).length + 1))]
      refine oGo.icmp_ge (pc1 := 45) (pc2 := 55) d45_42 rfl (by decide) (fun q33 => ?_) (fun q => by exfalso; rw [own_lt (by omega) (by omega)] at q; omega)
      refine oGo.aload_n (pc' := 56) d45_55 rfl rfl rfl ?_
      refine oGo.invokevirtual (pc' := 59) (k' := 4) (n' := 28) (a := a2) (argsL := []) (rest := []) d45_56 rfl (w244 hG) (w245 hG) (w247 hG) (w247 hG) rfl (w246 hG) (w203 hG) (w248 hG) (by decide) pd30 rfl rfl rfl SB1.1 (c_toStr hG a2 b ks (qot ks).length (by omega) (by omega) (fun c hc => own_pr (hpr c hc)) _ SB1) (by simp) (by decide) (Nat.le_of_ble_eq_true rfl) rfl rfl (by decide) (by decide) ?_
      intro v34 h35 sh35 q36
      obtain ⟨K3, y, u, rfl, gy, gu, Sy⟩ := q36
      refine ⟨_, fun _ hx => Or.inl hx, ?_⟩
      show oGo l Z a0 EL True pP eE sS mM _ bB tT cC _ _ _ _ _ _ _ _ [b, a2] h35 4 28 59 #[.val (.ref x), .val (.ref a2), .val (.int (Int32.ofNat (1 + (ks.flatMap enc).length + 1))), .val (.int (34 : Int32))] [.ref y]
      exact oGo.areturn d45_59 rfl rfl rfl rfl (by decide) (by decide) ⟨(K21.trans K1 (own_new2 gsb gb)).trans K3 (by simp), y, u, rfl, own_le_le (own_le_le K21.1 K1.1) gy, own_le_le (own_le_le K21.1 K1.1) gu, Sy⟩ (fun _ q => q.elim)
    | cons c rs ih =>
      intro ds h1 s3 hd K1 SB1 hs3
      have hcp := hpr c (by rw [← hd]; simp)
      have hlt := qot_lt hd
      have hdl : ds.length + 1 ≤ 3 := by have e := congrArg List.length hd; simp at e; omega
      have Sx1 := Sx2.keep K1 (own_nin2 nxs nxb) (own_nin2 nts ntb)
      by_cases hsp : c = 34 ∨ c = 92
      · rw [enc_y hsp] at hlt
        have hlt' : 1 + (ds.flatMap enc).length + 2 < (qot ks).length := hlt
        have e0 := qot_at hd (j := 0) (by rw [enc_y hsp]; simp)
        have e1 := qot_at hd (j := 1) (by rw [enc_y hsp]; simp)
        rw [enc_y hsp] at e0 e1
        have hsn := flat_snoc ds c
        rw [enc_y hsp] at hsn
        have hsn' : ((ds ++ [c]).flatMap enc).length = (ds.flatMap enc).length + 2 := hsn
        refine oGo.iload_n (pc' := 15) d45_14 rfl rfl ?_
        refine oGo.aload_n (pc' := 16) d45_15 rfl rfl rfl ?_
        refine oGo.invokevirtual (pc' := 19) (k' := 2) (n' := 14) (a := x) (argsL := []) (rest := [.int (Int32.ofNat (1 + (ds.flatMap enc).length))]) d45_16 rfl (w53 hG) (w54 hG) (w56 hG) (w56 hG) rfl (w55 hG) (w11 hG) (w57 hG) (by decide) pd13 rfl rfl rfl Sx1.1 (c_length hG x t (qot ks) _ Sx1) (by simp) (by decide) (Nat.le_of_ble_eq_true rfl) rfl rfl (by decide) (by decide) ?_
        intro v37 h38 sh38 q39
        obtain ⟨rfl, ee⟩ := q39
        obtain rfl := ee.symm
        refine ⟨_, fun _ hx => Or.inl hx, ?_⟩
        show oGo l Z a0 EL True pP eE sS mM _ bB tT cC _ _ _ _ _ _ _ _ [b, a2] h1 2 14 19 #[.val (.ref x), .val (.ref a2), .val (.int (Int32.ofNat (1 + (ds.flatMap enc).length))), s3] [.int (Int32.ofNat (qot ks).length), .int (Int32.ofNat (1 + (ds.flatMap enc).length))]
        refine oGo.icmp_ge (pc1 := 22) (pc2 := 117) d45_19 rfl (by decide) (fun q => by exfalso; rw [own_lt (by omega) (by omega)] at q; omega) (fun q40 => ?_)
        refine oGo.aload_n (pc' := 23) d45_22 rfl rfl rfl ?_
        refine oGo.iload_n (pc' := 24) d45_23 rfl rfl ?_
        refine oGo.iinc (pc' := 27) (y := 1) (Ls' := #[.val (.ref x), .val (.ref a2), .val (.int ((Int32.ofNat (1 + (ds.flatMap enc).length)) + (1 : Int32))), s3]) d45_24 rfl rfl (by decide) rfl ?_
        rw [own_succ]
        refine oGo.invokevirtual (pc' := 30) (k' := 2) (n' := 14) (a := x) (argsL := [.int (Int32.ofNat (1 + (ds.flatMap enc).length))]) (rest := []) d45_27 rfl (w63 hG) (w64 hG) (w66 hG) (w66 hG) rfl (w65 hG) (w11 hG) (w67 hG) (by decide) pd22 rfl rfl rfl Sx1.1 (c_charAt hG x t (qot ks) (1 + (ds.flatMap enc).length) 92 e0 _ Sx1) (by simp) (by decide) (Nat.le_of_ble_eq_true rfl) rfl rfl (by decide) (by decide) ?_
        intro v41 h42 sh42 q43
        obtain ⟨rfl, ee⟩ := q43
        obtain rfl := ee.symm
        refine ⟨_, fun _ hx => Or.inl hx, ?_⟩
        show oGo l Z a0 EL True pP eE sS mM _ bB tT cC _ _ _ _ _ _ _ _ [b, a2] h1 2 14 30 #[.val (.ref x), .val (.ref a2), .val (.int (Int32.ofNat (1 + (ds.flatMap enc).length + 1))), s3] [.int (92 : Int32)]
        refine oGo.istore_nS (pc' := 31) (Ls' := #[.val (.ref x), .val (.ref a2), .val (.int (Int32.ofNat (1 + (ds.flatMap enc).length + 1))), .val (.int (92 : Int32))]) d45_30 rfl hs3 rfl rfl ?_
        refine oGo.iload_n (pc' := 32) d45_31 rfl rfl ?_
        refine oGo.bipush (pc' := 34) (v := 34) d45_32 rfl (by decide) ?_
        refine oGo.icmp_ne (pc1 := 37) (pc2 := 60) d45_34 rfl (by decide) (fun q44 => ?_) (fun q => by first | exact absurd q (by decide) | exact absurd (by decide) q)
        refine oGo.iload_n (pc' := 61) d45_60 rfl rfl ?_
        refine oGo.bipush (pc' := 63) (v := 92) d45_61 rfl (by decide) ?_
        refine oGo.icmp_ne (pc1 := 66) (pc2 := 108) d45_63 rfl (by decide) (fun q => by first | exact absurd q (by decide) | exact absurd (by decide) q) (fun q45 => ?_)
        refine oGo.iload_n (pc' := 67) d45_66 rfl rfl ?_
        refine oGo.aload_n (pc' := 68) d45_67 rfl rfl rfl ?_
        refine oGo.invokevirtual (pc' := 71) (k' := 2) (n' := 14) (a := x) (argsL := []) (rest := [.int (Int32.ofNat (1 + (ds.flatMap enc).length + 1))]) d45_68 rfl (w53 hG) (w54 hG) (w56 hG) (w56 hG) rfl (w55 hG) (w11 hG) (w57 hG) (by decide) pd13 rfl rfl rfl Sx1.1 (c_length hG x t (qot ks) _ Sx1) (by simp) (by decide) (Nat.le_of_ble_eq_true rfl) rfl rfl (by decide) (by decide) ?_
        intro v46 h47 sh47 q48
        obtain ⟨rfl, ee⟩ := q48
        obtain rfl := ee.symm
        refine ⟨_, fun _ hx => Or.inl hx, ?_⟩
        show oGo l Z a0 EL True pP eE sS mM _ bB tT cC _ _ _ _ _ _ _ _ [b, a2] h1 2 14 71 #[.val (.ref x), .val (.ref a2), .val (.int (Int32.ofNat (1 + (ds.flatMap enc).length + 1))), .val (.int (92 : Int32))] [.int (Int32.ofNat (qot ks).length), .int (Int32.ofNat (1 + (ds.flatMap enc).length + 1))]
        refine oGo.icmp_ne (pc1 := 74) (pc2 := 77) d45_71 rfl (by decide) (fun q49 => ?_) (fun q => by exfalso; rw [own_eq (by omega) (by omega)] at q; omega)
        refine oGo.aload_n (pc' := 78) d45_77 rfl rfl rfl ?_
        refine oGo.iload_n (pc' := 79) d45_78 rfl rfl ?_
        refine oGo.iinc (pc' := 82) (y := 1) (Ls' := #[.val (.ref x), .val (.ref a2), .val (.int ((Int32.ofNat (1 + (ds.flatMap enc).length + 1)) + (1 : Int32))), .val (.int (92 : Int32))]) d45_79 rfl rfl (by decide) rfl ?_
        rw [own_succ]
        refine oGo.invokevirtual (pc' := 85) (k' := 2) (n' := 14) (a := x) (argsL := [.int (Int32.ofNat (1 + (ds.flatMap enc).length + 1))]) (rest := []) d45_82 rfl (w63 hG) (w64 hG) (w66 hG) (w66 hG) rfl (w65 hG) (w11 hG) (w67 hG) (by decide) pd22 rfl rfl rfl Sx1.1 (c_charAt hG x t (qot ks) (1 + (ds.flatMap enc).length + 1) c e1 _ Sx1) (by simp) (by decide) (Nat.le_of_ble_eq_true rfl) rfl rfl (by decide) (by decide) ?_
        intro v50 h51 sh51 q52
        obtain ⟨rfl, ee⟩ := q52
        obtain rfl := ee.symm
        refine ⟨_, fun _ hx => Or.inl hx, ?_⟩
        show oGo l Z a0 EL True pP eE sS mM _ bB tT cC _ _ _ _ _ _ _ _ [b, a2] h1 2 14 85 #[.val (.ref x), .val (.ref a2), .val (.int (Int32.ofNat (1 + (ds.flatMap enc).length + 1 + 1))), .val (.int (92 : Int32))] [.int c]
        refine oGo.istore_n (pc' := 86) (Ls' := #[.val (.ref x), .val (.ref a2), .val (.int (Int32.ofNat (1 + (ds.flatMap enc).length + 1 + 1))), .val (.int c)]) d45_85 rfl rfl ?_
        refine oGo.iload_n (pc' := 87) d45_86 rfl rfl ?_
        refine oGo.bipush (pc' := 89) (v := 34) d45_87 rfl (by decide) ?_
        refine oGo.icmp_eq (pc1 := 92) (pc2 := 108) d45_89 rfl (by decide) (fun q5 => ?_) (fun q5 => ?_)
        · refine oGo.aload_n (pc' := 109) d45_108 rfl rfl rfl ?_
          refine oGo.iload_n (pc' := 110) d45_109 rfl rfl ?_
          refine oGo.invokevirtual (pc' := 113) (k' := 2) (n' := 14) (a := a2) (argsL := [.int c]) (rest := []) d45_110 rfl (w219 hG) (w220 hG) (w222 hG) (w222 hG) rfl (w221 hG) (w203 hG) (w223 hG) (by decide) pd31 rfl rfl rfl SB1.1 (c_appC hG a2 b ds (qot ks).length c (by omega) (by omega) (own_pr hcp) _ SB1) (by simp) (by decide) (Nat.le_of_ble_eq_true rfl) rfl rfl (by decide) (by decide) ?_
          intro v53 h54 sh54 q55
          obtain ⟨rfl, K3, SB3⟩ := q55
          refine ⟨_, fun _ hx => Or.inl hx, ?_⟩
          show oGo l Z a0 EL True pP eE sS mM _ bB tT cC _ _ _ _ _ _ _ _ [b, a2] h54 2 14 113 #[.val (.ref x), .val (.ref a2), .val (.int (Int32.ofNat (1 + (ds.flatMap enc).length + 1 + 1))), .val (.int c)] [.ref a2]
          refine oGo.pop (pc' := 114) d45_113 rfl rfl ?_
          refine oGo.goto (pc' := 14) d45_114 (by decide) ?_
          rw [show 1 + (ds.flatMap enc).length + 1 + 1 = 1 + ((ds ++ [c]).flatMap enc).length by omega]
          exact ih (ds ++ [c]) _ _ (by rw [List.append_assoc]; exact hd) (K1.trans K3 (fun x hx => Or.inl hx)) SB3 (Or.inr ⟨_, rfl, rfl⟩)
        · refine oGo.iload_n (pc' := 93) d45_92 rfl rfl ?_
          refine oGo.bipush (pc' := 95) (v := 92) d45_93 rfl (by decide) ?_
          refine oGo.icmp_eq (pc1 := 98) (pc2 := 108) d45_95 rfl (by decide) (fun q56 => ?_) (fun q => by exfalso; exact hsp.elim q5 q)
          refine oGo.aload_n (pc' := 109) d45_108 rfl rfl rfl ?_
          refine oGo.iload_n (pc' := 110) d45_109 rfl rfl ?_
          refine oGo.invokevirtual (pc' := 113) (k' := 2) (n' := 14) (a := a2) (argsL := [.int c]) (rest := []) d45_110 rfl (w219 hG) (w220 hG) (w222 hG) (w222 hG) rfl (w221 hG) (w203 hG) (w223 hG) (by decide) pd31 rfl rfl rfl SB1.1 (c_appC hG a2 b ds (qot ks).length c (by omega) (by omega) (own_pr hcp) _ SB1) (by simp) (by decide) (Nat.le_of_ble_eq_true rfl) rfl rfl (by decide) (by decide) ?_
          intro v57 h58 sh58 q59
          obtain ⟨rfl, K3, SB3⟩ := q59
          refine ⟨_, fun _ hx => Or.inl hx, ?_⟩
          show oGo l Z a0 EL True pP eE sS mM _ bB tT cC _ _ _ _ _ _ _ _ [b, a2] h58 2 14 113 #[.val (.ref x), .val (.ref a2), .val (.int (Int32.ofNat (1 + (ds.flatMap enc).length + 1 + 1))), .val (.int c)] [.ref a2]
          refine oGo.pop (pc' := 114) d45_113 rfl rfl ?_
          refine oGo.goto (pc' := 14) d45_114 (by decide) ?_
          rw [show 1 + (ds.flatMap enc).length + 1 + 1 = 1 + ((ds ++ [c]).flatMap enc).length by omega]
          exact ih (ds ++ [c]) _ _ (by rw [List.append_assoc]; exact hd) (K1.trans K3 (fun x hx => Or.inl hx)) SB3 (Or.inr ⟨_, rfl, rfl⟩)
      · rw [enc_n hsp] at hlt
        have hlt' : 1 + (ds.flatMap enc).length + 1 < (qot ks).length := hlt
        have e0 := qot_at hd (j := 0) (by rw [enc_n hsp]; simp)
        rw [enc_n hsp] at e0
        have hsn := flat_snoc ds c
        rw [enc_n hsp] at hsn
        have hsn' : ((ds ++ [c]).flatMap enc).length = (ds.flatMap enc).length + 1 := hsn
        refine oGo.iload_n (pc' := 15) d45_14 rfl rfl ?_
        refine oGo.aload_n (pc' := 16) d45_15 rfl rfl rfl ?_
        refine oGo.invokevirtual (pc' := 19) (k' := 2) (n' := 14) (a := x) (argsL := []) (rest := [.int (Int32.ofNat (1 + (ds.flatMap enc).length))]) d45_16 rfl (w53 hG) (w54 hG) (w56 hG) (w56 hG) rfl (w55 hG) (w11 hG) (w57 hG) (by decide) pd13 rfl rfl rfl Sx1.1 (c_length hG x t (qot ks) _ Sx1) (by simp) (by decide) (Nat.le_of_ble_eq_true rfl) rfl rfl (by decide) (by decide) ?_
        intro v60 h61 sh61 q62
        obtain ⟨rfl, ee⟩ := q62
        obtain rfl := ee.symm
        refine ⟨_, fun _ hx => Or.inl hx, ?_⟩
        show oGo l Z a0 EL True pP eE sS mM _ bB tT cC _ _ _ _ _ _ _ _ [b, a2] h1 2 14 19 #[.val (.ref x), .val (.ref a2), .val (.int (Int32.ofNat (1 + (ds.flatMap enc).length))), s3] [.int (Int32.ofNat (qot ks).length), .int (Int32.ofNat (1 + (ds.flatMap enc).length))]
        refine oGo.icmp_ge (pc1 := 22) (pc2 := 117) d45_19 rfl (by decide) (fun q => by exfalso; rw [own_lt (by omega) (by omega)] at q; omega) (fun q63 => ?_)
        refine oGo.aload_n (pc' := 23) d45_22 rfl rfl rfl ?_
        refine oGo.iload_n (pc' := 24) d45_23 rfl rfl ?_
        refine oGo.iinc (pc' := 27) (y := 1) (Ls' := #[.val (.ref x), .val (.ref a2), .val (.int ((Int32.ofNat (1 + (ds.flatMap enc).length)) + (1 : Int32))), s3]) d45_24 rfl rfl (by decide) rfl ?_
        rw [own_succ]
        refine oGo.invokevirtual (pc' := 30) (k' := 2) (n' := 14) (a := x) (argsL := [.int (Int32.ofNat (1 + (ds.flatMap enc).length))]) (rest := []) d45_27 rfl (w63 hG) (w64 hG) (w66 hG) (w66 hG) rfl (w65 hG) (w11 hG) (w67 hG) (by decide) pd22 rfl rfl rfl Sx1.1 (c_charAt hG x t (qot ks) (1 + (ds.flatMap enc).length) c e0 _ Sx1) (by simp) (by decide) (Nat.le_of_ble_eq_true rfl) rfl rfl (by decide) (by decide) ?_
        intro v64 h65 sh65 q66
        obtain ⟨rfl, ee⟩ := q66
        obtain rfl := ee.symm
        refine ⟨_, fun _ hx => Or.inl hx, ?_⟩
        show oGo l Z a0 EL True pP eE sS mM _ bB tT cC _ _ _ _ _ _ _ _ [b, a2] h1 2 14 30 #[.val (.ref x), .val (.ref a2), .val (.int (Int32.ofNat (1 + (ds.flatMap enc).length + 1))), s3] [.int c]
        refine oGo.istore_nS (pc' := 31) (Ls' := #[.val (.ref x), .val (.ref a2), .val (.int (Int32.ofNat (1 + (ds.flatMap enc).length + 1))), .val (.int c)]) d45_30 rfl hs3 rfl rfl ?_
        refine oGo.iload_n (pc' := 32) d45_31 rfl rfl ?_
        refine oGo.bipush (pc' := 34) (v := 34) d45_32 rfl (by decide) ?_
        refine oGo.icmp_ne (pc1 := 37) (pc2 := 60) d45_34 rfl (by decide) (fun q67 => ?_) (fun q => absurd (Or.inl q) hsp)
        refine oGo.iload_n (pc' := 61) d45_60 rfl rfl ?_
        refine oGo.bipush (pc' := 63) (v := 92) d45_61 rfl (by decide) ?_
        refine oGo.icmp_ne (pc1 := 66) (pc2 := 108) d45_63 rfl (by decide) (fun q68 => ?_) (fun q => absurd (Or.inr q) hsp)
        refine oGo.aload_n (pc' := 109) d45_108 rfl rfl rfl ?_
        refine oGo.iload_n (pc' := 110) d45_109 rfl rfl ?_
        refine oGo.invokevirtual (pc' := 113) (k' := 2) (n' := 14) (a := a2) (argsL := [.int c]) (rest := []) d45_110 rfl (w219 hG) (w220 hG) (w222 hG) (w222 hG) rfl (w221 hG) (w203 hG) (w223 hG) (by decide) pd31 rfl rfl rfl SB1.1 (c_appC hG a2 b ds (qot ks).length c (by omega) (by omega) (own_pr hcp) _ SB1) (by simp) (by decide) (Nat.le_of_ble_eq_true rfl) rfl rfl (by decide) (by decide) ?_
        intro v69 h70 sh70 q71
        obtain ⟨rfl, K3, SB3⟩ := q71
        refine ⟨_, fun _ hx => Or.inl hx, ?_⟩
        show oGo l Z a0 EL True pP eE sS mM _ bB tT cC _ _ _ _ _ _ _ _ [b, a2] h70 2 14 113 #[.val (.ref x), .val (.ref a2), .val (.int (Int32.ofNat (1 + (ds.flatMap enc).length + 1))), .val (.int c)] [.ref a2]
        refine oGo.pop (pc' := 114) d45_113 rfl rfl ?_
        refine oGo.goto (pc' := 14) d45_114 (by decide) ?_
        rw [show 1 + (ds.flatMap enc).length + 1 = 1 + ((ds ++ [c]).flatMap enc).length by omega]
        exact ih (ds ++ [c]) _ _ (by rw [List.append_assoc]; exact hd) (K1.trans K3 (fun x hx => Or.inl hx)) SB3 (Or.inr ⟨_, rfl, rfl⟩)
  exact loop ks [] h15 _ rfl (Keep.refl _ _) S2 (Or.inl rfl)
abbrev q_parse (Z : State) (h : Heap) (ks : List Int32) : Option Value → Heap → Prop := fun v h' => Keep h h' [] ∧ ∃ key y u : Nat, v = some (.ref key) ∧ Exa Z h' key "com/example/gated_claim/gatedclaim/idempotency/IdempotencyKey" ∧ Fld Z h' key "com/example/gated_claim/gatedclaim/idempotency/IdempotencyKey" "value" "Ljava/lang/String;" (.ref y) ∧ oS Z h' y u ks
set_option maxRecDepth 65536 in
set_option maxHeartbeats 4000000 in
theorem c_parseQ {l : Launch} {Z : State} {a0 : Array Value} {EL : List (String × Nat)} (hG : oG a0 Z EL) (x t : Nat) (cs ks : List Int32) (n1 n2 : Nat) (hk0 : 0 < ks.length) (hk : ks.length ≤ 3) (hpr : ∀ c ∈ ks, ¬ c < 32 ∧ ¬ 126 < c) (H : oWs cs n1 n2) (hb : (cs.drop n1).take (n2 - n1) = qot ks) (h : Heap) (Sx : oS Z h x t cs) :
    oCtr [] l Z a0 EL True (⟨"com/example/gated_claim/gatedclaim/idempotency/IdempotencyKey", "parse", "(Ljava/lang/String;)Lcom/example/gated_claim/gatedclaim/idempotency/IdempotencyKey;"⟩ : MethodName) prog_2_method_2_code 2 (some (.object "com/example/gated_claim/gatedclaim/idempotency/IdempotencyKey")) ({ frames := 7, cells := 16, slots := 300, locals := 108 } : Room) #[.ref x] [] h ((q_parse Z h ks)) oNo := by
  refine oCtr.enter (Ls := #[.val (.ref x), .unset]) (plainFor_of_name pn10) hG.2.1 (fun m => by first | (simp [entryFrame, mkF, argsToLocals, Value.category]; done) | rfl) ?_
  intro pP eE sS mM bB tT cC
  refine oGo.aload_n (pc' := 1) d9_0 rfl rfl rfl ?_
  refine oGo.ldc_op (pc' := 3) (k' := 2) (n' := 44) d9_1 rfl trivial (w42 hG) (strAt hG) (by decide) rfl rfl (by decide) (by decide) ?_
  intro h1 a2 E3
  have sh1 := E3.1
  refine oGo.invokestatic (pc' := 6) (k' := 2) (n' := 44) (argsL := [.ref x, .ref a2]) (rest := []) d9_3 rfl (w45 hG) (w46 hG) (w47 hG) (w48 hG) (by decide) pd29 rfl rfl rfl (c_rnn hG x a2 _) (by simp) (by decide) (Nat.le_of_ble_eq_true rfl) rfl rfl (by decide) (by decide) ?_
  intro v4 h5 sh5 q6
  obtain ⟨rfl, ee⟩ := q6
  obtain rfl := ee.symm
  refine ⟨_, fun _ hx => Or.inl hx, ?_⟩
  show oGo l Z a0 EL True pP eE sS mM _ bB tT cC _ _ _ _ _ _ _ _ [] h1 2 44 6 #[.val (.ref x), .unset] [.ref x]
  have f7 := Exa.ext E3 Sx.1
  refine oGo.checkcast (Cn := "") (pc' := 9) d9_6 rfl (w49 hG) (Ins.self f7) ?_
  have f8 := Sx.ext E3
  refine oGo.invokestatic (pc' := 12) (k' := 4) (n' := 58) (argsL := [.ref x]) (rest := []) d9_9 rfl (w50 hG) (w51 hG) (w40 hG) (w52 hG) (by decide) pd32 rfl rfl rfl (c_strip hG x t cs n1 n2 H _ f8) (by simp) (by decide) (Nat.le_of_ble_eq_true rfl) rfl rfl (by decide) (by decide) ?_
  intro v9 h10 sh10 q11
  obtain ⟨K2, y, u, rfl, S2⟩ := q11
  rw [hb] at S2
  have ly := own_ltN S2.1.lt
  have lu := own_ltN S2.2.2.2.1.lt
  refine ⟨_, fun _ hx => Or.inl hx, ?_⟩
  show oGo l Z a0 EL True pP eE sS mM _ bB tT cC _ _ _ _ _ _ _ _ [] h10 4 58 12 #[.val (.ref x), .unset] [.ref y]
  refine oGo.astore_n (pc' := 13) (Ls' := #[.val (.ref x), .val (.ref y)]) d9_12 rfl rfl rfl ?_
  refine oGo.aload_n (pc' := 14) d9_13 rfl rfl rfl ?_
  refine oGo.ldc_str (pc' := 16) (k' := 6) (n' := 66) (vs := oI (([34] : List Int32).map lo8)) d9_14 rfl trivial (w125 hG) (strAt hG) (hG.2.2.2 _ (by decide)) (by decide) (by decide) rfl rfl (by decide) (by decide) ?_
  intro h12 a13 b14 E15 Xa13 Ca13 Va13 Ba13 la13 lb14 na13
  have S16 : oS Z h12 a13 b14 [34] := ⟨Xa13, Va13, Ca13, Ba13, by decide⟩
  have f17 := S2.ext E15
  have f21 := Exa.ext E15 S2.1
  refine oGo.invokevirtual (pc' := 19) (k' := 6) (n' := 66) (a := y) (argsL := [.ref a13]) (rest := []) d9_16 rfl (w126 hG) (w127 hG) (w129 hG) (w129 hG) rfl (w128 hG) (w11 hG) (w130 hG) (by decide) pd33 rfl rfl rfl f21 (c_sw1 hG y u a13 b14 (qot ks) 34 rfl _ f17 S16) (by simp) (by decide) (Nat.le_of_ble_eq_true rfl) rfl rfl (by decide) (by decide) ?_
  intro v18 h19 sh19 q20
  obtain ⟨rfl, ee⟩ := q20
  obtain rfl := ee.symm
  refine ⟨_, fun _ hx => Or.inl hx, ?_⟩
  show oGo l Z a0 EL True pP eE sS mM _ bB tT cC _ _ _ _ _ _ _ _ [] h12 6 66 19 #[.val (.ref x), .val (.ref y)] [.int (1 : Int32)]
  refine oGo.if_eq (pc1 := 22) (pc2 := 34) d9_19 rfl (by decide) (fun q => by first | exact absurd q (by decide) | exact absurd (by decide) q) (fun q22 => ?_)
  refine oGo.new (pc' := 25) (k' := 7) (n' := 67) d9_22 rfl (w163 hG) (w164 hG) (w40 hG) rfl rfl (by decide) (by decide) ?_
  intro h23 a24 qa24 la24 E25 X26 F27
  have f28 := F27 (Or.inr (w181 hG)) (ty := (.object "java/lang/String")) (by decide)
  refine oGo.dup (pc' := 26) d9_25 rfl rfl ?_
  refine oGo.aload_n (pc' := 27) d9_26 rfl rfl rfl ?_
  have h10 : (qot ks).length ≤ 10 := by rw [← hb]; obtain ⟨e1, e2, e3, -⟩ := H; simp only [List.length_take, List.length_drop]; omega
  have f29 := f17.ext E25
  refine oGo.invokestatic (pc' := 30) (k' := 12) (n' := 107) (argsL := [.ref y]) (rest := [.ref a24, .ref a24]) d9_27 rfl (w198 hG) (w199 hG) (w40 hG) (w200 hG) (by decide) pd32 rfl rfl rfl (c_unq hG y u ks hk hpr h10 _ f29) (by simp) (by decide) (Nat.le_of_ble_eq_true rfl) rfl rfl (by decide) (by decide) ?_
  intro v30 h31 sh31 q32
  obtain ⟨K3, z, zu, rfl, gz, gzu, S3⟩ := q32
  refine ⟨_, fun _ hx => Or.inl hx, ?_⟩
  show oGo l Z a0 EL True pP eE sS mM _ bB tT cC _ _ _ _ _ _ _ _ [a24] h31 12 107 30 #[.val (.ref x), .val (.ref y)] [.ref z, .ref a24, .ref a24]
  have f33 := Exa.keep X26 K3
  have f34 := Fld.keep f28 K3 nin0
  refine oGo.invokespecial (pc' := 33) (k' := 14) (n' := 131) (a := a24) (argsL := [.ref z]) (rest := [.ref a24]) d9_30 rfl rfl (w165 hG) (w166 hG) (w40 hG) (w167 hG) (by decide) pd34 rfl rfl rfl (c_ik hG a24 z zu ks hk0 hk hpr _ f33 f34 S3) (by simp) (by decide) (Nat.le_of_ble_eq_true rfl) rfl rfl (by decide) (by decide) ?_
  intro v35 h36 sh36 q37
  obtain ⟨rfl, K4, E4, G4⟩ := q37
  refine ⟨_, fun _ hx => Or.inl hx, ?_⟩
  show oGo l Z a0 EL True pP eE sS mM _ bB tT cC _ _ _ _ _ _ _ _ [a24] h36 14 131 33 #[.val (.ref x), .val (.ref y)] [.ref a24]
  have z38 := own_le_le (x := h.size) (Nat.le_refl _) E3.1
  have z39 := own_le_le (x := h.size) z38 K2.1
  have z40 := own_le_le (x := h.size) z39 E15.1
  have K41 : Keep h h36 [] := (((((((Keep.refl h []).ext E3).trans K2 (by simp)).ext E15).ext E25).trans K3 (by simp)).trans K4 (own_new1 (own_le_le (x := h.size) z40 (own_ge_eq qa24))))
  have f42 := S3.keep K4 (own_nin1 (own_ne_ge' (x := a24) (y := z) la24 gz)) (own_nin1 (own_ne_ge' (x := a24) (y := zu) la24 gzu))
  exact oGo.areturn d9_33 rfl rfl rfl rfl (by decide) (by decide) ⟨K41, a24, z, zu, rfl, E4, G4, f42⟩ (fun _ q => q.elim)
set_option maxRecDepth 65536 in
set_option maxHeartbeats 4000000 in
theorem c_parseB {l : Launch} {Z : State} {a0 : Array Value} {EL : List (String × Nat)} (hG : oG a0 Z EL) (x t : Nat) (cs ks : List Int32) (n1 n2 : Nat) (hk0 : 0 < ks.length) (hk : ks.length ≤ 3) (hpr : ∀ c ∈ ks, ¬ c < 32 ∧ ¬ 126 < c) (hno : ∀ c ∈ ks, c ≠ 32 ∧ c ≠ 34) (H : oWs cs n1 n2) (hb : (cs.drop n1).take (n2 - n1) = ks) (h : Heap) (Sx : oS Z h x t cs) :
    oCtr [] l Z a0 EL True (⟨"com/example/gated_claim/gatedclaim/idempotency/IdempotencyKey", "parse", "(Ljava/lang/String;)Lcom/example/gated_claim/gatedclaim/idempotency/IdempotencyKey;"⟩ : MethodName) prog_2_method_2_code 2 (some (.object "com/example/gated_claim/gatedclaim/idempotency/IdempotencyKey")) ({ frames := 6, cells := 16, slots := 300, locals := 94 } : Room) #[.ref x] [] h ((q_parse Z h ks)) oNo := by
  refine oCtr.enter (Ls := #[.val (.ref x), .unset]) (plainFor_of_name pn10) hG.2.1 (fun m => by first | (simp [entryFrame, mkF, argsToLocals, Value.category]; done) | rfl) ?_
  intro pP eE sS mM bB tT cC
  refine oGo.aload_n (pc' := 1) d9_0 rfl rfl rfl ?_
  refine oGo.ldc_op (pc' := 3) (k' := 2) (n' := 44) d9_1 rfl trivial (w42 hG) (strAt hG) (by decide) rfl rfl (by decide) (by decide) ?_
  intro h1 a2 E3
  have sh1 := E3.1
  refine oGo.invokestatic (pc' := 6) (k' := 2) (n' := 44) (argsL := [.ref x, .ref a2]) (rest := []) d9_3 rfl (w45 hG) (w46 hG) (w47 hG) (w48 hG) (by decide) pd29 rfl rfl rfl (c_rnn hG x a2 _) (by simp) (by decide) (Nat.le_of_ble_eq_true rfl) rfl rfl (by decide) (by decide) ?_
  intro v4 h5 sh5 q6
  obtain ⟨rfl, ee⟩ := q6
  obtain rfl := ee.symm
  refine ⟨_, fun _ hx => Or.inl hx, ?_⟩
  show oGo l Z a0 EL True pP eE sS mM _ bB tT cC _ _ _ _ _ _ _ _ [] h1 2 44 6 #[.val (.ref x), .unset] [.ref x]
  have f7 := Exa.ext E3 Sx.1
  refine oGo.checkcast (Cn := "") (pc' := 9) d9_6 rfl (w49 hG) (Ins.self f7) ?_
  have f8 := Sx.ext E3
  refine oGo.invokestatic (pc' := 12) (k' := 4) (n' := 58) (argsL := [.ref x]) (rest := []) d9_9 rfl (w50 hG) (w51 hG) (w40 hG) (w52 hG) (by decide) pd32 rfl rfl rfl (c_strip hG x t cs n1 n2 H _ f8) (by simp) (by decide) (Nat.le_of_ble_eq_true rfl) rfl rfl (by decide) (by decide) ?_
  intro v9 h10 sh10 q11
  obtain ⟨K2, y, u, rfl, S2⟩ := q11
  rw [hb] at S2
  have ly := own_ltN S2.1.lt
  have lu := own_ltN S2.2.2.2.1.lt
  refine ⟨_, fun _ hx => Or.inl hx, ?_⟩
  show oGo l Z a0 EL True pP eE sS mM _ bB tT cC _ _ _ _ _ _ _ _ [] h10 4 58 12 #[.val (.ref x), .unset] [.ref y]
  refine oGo.astore_n (pc' := 13) (Ls' := #[.val (.ref x), .val (.ref y)]) d9_12 rfl rfl rfl ?_
  refine oGo.aload_n (pc' := 14) d9_13 rfl rfl rfl ?_
  refine oGo.ldc_str (pc' := 16) (k' := 6) (n' := 66) (vs := oI (([34] : List Int32).map lo8)) d9_14 rfl trivial (w125 hG) (strAt hG) (hG.2.2.2 _ (by decide)) (by decide) (by decide) rfl rfl (by decide) (by decide) ?_
  intro h12 a13 b14 E15 Xa13 Ca13 Va13 Ba13 la13 lb14 na13
  have S16 : oS Z h12 a13 b14 [34] := ⟨Xa13, Va13, Ca13, Ba13, by decide⟩
  obtain ⟨c0, hc0⟩ : ∃ c, ks[0]? = some c := ⟨_, List.getElem?_eq_getElem hk0⟩
  have hc34 := (hno c0 (List.mem_of_getElem? hc0)).2
  have f17 := S2.ext E15
  have f21 := Exa.ext E15 S2.1
  refine oGo.invokevirtual (pc' := 19) (k' := 6) (n' := 66) (a := y) (argsL := [.ref a13]) (rest := []) d9_16 rfl (w126 hG) (w127 hG) (w129 hG) (w129 hG) rfl (w128 hG) (w11 hG) (w130 hG) (by decide) pd33 rfl rfl rfl f21 (c_sw1 hG y u a13 b14 ks c0 hc0 _ f17 S16) (by simp) (by decide) (Nat.le_of_ble_eq_true rfl) rfl rfl (by decide) (by decide) ?_
  intro v18 h19 sh19 q20
  obtain ⟨rfl, ee⟩ := q20
  obtain rfl := ee.symm
  refine ⟨_, fun _ hx => Or.inl hx, ?_⟩
  show oGo l Z a0 EL True pP eE sS mM _ bB tT cC _ _ _ _ _ _ _ _ [] h12 6 66 19 #[.val (.ref x), .val (.ref y)] [.int (if c0 = 34 then 1 else 0)]
  rw [if_neg hc34]
  refine oGo.if_eq (pc1 := 22) (pc2 := 34) d9_19 rfl (by decide) (fun q22 => ?_) (fun q => by first | exact absurd q (by decide) | exact absurd (by decide) q)
  refine oGo.aload_n (pc' := 35) d9_34 rfl rfl rfl ?_
  refine oGo.bipush (pc' := 37) (v := 32) d9_35 rfl (by decide) ?_
  refine oGo.invokevirtual (pc' := 40) (k' := 6) (n' := 66) (a := y) (argsL := [.int (32 : Int32)]) (rest := []) d9_37 rfl (w140 hG) (w141 hG) (w143 hG) (w143 hG) rfl (w142 hG) (w11 hG) (w144 hG) (by decide) pd35 rfl rfl rfl f21 (c_io1 hG y u ks 32 (by decide) (fun c hc => (hno c hc).1) hk0 _ f17) (by simp) (by decide) (Nat.le_of_ble_eq_true rfl) rfl rfl (by decide) (by decide) ?_
  intro v23 h24 sh24 q25
  obtain ⟨rfl, ee⟩ := q25
  obtain rfl := ee.symm
  refine ⟨_, fun _ hx => Or.inl hx, ?_⟩
  show oGo l Z a0 EL True pP eE sS mM _ bB tT cC _ _ _ _ _ _ _ _ [] h12 6 66 40 #[.val (.ref x), .val (.ref y)] [.int (-1 : Int32)]
  refine oGo.if_ge (pc1 := 43) (pc2 := 52) d9_40 rfl (by decide) (fun q => by first | exact absurd q (by decide) | exact absurd (by decide) q) (fun q26 => ?_)
  refine oGo.aload_n (pc' := 44) d9_43 rfl rfl rfl ?_
  refine oGo.bipush (pc' := 46) (v := 34) d9_44 rfl (by decide) ?_
  refine oGo.invokevirtual (pc' := 49) (k' := 6) (n' := 66) (a := y) (argsL := [.int (34 : Int32)]) (rest := []) d9_46 rfl (w140 hG) (w141 hG) (w143 hG) (w143 hG) rfl (w142 hG) (w11 hG) (w144 hG) (by decide) pd35 rfl rfl rfl f21 (c_io1 hG y u ks 34 (by decide) (fun c hc => (hno c hc).2) hk0 _ f17) (by simp) (by decide) (Nat.le_of_ble_eq_true rfl) rfl rfl (by decide) (by decide) ?_
  intro v27 h28 sh28 q29
  obtain ⟨rfl, ee⟩ := q29
  obtain rfl := ee.symm
  refine ⟨_, fun _ hx => Or.inl hx, ?_⟩
  show oGo l Z a0 EL True pP eE sS mM _ bB tT cC _ _ _ _ _ _ _ _ [] h12 6 66 49 #[.val (.ref x), .val (.ref y)] [.int (-1 : Int32)]
  refine oGo.if_lt (pc1 := 52) (pc2 := 62) d9_49 rfl (by decide) (fun q30 => ?_) (fun q => by first | exact absurd q (by decide) | exact absurd (by decide) q)
  refine oGo.new (pc' := 65) (k' := 7) (n' := 67) d9_62 rfl (w163 hG) (w164 hG) (w40 hG) rfl rfl (by decide) (by decide) ?_
  intro h31 a32 qa32 la32 E33 X34 F35
  have f36 := F35 (Or.inr (w181 hG)) (ty := (.object "java/lang/String")) (by decide)
  refine oGo.dup (pc' := 66) d9_65 rfl rfl ?_
  refine oGo.aload_n (pc' := 67) d9_66 rfl rfl rfl ?_
  have f37 := f17.ext E33
  refine oGo.invokespecial (pc' := 70) (k' := 9) (n' := 91) (a := a32) (argsL := [.ref y]) (rest := [.ref a32]) d9_67 rfl rfl (w165 hG) (w166 hG) (w40 hG) (w167 hG) (by decide) pd34 rfl rfl rfl (c_ik hG a32 y u ks hk0 hk hpr _ X34 f36 f37) (by simp) (by decide) (Nat.le_of_ble_eq_true rfl) rfl rfl (by decide) (by decide) ?_
  intro v38 h39 sh39 q40
  obtain ⟨rfl, K4, E4, G4⟩ := q40
  refine ⟨_, fun _ hx => Or.inl hx, ?_⟩
  show oGo l Z a0 EL True pP eE sS mM _ bB tT cC _ _ _ _ _ _ _ _ [a32] h39 9 91 70 #[.val (.ref x), .val (.ref y)] [.ref a32]
  have z41 := own_le_le (x := h.size) (Nat.le_refl _) E3.1
  have z42 := own_le_le (x := h.size) z41 K2.1
  have z43 := own_le_le (x := h.size) z42 E15.1
  have K44 : Keep h h39 [] := ((((((Keep.refl h []).ext E3).trans K2 (by simp)).ext E15).ext E33).trans K4 (own_new1 (own_le_le (x := h.size) z43 (own_ge_eq qa32))))
  have g46 := own_lt_le (x := y) ly E15.1
  have g47 := own_lt_le (x := u) lu E15.1
  have f45 := f37.keep K4 (own_nin1 (own_ne_ge (x := y) (y := a32) g46 (own_ge_eq qa32))) (own_nin1 (own_ne_ge (x := u) (y := a32) g47 (own_ge_eq qa32)))
  exact oGo.areturn d9_70 rfl rfl rfl rfl (by decide) (by decide) ⟨K44, a32, y, u, rfl, E4, G4, f45⟩ (fun _ q => q.elim)
set_option maxRecDepth 65536 in
set_option maxHeartbeats 4000000 in
theorem c_value {l : Launch} {Z : State} {a0 : Array Value} {EL : List (String × Nat)} (hG : oG a0 Z EL) (key y : Nat) (h : Heap) (F1 : Fld Z h key "com/example/gated_claim/gatedclaim/idempotency/IdempotencyKey" "value" "Ljava/lang/String;" (.ref y)) :
    oCtr [] l Z a0 EL True (⟨"com/example/gated_claim/gatedclaim/idempotency/IdempotencyKey", "value", "()Ljava/lang/String;"⟩ : MethodName) prog_2_method_9_code 1 (some (.object "java/lang/String")) ({ frames := 0, cells := 0, slots := 0, locals := 0 } : Room) #[.ref key] [] h (fun v h' => v = some (.ref y) ∧ h' = h) oNo := by
  refine oCtr.enter (Ls := #[.val (.ref key)]) (plainFor_of_name pn10) hG.2.1 (fun m => by first | (simp [entryFrame, mkF, argsToLocals, Value.category]; done) | rfl) ?_
  intro pP eE sS mM bB tT cC
  refine oGo.aload_n (pc' := 1) d41_0 rfl rfl rfl ?_
  refine oGo.getfield (pc' := 4) d41_1 rfl (w180 hG) Via.refl F1 ?_
  exact oGo.areturn d41_4 rfl rfl rfl rfl (by decide) (by decide) ⟨rfl, rfl⟩ (fun _ q => q.elim)
set_option maxRecDepth 65536 in
set_option maxHeartbeats 4000000 in
theorem c_law {l : Launch} {Z : State} {a0 : Array Value} {EL : List (String × Nat)} (hG : oG a0 Z EL) (i0 i1 i2 i3 i4 : Int32) (h : Heap)  :
    oCtr tables_1 l Z a0 EL True (⟨"com/example/gated_claim/gatedclaim/idempotency/IdempotencyKeyParsePinLaw", "law", "(IIIII)Z"⟩ : MethodName) code 16 (some .boolean) room_1 #[.int i0, .int i1, .int i2, .int i3, .int i4] [] h (fun v h' => v = some (.int 1)) oNo := by
  refine oCtr.enter (Ls := #[.val (.int i0), .val (.int i1), .val (.int i2), .val (.int i3), .val (.int i4), .unset, .unset, .unset, .unset, .unset, .unset, .unset, .unset, .unset, .unset, .unset]) (plainFor_of_name pn9) hG.2.1 (fun m => by first | (simp [entryFrame, mkF, argsToLocals, Value.category]; done) | rfl) ?_
  intro pP eE sS mM bB tT cC
  refine oGo.iload_n (pc' := 1) at_0 rfl rfl ?_
  refine oGo.iconst (pc' := 2) (v := 1) at_1 rfl (by decide) ?_
  refine oGo.iand (pc' := 3) at_2 rfl ?_
  refine oGo.boolz (pc' := 11) at_3 at_6 at_7 at_10 rfl ?_
  intro z hz
  refine oGo.istore (pc' := 13) (Ls' := #[.val (.int i0), .val (.int i1), .val (.int i2), .val (.int i3), .val (.int i4), .val (.int z), .unset, .unset, .unset, .unset, .unset, .unset, .unset, .unset, .unset, .unset]) at_11 rfl rfl ?_
  refine oGo.iload_n (pc' := 14) at_13 rfl rfl ?_
  refine oGo.iconst (pc' := 15) (v := 1) at_14 rfl (by decide) ?_
  refine oGo.iushr (pc' := 16) at_15 rfl ?_
  refine oGo.iconst (pc' := 17) (v := 3) at_16 rfl (by decide) ?_
  refine oGo.iand (pc' := 18) at_17 rfl ?_
  refine oGo.iconst (pc' := 19) (v := 3) at_18 rfl (by decide) ?_
  refine oGo.irem (pc' := 20) at_19 rfl (by decide) ?_
  obtain ⟨ld, hld, eld⟩ := own_r3 (XT.ushr i0 1)
  rw [eld]
  refine oGo.istore (pc' := 22) (Ls' := #[.val (.int i0), .val (.int i1), .val (.int i2), .val (.int i3), .val (.int i4), .val (.int z), .val (.int (Int32.ofNat ld)), .unset, .unset, .unset, .unset, .unset, .unset, .unset, .unset, .unset]) at_20 rfl rfl ?_
  refine oGo.iload_n (pc' := 23) at_22 rfl rfl ?_
  refine oGo.iconst (pc' := 24) (v := 3) at_23 rfl (by decide) ?_
  refine oGo.iushr (pc' := 25) at_24 rfl ?_
  refine oGo.iconst (pc' := 26) (v := 3) at_25 rfl (by decide) ?_
  refine oGo.iand (pc' := 27) at_26 rfl ?_
  refine oGo.iconst (pc' := 28) (v := 3) at_27 rfl (by decide) ?_
  refine oGo.irem (pc' := 29) at_28 rfl (by decide) ?_
  obtain ⟨ct, hct, ect⟩ := own_r3 (XT.ushr i0 3)
  rw [ect]
  refine oGo.iconst (pc' := 30) (v := 1) at_29 rfl (by decide) ?_
  refine oGo.iadd (pc' := 31) at_30 rfl ?_
  rw [own_succ ct]
  refine oGo.istore (pc' := 33) (Ls' := #[.val (.int i0), .val (.int i1), .val (.int i2), .val (.int i3), .val (.int i4), .val (.int z), .val (.int (Int32.ofNat ld)), .val (.int (Int32.ofNat (ct + 1))), .unset, .unset, .unset, .unset, .unset, .unset, .unset, .unset]) at_31 rfl rfl ?_
  refine oGo.bipush (pc' := 35) (v := 10) at_33 rfl (by decide) ?_
  refine oGo.newarray (pc' := 37) (k' := 1) (n' := 10) (i := 10) at_35 rfl (w0 hG) rfl 10 (by decide) (by decide) rfl rfl (by decide) (by decide) (by decide) ?_
  intro h1 a2 qa2 la2 E3 A4'
  have A4 : oArr Z h1 a2 .char (List.replicate (10) (.int 0)) := A4'
  refine oGo.astore (pc' := 39) (Ls' := #[.val (.int i0), .val (.int i1), .val (.int i2), .val (.int i3), .val (.int i4), .val (.int z), .val (.int (Int32.ofNat ld)), .val (.int (Int32.ofNat (ct + 1))), .val (.ref a2), .unset, .unset, .unset, .unset, .unset, .unset, .unset]) at_37 rfl rfl rfl ?_
  refine oGo.aload (pc' := 41) at_39 rfl rfl rfl ?_
  refine oGo.iconst (pc' := 42) (v := 0) at_41 rfl (by decide) ?_
  refine oGo.iload (pc' := 44) at_42 rfl rfl ?_
  refine oGo.iconst (pc' := 45) (v := 0) at_44 rfl (by decide) ?_
  refine oGo.invokestatic (pc' := 48) (k' := 1) (n' := 10) (argsL := [.int i4, .int (0 : Int32)]) (rest := [.int (0 : Int32), .ref a2]) at_45 rfl (w1 hG) (w2 hG) (w3 hG) (w4 hG) (by decide) pd36 rfl rfl rfl (c_ws hG i4 0 _) (by simp) (by decide) (Nat.le_of_ble_eq_true rfl) rfl rfl (by decide) (by decide) ?_
  intro v5 h6 sh6 q7
  obtain ⟨⟨wc0, rfl, hwc0⟩, ee⟩ := q7
  obtain rfl := ee.symm
  have bwc0 := own_isw hwc0
  refine ⟨_, fun _ hx => Or.inl hx, ?_⟩
  show oGo l Z a0 EL True pP eE sS mM _ bB tT cC _ _ _ _ _ _ _ _ [a2] h1 1 10 48 #[.val (.int i0), .val (.int i1), .val (.int i2), .val (.int i3), .val (.int i4), .val (.int z), .val (.int (Int32.ofNat ld)), .val (.int (Int32.ofNat (ct + 1))), .val (.ref a2), .unset, .unset, .unset, .unset, .unset, .unset, .unset] [.int wc0, .int (0 : Int32), .ref a2]
  refine oGo.castore (pc' := 49) (i := 0) (w := wc0) at_48 rfl A4 rfl (by simp) (nar_char bwc0.1 (own_255 bwc0.2)) (by simp) ?_
  intro h8 W9 sh8 A10
  refine oGo.aload (pc' := 51) at_49 rfl rfl rfl ?_
  refine oGo.iconst (pc' := 52) (v := 1) at_51 rfl (by decide) ?_
  refine oGo.iload (pc' := 54) at_52 rfl rfl ?_
  refine oGo.iconst (pc' := 55) (v := 1) at_54 rfl (by decide) ?_
  refine oGo.invokestatic (pc' := 58) (k' := 1) (n' := 10) (argsL := [.int i4, .int (1 : Int32)]) (rest := [.int (1 : Int32), .ref a2]) at_55 rfl (w1 hG) (w2 hG) (w3 hG) (w4 hG) (by decide) pd36 rfl rfl rfl (c_ws hG i4 1 _) (by simp) (by decide) (Nat.le_of_ble_eq_true rfl) rfl rfl (by decide) (by decide) ?_
  intro v11 h12 sh12 q13
  obtain ⟨⟨wc1, rfl, hwc1⟩, ee⟩ := q13
  obtain rfl := ee.symm
  have bwc1 := own_isw hwc1
  refine ⟨_, fun _ hx => Or.inl hx, ?_⟩
  show oGo l Z a0 EL True pP eE sS mM _ bB tT cC _ _ _ _ _ _ _ _ [a2] h8 1 10 58 #[.val (.int i0), .val (.int i1), .val (.int i2), .val (.int i3), .val (.int i4), .val (.int z), .val (.int (Int32.ofNat ld)), .val (.int (Int32.ofNat (ct + 1))), .val (.ref a2), .unset, .unset, .unset, .unset, .unset, .unset, .unset] [.int wc1, .int (1 : Int32), .ref a2]
  refine oGo.castore (pc' := 59) (i := 1) (w := wc1) at_58 rfl A10 rfl (by simp) (nar_char bwc1.1 (own_255 bwc1.2)) (by simp) ?_
  intro h14 W15 sh14 A16
  refine oGo.aload (pc' := 61) at_59 rfl rfl rfl ?_
  refine oGo.iconst (pc' := 62) (v := 2) at_61 rfl (by decide) ?_
  refine oGo.iload (pc' := 64) at_62 rfl rfl ?_
  refine oGo.iconst (pc' := 65) (v := 2) at_64 rfl (by decide) ?_
  refine oGo.invokestatic (pc' := 68) (k' := 1) (n' := 10) (argsL := [.int i4, .int (2 : Int32)]) (rest := [.int (2 : Int32), .ref a2]) at_65 rfl (w1 hG) (w2 hG) (w3 hG) (w4 hG) (by decide) pd36 rfl rfl rfl (c_ws hG i4 2 _) (by simp) (by decide) (Nat.le_of_ble_eq_true rfl) rfl rfl (by decide) (by decide) ?_
  intro v17 h18 sh18 q19
  obtain ⟨⟨wc2, rfl, hwc2⟩, ee⟩ := q19
  obtain rfl := ee.symm
  have bwc2 := own_isw hwc2
  refine ⟨_, fun _ hx => Or.inl hx, ?_⟩
  show oGo l Z a0 EL True pP eE sS mM _ bB tT cC _ _ _ _ _ _ _ _ [a2] h14 1 10 68 #[.val (.int i0), .val (.int i1), .val (.int i2), .val (.int i3), .val (.int i4), .val (.int z), .val (.int (Int32.ofNat ld)), .val (.int (Int32.ofNat (ct + 1))), .val (.ref a2), .unset, .unset, .unset, .unset, .unset, .unset, .unset] [.int wc2, .int (2 : Int32), .ref a2]
  refine oGo.castore (pc' := 69) (i := 2) (w := wc2) at_68 rfl A16 rfl (by simp) (nar_char bwc2.1 (own_255 bwc2.2)) (by simp) ?_
  intro h20 W21 sh20 A22
  refine oGo.aload (pc' := 71) at_69 rfl rfl rfl ?_
  refine oGo.iconst (pc' := 72) (v := 3) at_71 rfl (by decide) ?_
  refine oGo.iload (pc' := 74) at_72 rfl rfl ?_
  refine oGo.iconst (pc' := 75) (v := 3) at_74 rfl (by decide) ?_
  refine oGo.invokestatic (pc' := 78) (k' := 1) (n' := 10) (argsL := [.int i4, .int (3 : Int32)]) (rest := [.int (3 : Int32), .ref a2]) at_75 rfl (w1 hG) (w2 hG) (w3 hG) (w4 hG) (by decide) pd36 rfl rfl rfl (c_ws hG i4 3 _) (by simp) (by decide) (Nat.le_of_ble_eq_true rfl) rfl rfl (by decide) (by decide) ?_
  intro v23 h24 sh24 q25
  obtain ⟨⟨wc3, rfl, hwc3⟩, ee⟩ := q25
  obtain rfl := ee.symm
  have bwc3 := own_isw hwc3
  refine ⟨_, fun _ hx => Or.inl hx, ?_⟩
  show oGo l Z a0 EL True pP eE sS mM _ bB tT cC _ _ _ _ _ _ _ _ [a2] h20 1 10 78 #[.val (.int i0), .val (.int i1), .val (.int i2), .val (.int i3), .val (.int i4), .val (.int z), .val (.int (Int32.ofNat ld)), .val (.int (Int32.ofNat (ct + 1))), .val (.ref a2), .unset, .unset, .unset, .unset, .unset, .unset, .unset] [.int wc3, .int (3 : Int32), .ref a2]
  refine oGo.castore (pc' := 79) (i := 3) (w := wc3) at_78 rfl A22 rfl (by simp) (nar_char bwc3.1 (own_255 bwc3.2)) (by simp) ?_
  intro h26 W27 sh26 A28
  refine oGo.aload (pc' := 81) at_79 rfl rfl rfl ?_
  refine oGo.iconst (pc' := 82) (v := 4) at_81 rfl (by decide) ?_
  refine oGo.iload (pc' := 84) at_82 rfl rfl ?_
  refine oGo.iconst (pc' := 85) (v := 4) at_84 rfl (by decide) ?_
  refine oGo.invokestatic (pc' := 88) (k' := 1) (n' := 10) (argsL := [.int i4, .int (4 : Int32)]) (rest := [.int (4 : Int32), .ref a2]) at_85 rfl (w1 hG) (w2 hG) (w3 hG) (w4 hG) (by decide) pd36 rfl rfl rfl (c_ws hG i4 4 _) (by simp) (by decide) (Nat.le_of_ble_eq_true rfl) rfl rfl (by decide) (by decide) ?_
  intro v29 h30 sh30 q31
  obtain ⟨⟨wc4, rfl, hwc4⟩, ee⟩ := q31
  obtain rfl := ee.symm
  have bwc4 := own_isw hwc4
  refine ⟨_, fun _ hx => Or.inl hx, ?_⟩
  show oGo l Z a0 EL True pP eE sS mM _ bB tT cC _ _ _ _ _ _ _ _ [a2] h26 1 10 88 #[.val (.int i0), .val (.int i1), .val (.int i2), .val (.int i3), .val (.int i4), .val (.int z), .val (.int (Int32.ofNat ld)), .val (.int (Int32.ofNat (ct + 1))), .val (.ref a2), .unset, .unset, .unset, .unset, .unset, .unset, .unset] [.int wc4, .int (4 : Int32), .ref a2]
  refine oGo.castore (pc' := 89) (i := 4) (w := wc4) at_88 rfl A28 rfl (by simp) (nar_char bwc4.1 (own_255 bwc4.2)) (by simp) ?_
  intro h32 W33 sh32 A34
  refine oGo.aload (pc' := 91) at_89 rfl rfl rfl ?_
  refine oGo.iconst (pc' := 92) (v := 5) at_91 rfl (by decide) ?_
  refine oGo.iload (pc' := 94) at_92 rfl rfl ?_
  refine oGo.iconst (pc' := 95) (v := 5) at_94 rfl (by decide) ?_
  refine oGo.invokestatic (pc' := 98) (k' := 1) (n' := 10) (argsL := [.int i4, .int (5 : Int32)]) (rest := [.int (5 : Int32), .ref a2]) at_95 rfl (w1 hG) (w2 hG) (w3 hG) (w4 hG) (by decide) pd36 rfl rfl rfl (c_ws hG i4 5 _) (by simp) (by decide) (Nat.le_of_ble_eq_true rfl) rfl rfl (by decide) (by decide) ?_
  intro v35 h36 sh36 q37
  obtain ⟨⟨wc5, rfl, hwc5⟩, ee⟩ := q37
  obtain rfl := ee.symm
  have bwc5 := own_isw hwc5
  refine ⟨_, fun _ hx => Or.inl hx, ?_⟩
  show oGo l Z a0 EL True pP eE sS mM _ bB tT cC _ _ _ _ _ _ _ _ [a2] h32 1 10 98 #[.val (.int i0), .val (.int i1), .val (.int i2), .val (.int i3), .val (.int i4), .val (.int z), .val (.int (Int32.ofNat ld)), .val (.int (Int32.ofNat (ct + 1))), .val (.ref a2), .unset, .unset, .unset, .unset, .unset, .unset, .unset] [.int wc5, .int (5 : Int32), .ref a2]
  refine oGo.castore (pc' := 99) (i := 5) (w := wc5) at_98 rfl A34 rfl (by simp) (nar_char bwc5.1 (own_255 bwc5.2)) (by simp) ?_
  intro h38 W39 sh38 A40
  refine oGo.aload (pc' := 101) at_99 rfl rfl rfl ?_
  refine oGo.bipush (pc' := 103) (v := 6) at_101 rfl (by decide) ?_
  refine oGo.iload (pc' := 105) at_103 rfl rfl ?_
  refine oGo.bipush (pc' := 107) (v := 6) at_105 rfl (by decide) ?_
  refine oGo.invokestatic (pc' := 110) (k' := 1) (n' := 10) (argsL := [.int i4, .int (6 : Int32)]) (rest := [.int (6 : Int32), .ref a2]) at_107 rfl (w1 hG) (w2 hG) (w3 hG) (w4 hG) (by decide) pd36 rfl rfl rfl (c_ws hG i4 6 _) (by simp) (by decide) (Nat.le_of_ble_eq_true rfl) rfl rfl (by decide) (by decide) ?_
  intro v41 h42 sh42 q43
  obtain ⟨⟨wc6, rfl, hwc6⟩, ee⟩ := q43
  obtain rfl := ee.symm
  have bwc6 := own_isw hwc6
  refine ⟨_, fun _ hx => Or.inl hx, ?_⟩
  show oGo l Z a0 EL True pP eE sS mM _ bB tT cC _ _ _ _ _ _ _ _ [a2] h38 1 10 110 #[.val (.int i0), .val (.int i1), .val (.int i2), .val (.int i3), .val (.int i4), .val (.int z), .val (.int (Int32.ofNat ld)), .val (.int (Int32.ofNat (ct + 1))), .val (.ref a2), .unset, .unset, .unset, .unset, .unset, .unset, .unset] [.int wc6, .int (6 : Int32), .ref a2]
  refine oGo.castore (pc' := 111) (i := 6) (w := wc6) at_110 rfl A40 rfl (by simp) (nar_char bwc6.1 (own_255 bwc6.2)) (by simp) ?_
  intro h44 W45 sh44 A46
  refine oGo.aload (pc' := 113) at_111 rfl rfl rfl ?_
  refine oGo.bipush (pc' := 115) (v := 7) at_113 rfl (by decide) ?_
  refine oGo.iload (pc' := 117) at_115 rfl rfl ?_
  refine oGo.bipush (pc' := 119) (v := 7) at_117 rfl (by decide) ?_
  refine oGo.invokestatic (pc' := 122) (k' := 1) (n' := 10) (argsL := [.int i4, .int (7 : Int32)]) (rest := [.int (7 : Int32), .ref a2]) at_119 rfl (w1 hG) (w2 hG) (w3 hG) (w4 hG) (by decide) pd36 rfl rfl rfl (c_ws hG i4 7 _) (by simp) (by decide) (Nat.le_of_ble_eq_true rfl) rfl rfl (by decide) (by decide) ?_
  intro v47 h48 sh48 q49
  obtain ⟨⟨wc7, rfl, hwc7⟩, ee⟩ := q49
  obtain rfl := ee.symm
  have bwc7 := own_isw hwc7
  refine ⟨_, fun _ hx => Or.inl hx, ?_⟩
  show oGo l Z a0 EL True pP eE sS mM _ bB tT cC _ _ _ _ _ _ _ _ [a2] h44 1 10 122 #[.val (.int i0), .val (.int i1), .val (.int i2), .val (.int i3), .val (.int i4), .val (.int z), .val (.int (Int32.ofNat ld)), .val (.int (Int32.ofNat (ct + 1))), .val (.ref a2), .unset, .unset, .unset, .unset, .unset, .unset, .unset] [.int wc7, .int (7 : Int32), .ref a2]
  refine oGo.castore (pc' := 123) (i := 7) (w := wc7) at_122 rfl A46 rfl (by simp) (nar_char bwc7.1 (own_255 bwc7.2)) (by simp) ?_
  intro h50 W51 sh50 A52
  refine oGo.aload (pc' := 125) at_123 rfl rfl rfl ?_
  refine oGo.bipush (pc' := 127) (v := 8) at_125 rfl (by decide) ?_
  refine oGo.iload (pc' := 129) at_127 rfl rfl ?_
  refine oGo.bipush (pc' := 131) (v := 8) at_129 rfl (by decide) ?_
  refine oGo.invokestatic (pc' := 134) (k' := 1) (n' := 10) (argsL := [.int i4, .int (8 : Int32)]) (rest := [.int (8 : Int32), .ref a2]) at_131 rfl (w1 hG) (w2 hG) (w3 hG) (w4 hG) (by decide) pd36 rfl rfl rfl (c_ws hG i4 8 _) (by simp) (by decide) (Nat.le_of_ble_eq_true rfl) rfl rfl (by decide) (by decide) ?_
  intro v53 h54 sh54 q55
  obtain ⟨⟨wc8, rfl, hwc8⟩, ee⟩ := q55
  obtain rfl := ee.symm
  have bwc8 := own_isw hwc8
  refine ⟨_, fun _ hx => Or.inl hx, ?_⟩
  show oGo l Z a0 EL True pP eE sS mM _ bB tT cC _ _ _ _ _ _ _ _ [a2] h50 1 10 134 #[.val (.int i0), .val (.int i1), .val (.int i2), .val (.int i3), .val (.int i4), .val (.int z), .val (.int (Int32.ofNat ld)), .val (.int (Int32.ofNat (ct + 1))), .val (.ref a2), .unset, .unset, .unset, .unset, .unset, .unset, .unset] [.int wc8, .int (8 : Int32), .ref a2]
  refine oGo.castore (pc' := 135) (i := 8) (w := wc8) at_134 rfl A52 rfl (by simp) (nar_char bwc8.1 (own_255 bwc8.2)) (by simp) ?_
  intro h56 W57 sh56 A58
  refine oGo.aload (pc' := 137) at_135 rfl rfl rfl ?_
  refine oGo.bipush (pc' := 139) (v := 9) at_137 rfl (by decide) ?_
  refine oGo.iload (pc' := 141) at_139 rfl rfl ?_
  refine oGo.bipush (pc' := 143) (v := 9) at_141 rfl (by decide) ?_
  refine oGo.invokestatic (pc' := 146) (k' := 1) (n' := 10) (argsL := [.int i4, .int (9 : Int32)]) (rest := [.int (9 : Int32), .ref a2]) at_143 rfl (w1 hG) (w2 hG) (w3 hG) (w4 hG) (by decide) pd36 rfl rfl rfl (c_ws hG i4 9 _) (by simp) (by decide) (Nat.le_of_ble_eq_true rfl) rfl rfl (by decide) (by decide) ?_
  intro v59 h60 sh60 q61
  obtain ⟨⟨wc9, rfl, hwc9⟩, ee⟩ := q61
  obtain rfl := ee.symm
  have bwc9 := own_isw hwc9
  refine ⟨_, fun _ hx => Or.inl hx, ?_⟩
  show oGo l Z a0 EL True pP eE sS mM _ bB tT cC _ _ _ _ _ _ _ _ [a2] h56 1 10 146 #[.val (.int i0), .val (.int i1), .val (.int i2), .val (.int i3), .val (.int i4), .val (.int z), .val (.int (Int32.ofNat ld)), .val (.int (Int32.ofNat (ct + 1))), .val (.ref a2), .unset, .unset, .unset, .unset, .unset, .unset, .unset] [.int wc9, .int (9 : Int32), .ref a2]
  refine oGo.castore (pc' := 147) (i := 9) (w := wc9) at_146 rfl A58 rfl (by simp) (nar_char bwc9.1 (own_255 bwc9.2)) (by simp) ?_
  intro h62 W63 sh62 A64
  have A65 : oArr Z h62 a2 .char (oI [wc0, wc1, wc2, wc3, wc4, wc5, wc6, wc7, wc8, wc9]) := A64
  have K66 : Keep h1 h62 [a2] := (((((((((((Keep.refl h1 [a2]).wr W9 (Or.inl (by simp))).wr W15 (Or.inl (by simp))).wr W21 (Or.inl (by simp))).wr W27 (Or.inl (by simp))).wr W33 (Or.inl (by simp))).wr W39 (Or.inl (by simp))).wr W45 (Or.inl (by simp))).wr W51 (Or.inl (by simp))).wr W57 (Or.inl (by simp))).wr W63 (Or.inl (by simp)))
  obtain ⟨W, hWd⟩ : ∃ W : List Int32, W = [wc0, wc1, wc2, wc3, wc4, wc5, wc6, wc7, wc8, wc9] := ⟨_, rfl⟩
  have hW : ∀ c ∈ W, isW c := by
    rw [hWd]; intro c hc; simp only [List.mem_cons, List.not_mem_nil, or_false] at hc
    rcases hc with rfl | rfl | rfl | rfl | rfl | rfl | rfl | rfl | rfl | rfl <;> assumption
  have hWl : W.length = 10 := by rw [hWd]; rfl
  have AW : oArr Z h62 a2 .char (oI (put W ld [])) := by rw [put_nil, hWd]; exact A65
  refine oGo.iload (pc' := 149) at_147 rfl rfl ?_
  rcases hz with rfl | rfl
  · show oGo l Z a0 EL True pP eE sS mM _ bB tT cC _ _ _ _ _ _ _ _ [a2] h62 1 10 149 #[.val (.int i0), .val (.int i1), .val (.int i2), .val (.int i3), .val (.int i4), .val (.int (0 : Int32)), .val (.int (Int32.ofNat ld)), .val (.int (Int32.ofNat (ct + 1))), .val (.ref a2), .unset, .unset, .unset, .unset, .unset, .unset, .unset] [.int (0 : Int32)]
    rcases (show ct = 0 ∨ ct = 1 ∨ ct = 2 by omega) with rfl | rfl | rfl
    · show oGo l Z a0 EL True pP eE sS mM _ bB tT cC _ _ _ _ _ _ _ _ [a2] h62 1 10 149 #[.val (.int i0), .val (.int i1), .val (.int i2), .val (.int i3), .val (.int i4), .val (.int (0 : Int32)), .val (.int (Int32.ofNat ld)), .val (.int (1 : Int32)), .val (.ref a2), .unset, .unset, .unset, .unset, .unset, .unset, .unset] [.int (0 : Int32)]
      refine oGo.if_eq (pc1 := 152) (pc2 := 268) at_149 rfl (by decide) (fun q67 => ?_) (fun q => by first | exact absurd q (by decide) | exact absurd (by decide) q)
      refine oGo.iload_n (pc' := 269) at_268 rfl rfl ?_
      refine oGo.ldc_int (pc' := 271) at_269 rfl (w5 hG) ?_
      refine oGo.iand (pc' := 272) at_271 rfl ?_
      refine oGo.bipush (pc' := 274) (v := 93) at_272 rfl (by decide) ?_
      refine oGo.irem (pc' := 275) at_274 rfl (by decide) ?_
      obtain ⟨v0, hv0, ev0⟩ := own_r93 i1
      rw [ev0]
      obtain ⟨k0, hk0⟩ : ∃ k, k = Int32.ofNat (bareF v0) := ⟨_, rfl⟩
      have pk0 := bare_ok v0 hv0
      rw [← hk0] at pk0
      have bk0 := own_pr (own_b32 pk0)
      refine oGo.istore (pc' := 277) (Ls' := #[.val (.int i0), .val (.int i1), .val (.int i2), .val (.int i3), .val (.int i4), .val (.int (0 : Int32)), .val (.int (Int32.ofNat ld)), .val (.int (1 : Int32)), .val (.ref a2), .unset, .unset, .unset, .val (.int (Int32.ofNat v0)), .unset, .unset, .unset]) at_275 rfl rfl ?_
      refine oGo.iload_n (pc' := 278) at_277 rfl rfl ?_
      refine oGo.ldc_int (pc' := 280) at_278 rfl (w5 hG) ?_
      refine oGo.iand (pc' := 281) at_280 rfl ?_
      refine oGo.bipush (pc' := 283) (v := 93) at_281 rfl (by decide) ?_
      refine oGo.irem (pc' := 284) at_283 rfl (by decide) ?_
      obtain ⟨v1, hv1, ev1⟩ := own_r93 i2
      rw [ev1]
      obtain ⟨k1, hk1⟩ : ∃ k, k = Int32.ofNat (bareF v1) := ⟨_, rfl⟩
      have pk1 := bare_ok v1 hv1
      rw [← hk1] at pk1
      have bk1 := own_pr (own_b32 pk1)
      refine oGo.istore (pc' := 286) (Ls' := #[.val (.int i0), .val (.int i1), .val (.int i2), .val (.int i3), .val (.int i4), .val (.int (0 : Int32)), .val (.int (Int32.ofNat ld)), .val (.int (1 : Int32)), .val (.ref a2), .unset, .unset, .unset, .val (.int (Int32.ofNat v0)), .val (.int (Int32.ofNat v1)), .unset, .unset]) at_284 rfl rfl ?_
      refine oGo.iload_n (pc' := 287) at_286 rfl rfl ?_
      refine oGo.ldc_int (pc' := 289) at_287 rfl (w5 hG) ?_
      refine oGo.iand (pc' := 290) at_289 rfl ?_
      refine oGo.bipush (pc' := 292) (v := 93) at_290 rfl (by decide) ?_
      refine oGo.irem (pc' := 293) at_292 rfl (by decide) ?_
      obtain ⟨v2, hv2, ev2⟩ := own_r93 i3
      rw [ev2]
      obtain ⟨k2, hk2⟩ : ∃ k, k = Int32.ofNat (bareF v2) := ⟨_, rfl⟩
      have pk2 := bare_ok v2 hv2
      rw [← hk2] at pk2
      have bk2 := own_pr (own_b32 pk2)
      refine oGo.istore (pc' := 295) (Ls' := #[.val (.int i0), .val (.int i1), .val (.int i2), .val (.int i3), .val (.int i4), .val (.int (0 : Int32)), .val (.int (Int32.ofNat ld)), .val (.int (1 : Int32)), .val (.ref a2), .unset, .unset, .unset, .val (.int (Int32.ofNat v0)), .val (.int (Int32.ofNat v1)), .val (.int (Int32.ofNat v2)), .unset]) at_293 rfl rfl ?_
      refine oGo.aload (pc' := 297) at_295 rfl rfl rfl ?_
      refine oGo.iload (pc' := 299) at_297 rfl rfl ?_
      refine oGo.iload (pc' := 301) at_299 rfl rfl ?_
      refine oGo.invokestatic (pc' := 304) (k' := 1) (n' := 10) (argsL := [.int (Int32.ofNat v0)]) (rest := [.int (Int32.ofNat ld), .ref a2]) at_301 rfl (w6 hG) (w7 hG) (w3 hG) (w8 hG) (by decide) pd22 rfl rfl rfl (c_bare hG v0 hv0 _) (by simp) (by decide) (Nat.le_of_ble_eq_true rfl) rfl rfl (by decide) (by decide) ?_
      intro v68 h69 sh69 q70
      obtain ⟨rfl, ee⟩ := q70
      obtain rfl := ee.symm
      refine ⟨_, fun _ hx => Or.inl hx, ?_⟩
      show oGo l Z a0 EL True pP eE sS mM _ bB tT cC _ _ _ _ _ _ _ _ [a2] h62 1 10 304 #[.val (.int i0), .val (.int i1), .val (.int i2), .val (.int i3), .val (.int i4), .val (.int (0 : Int32)), .val (.int (Int32.ofNat ld)), .val (.int (1 : Int32)), .val (.ref a2), .unset, .unset, .unset, .val (.int (Int32.ofNat v0)), .val (.int (Int32.ofNat v1)), .val (.int (Int32.ofNat v2)), .unset] [.int (Int32.ofNat (bareF v0)), .int (Int32.ofNat ld), .ref a2]
      rw [← hk0]
      refine oGo.castore (pc' := 305) (i := ld) (w := k0) at_304 rfl AW rfl (by rw [List.length_map, put_len (by (first | omega | (simp only [List.length_append, List.length_cons, List.length_nil] <;> omega)))]; (first | omega | (simp only [List.length_append, List.length_cons, List.length_nil] <;> omega))) (nar_char bk0.1 (own_255 bk0.2)) (by simp) ?_
      intro h71 W72 sh71 A73
      rw [put_set _ (by (first | omega | (simp only [List.length_append, List.length_cons, List.length_nil] <;> omega))) (by (first | omega | (simp only [List.length_append, List.length_cons, List.length_nil] <;> omega)))] at A73
      refine oGo.iload (pc' := 307) at_305 rfl rfl ?_
      refine oGo.iconst (pc' := 308) (v := 1) at_307 rfl (by decide) ?_
      refine oGo.icmp_le (pc1 := 311) (pc2 := 323) at_308 rfl (by decide) (fun q74 => ?_) (fun q => by first | exact absurd q (by decide) | exact absurd (by decide) q)
      refine oGo.iload (pc' := 325) at_323 rfl rfl ?_
      refine oGo.iconst (pc' := 326) (v := 2) at_325 rfl (by decide) ?_
      refine oGo.icmp_le (pc1 := 329) (pc2 := 341) at_326 rfl (by decide) (fun q75 => ?_) (fun q => by first | exact absurd q (by decide) | exact absurd (by decide) q)
      have A76 : oArr Z h71 a2 .char (oI (put W ld [k0])) := A73
      refine oGo.iload (pc' := 343) at_341 rfl rfl ?_
      refine oGo.invokestatic (pc' := 346) (k' := 1) (n' := 10) (argsL := [.int (Int32.ofNat v0)]) (rest := []) at_343 rfl (w6 hG) (w7 hG) (w3 hG) (w8 hG) (by decide) pd22 rfl rfl rfl (c_bare hG v0 hv0 _) (by simp) (by decide) (Nat.le_of_ble_eq_true rfl) rfl rfl (by decide) (by decide) ?_
      intro v77 h78 sh78 q79
      obtain ⟨rfl, ee⟩ := q79
      obtain rfl := ee.symm
      refine ⟨_, fun _ hx => Or.inl hx, ?_⟩
      show oGo l Z a0 EL True pP eE sS mM _ bB tT cC _ _ _ _ _ _ _ _ [a2] h71 1 10 346 #[.val (.int i0), .val (.int i1), .val (.int i2), .val (.int i3), .val (.int i4), .val (.int (0 : Int32)), .val (.int (Int32.ofNat ld)), .val (.int (1 : Int32)), .val (.ref a2), .unset, .unset, .unset, .val (.int (Int32.ofNat v0)), .val (.int (Int32.ofNat v1)), .val (.int (Int32.ofNat v2)), .unset] [.int (Int32.ofNat (bareF v0))]
      rw [← hk0]
      refine oGo.istore (pc' := 348) (Ls' := #[.val (.int i0), .val (.int i1), .val (.int i2), .val (.int i3), .val (.int i4), .val (.int (0 : Int32)), .val (.int (Int32.ofNat ld)), .val (.int (1 : Int32)), .val (.ref a2), .val (.int k0), .unset, .unset, .val (.int (Int32.ofNat v0)), .val (.int (Int32.ofNat v1)), .val (.int (Int32.ofNat v2)), .unset]) at_346 rfl rfl ?_
      refine oGo.iload (pc' := 350) at_348 rfl rfl ?_
      refine oGo.invokestatic (pc' := 353) (k' := 1) (n' := 10) (argsL := [.int (Int32.ofNat v1)]) (rest := []) at_350 rfl (w6 hG) (w7 hG) (w3 hG) (w8 hG) (by decide) pd22 rfl rfl rfl (c_bare hG v1 hv1 _) (by simp) (by decide) (Nat.le_of_ble_eq_true rfl) rfl rfl (by decide) (by decide) ?_
      intro v80 h81 sh81 q82
      obtain ⟨rfl, ee⟩ := q82
      obtain rfl := ee.symm
      refine ⟨_, fun _ hx => Or.inl hx, ?_⟩
      show oGo l Z a0 EL True pP eE sS mM _ bB tT cC _ _ _ _ _ _ _ _ [a2] h71 1 10 353 #[.val (.int i0), .val (.int i1), .val (.int i2), .val (.int i3), .val (.int i4), .val (.int (0 : Int32)), .val (.int (Int32.ofNat ld)), .val (.int (1 : Int32)), .val (.ref a2), .val (.int k0), .unset, .unset, .val (.int (Int32.ofNat v0)), .val (.int (Int32.ofNat v1)), .val (.int (Int32.ofNat v2)), .unset] [.int (Int32.ofNat (bareF v1))]
      rw [← hk1]
      refine oGo.istore (pc' := 355) (Ls' := #[.val (.int i0), .val (.int i1), .val (.int i2), .val (.int i3), .val (.int i4), .val (.int (0 : Int32)), .val (.int (Int32.ofNat ld)), .val (.int (1 : Int32)), .val (.ref a2), .val (.int k0), .val (.int k1), .unset, .val (.int (Int32.ofNat v0)), .val (.int (Int32.ofNat v1)), .val (.int (Int32.ofNat v2)), .unset]) at_353 rfl rfl ?_
      refine oGo.iload (pc' := 357) at_355 rfl rfl ?_
      refine oGo.invokestatic (pc' := 360) (k' := 1) (n' := 10) (argsL := [.int (Int32.ofNat v2)]) (rest := []) at_357 rfl (w6 hG) (w7 hG) (w3 hG) (w8 hG) (by decide) pd22 rfl rfl rfl (c_bare hG v2 hv2 _) (by simp) (by decide) (Nat.le_of_ble_eq_true rfl) rfl rfl (by decide) (by decide) ?_
      intro v83 h84 sh84 q85
      obtain ⟨rfl, ee⟩ := q85
      obtain rfl := ee.symm
      refine ⟨_, fun _ hx => Or.inl hx, ?_⟩
      show oGo l Z a0 EL True pP eE sS mM _ bB tT cC _ _ _ _ _ _ _ _ [a2] h71 1 10 360 #[.val (.int i0), .val (.int i1), .val (.int i2), .val (.int i3), .val (.int i4), .val (.int (0 : Int32)), .val (.int (Int32.ofNat ld)), .val (.int (1 : Int32)), .val (.ref a2), .val (.int k0), .val (.int k1), .unset, .val (.int (Int32.ofNat v0)), .val (.int (Int32.ofNat v1)), .val (.int (Int32.ofNat v2)), .unset] [.int (Int32.ofNat (bareF v2))]
      rw [← hk2]
      have hq10 : ld + [k0].length ≤ 10 := by simp; omega
      have hb3 : ∀ c ∈ ([k0] : List Int32), ¬ c < 33 ∧ ¬ 126 < c ∧ c ≠ 34 := by intro c hc; simp only [List.mem_cons, List.not_mem_nil, or_false] at hc; rcases hc with rfl <;> assumption
      have hpr : ∀ c ∈ ([k0] : List Int32), ¬ c < 32 ∧ ¬ 126 < c := fun c hc => own_b32 (hb3 c hc)
      have HW : oWs (put W ld [k0]) ld (ld + [k0].length) := put_ws hW hWl hq10 (by simp) ⟨k0, rfl, own_bw pk0⟩ ⟨k0, rfl, own_bw pk0⟩
      have hcl : (put W ld [k0]).length = 10 := by rw [put_len (by rw [hWl]; exact hq10)]; exact hWl
      refine oGo.istore (pc' := 362) (Ls' := #[.val (.int i0), .val (.int i1), .val (.int i2), .val (.int i3), .val (.int i4), .val (.int (0 : Int32)), .val (.int (Int32.ofNat ld)), .val (.int (1 : Int32)), .val (.ref a2), .val (.int k0), .val (.int k1), .val (.int k2), .val (.int (Int32.ofNat v0)), .val (.int (Int32.ofNat v1)), .val (.int (Int32.ofNat v2)), .unset]) at_360 rfl rfl ?_
      refine oGo.new (pc' := 365) (k' := 2) (n' := 14) at_362 rfl (w9 hG) (w10 hG) (w11 hG) rfl rfl (by decide) (by decide) ?_
      intro h86 a87 qa87 la87 E88 X89 F90
      have f91 := F90 (Or.inr (w35 hG)) (ty := .byte) (by decide)
      have f92 := F90 (Or.inr (w37 hG)) (ty := (.array .byte)) (by decide)
      refine oGo.dup (pc' := 366) at_365 rfl rfl ?_
      refine oGo.aload (pc' := 368) at_366 rfl rfl rfl ?_
      have f93 := oArr.ext E88 A76
      refine oGo.invokespecial (pc' := 371) (k' := 3) (n' := 24) (a := a87) (argsL := [.ref a2]) (rest := [.ref a87]) at_368 rfl rfl (w12 hG) (w13 hG) (w11 hG) (w14 hG) (by decide) pd37 rfl rfl rfl (c_strI1 hG a87 a2 (put W ld [k0]) (by omega) (by omega) (own_put_bd hW ((fun c hc => own_pr (hpr c hc)))) _ _ _ f93 X89 f92 f91) (by simp) (by decide) (Nat.le_of_ble_eq_true rfl) rfl rfl (by decide) (by decide) ?_
      intro v94 h95 sh95 q96
      obtain ⟨rfl, KX, tX, SX⟩ := q96
      have lxX := own_ltN SX.1.lt
      have ltX := own_ltN SX.2.2.2.1.lt
      refine ⟨_, fun _ hx => Or.inl hx, ?_⟩
      show oGo l Z a0 EL True pP eE sS mM _ bB tT cC _ _ _ _ _ _ _ _ [a87, a2] h95 3 24 371 #[.val (.int i0), .val (.int i1), .val (.int i2), .val (.int i3), .val (.int i4), .val (.int (0 : Int32)), .val (.int (Int32.ofNat ld)), .val (.int (1 : Int32)), .val (.ref a2), .val (.int k0), .val (.int k1), .val (.int k2), .val (.int (Int32.ofNat v0)), .val (.int (Int32.ofNat v1)), .val (.int (Int32.ofNat v2)), .unset] [.ref a87]
      refine oGo.invokestatic (pc' := 374) (k' := 19) (n' := 324) (argsL := [.ref a87]) (rest := []) at_371 rfl (w38 hG) (w39 hG) (w40 hG) (w41 hG) (by decide) pd38 rfl rfl rfl (c_parseB hG a87 tX (put W ld [k0]) [k0] ld (ld + [k0].length) (by simp) (by simp) hpr (fun c hc => own_b34 (hb3 c hc)) HW (put_mid (by omega)) _ SX) (by simp) (by decide) (Nat.le_of_ble_eq_true rfl) rfl rfl (by decide) (by decide) ?_
      intro v97 h98 sh98 q99
      obtain ⟨KP, key, y, u, rfl, EP, GP, SP⟩ := q99
      refine ⟨_, fun _ hx => Or.inl hx, ?_⟩
      show oGo l Z a0 EL True pP eE sS mM _ bB tT cC _ _ _ _ _ _ _ _ [a87, a2] h98 19 324 374 #[.val (.int i0), .val (.int i1), .val (.int i2), .val (.int i3), .val (.int i4), .val (.int (0 : Int32)), .val (.int (Int32.ofNat ld)), .val (.int (1 : Int32)), .val (.ref a2), .val (.int k0), .val (.int k1), .val (.int k2), .val (.int (Int32.ofNat v0)), .val (.int (Int32.ofNat v1)), .val (.int (Int32.ofNat v2)), .unset] [.ref key]
      refine oGo.invokevirtual (pc' := 377) (k' := 19) (n' := 324) (a := key) (argsL := []) (rest := []) at_374 rfl (w182 hG) (w183 hG) (w185 hG) (w185 hG) rfl (w184 hG) (w40 hG) (w186 hG) (by decide) pd30 rfl rfl rfl EP (c_value hG key y _ GP) (by simp) (by decide) (Nat.le_of_ble_eq_true rfl) rfl rfl (by decide) (by decide) ?_
      intro v100 h101 sh101 q102
      obtain ⟨rfl, ee⟩ := q102
      obtain rfl := ee.symm
      refine ⟨_, fun _ hx => Or.inl hx, ?_⟩
      show oGo l Z a0 EL True pP eE sS mM _ bB tT cC _ _ _ _ _ _ _ _ [a87, a2] h98 19 324 377 #[.val (.int i0), .val (.int i1), .val (.int i2), .val (.int i3), .val (.int i4), .val (.int (0 : Int32)), .val (.int (Int32.ofNat ld)), .val (.int (1 : Int32)), .val (.ref a2), .val (.int k0), .val (.int k1), .val (.int k2), .val (.int (Int32.ofNat v0)), .val (.int (Int32.ofNat v1)), .val (.int (Int32.ofNat v2)), .unset] [.ref y]
      refine oGo.astore (pc' := 379) (Ls' := #[.val (.int i0), .val (.int i1), .val (.int i2), .val (.int i3), .val (.int i4), .val (.int (0 : Int32)), .val (.int (Int32.ofNat ld)), .val (.int (1 : Int32)), .val (.ref a2), .val (.int k0), .val (.int k1), .val (.int k2), .val (.ref y), .val (.int (Int32.ofNat v1)), .val (.int (Int32.ofNat v2)), .unset]) at_377 rfl rfl rfl ?_
      refine oGo.aload (pc' := 381) at_379 rfl rfl rfl ?_
      refine oGo.invokevirtual (pc' := 384) (k' := 19) (n' := 324) (a := y) (argsL := []) (rest := []) at_381 rfl (w187 hG) (w54 hG) (w56 hG) (w56 hG) rfl (w55 hG) (w11 hG) (w57 hG) (by decide) pd13 rfl rfl rfl SP.1 (c_length hG y u [k0] _ SP) (by simp) (by decide) (Nat.le_of_ble_eq_true rfl) rfl rfl (by decide) (by decide) ?_
      intro v103 h104 sh104 q105
      obtain ⟨rfl, ee⟩ := q105
      obtain rfl := ee.symm
      refine ⟨_, fun _ hx => Or.inl hx, ?_⟩
      show oGo l Z a0 EL True pP eE sS mM _ bB tT cC _ _ _ _ _ _ _ _ [a87, a2] h98 19 324 384 #[.val (.int i0), .val (.int i1), .val (.int i2), .val (.int i3), .val (.int i4), .val (.int (0 : Int32)), .val (.int (Int32.ofNat ld)), .val (.int (1 : Int32)), .val (.ref a2), .val (.int k0), .val (.int k1), .val (.int k2), .val (.ref y), .val (.int (Int32.ofNat v1)), .val (.int (Int32.ofNat v2)), .unset] [.int (1 : Int32)]
      refine oGo.iload (pc' := 386) at_384 rfl rfl ?_
      refine oGo.icmp_eq (pc1 := 389) (pc2 := 391) at_386 rfl (by decide) (fun q106 => ?_) (fun q => absurd rfl q)
      refine oGo.aload (pc' := 393) at_391 rfl rfl rfl ?_
      refine oGo.iconst (pc' := 394) (v := 0) at_393 rfl (by decide) ?_
      refine oGo.invokevirtual (pc' := 397) (k' := 19) (n' := 324) (a := y) (argsL := [.int (0 : Int32)]) (rest := []) at_394 rfl (w188 hG) (w64 hG) (w66 hG) (w66 hG) rfl (w65 hG) (w11 hG) (w67 hG) (by decide) pd22 rfl rfl rfl SP.1 (c_charAt hG y u [k0] 0 k0 rfl _ SP) (by simp) (by decide) (Nat.le_of_ble_eq_true rfl) rfl rfl (by decide) (by decide) ?_
      intro v107 h108 sh108 q109
      obtain ⟨rfl, ee⟩ := q109
      obtain rfl := ee.symm
      refine ⟨_, fun _ hx => Or.inl hx, ?_⟩
      show oGo l Z a0 EL True pP eE sS mM _ bB tT cC _ _ _ _ _ _ _ _ [a87, a2] h98 19 324 397 #[.val (.int i0), .val (.int i1), .val (.int i2), .val (.int i3), .val (.int i4), .val (.int (0 : Int32)), .val (.int (Int32.ofNat ld)), .val (.int (1 : Int32)), .val (.ref a2), .val (.int k0), .val (.int k1), .val (.int k2), .val (.ref y), .val (.int (Int32.ofNat v1)), .val (.int (Int32.ofNat v2)), .unset] [.int k0]
      refine oGo.iload (pc' := 399) at_397 rfl rfl ?_
      refine oGo.icmp_eq (pc1 := 402) (pc2 := 404) at_399 rfl (by decide) (fun q110 => ?_) (fun q => absurd rfl q)
      refine oGo.iload (pc' := 406) at_404 rfl rfl ?_
      refine oGo.iconst (pc' := 407) (v := 1) at_406 rfl (by decide) ?_
      refine oGo.icmp_le (pc1 := 410) (pc2 := 423) at_407 rfl (by decide) (fun q111 => ?_) (fun q => by first | exact absurd q (by decide) | exact absurd (by decide) q)
      refine oGo.iload (pc' := 425) at_423 rfl rfl ?_
      refine oGo.iconst (pc' := 426) (v := 2) at_425 rfl (by decide) ?_
      refine oGo.icmp_le (pc1 := 429) (pc2 := 442) at_426 rfl (by decide) (fun q112 => ?_) (fun q => by first | exact absurd q (by decide) | exact absurd (by decide) q)
      refine oGo.iconst (pc' := 443) (v := 1) at_442 rfl (by decide) ?_
      exact oGo.nreturn at_443 rfl (by simp) rfl (by decide) (by decide) rfl (fun _ q => q.elim)
    · show oGo l Z a0 EL True pP eE sS mM _ bB tT cC _ _ _ _ _ _ _ _ [a2] h62 1 10 149 #[.val (.int i0), .val (.int i1), .val (.int i2), .val (.int i3), .val (.int i4), .val (.int (0 : Int32)), .val (.int (Int32.ofNat ld)), .val (.int (2 : Int32)), .val (.ref a2), .unset, .unset, .unset, .unset, .unset, .unset, .unset] [.int (0 : Int32)]
      refine oGo.if_eq (pc1 := 152) (pc2 := 268) at_149 rfl (by decide) (fun q113 => ?_) (fun q => by first | exact absurd q (by decide) | exact absurd (by decide) q)
      refine oGo.iload_n (pc' := 269) at_268 rfl rfl ?_
      refine oGo.ldc_int (pc' := 271) at_269 rfl (w5 hG) ?_
      refine oGo.iand (pc' := 272) at_271 rfl ?_
      refine oGo.bipush (pc' := 274) (v := 93) at_272 rfl (by decide) ?_
      refine oGo.irem (pc' := 275) at_274 rfl (by decide) ?_
      obtain ⟨v0, hv0, ev0⟩ := own_r93 i1
      rw [ev0]
      obtain ⟨k0, hk0⟩ : ∃ k, k = Int32.ofNat (bareF v0) := ⟨_, rfl⟩
      have pk0 := bare_ok v0 hv0
      rw [← hk0] at pk0
      have bk0 := own_pr (own_b32 pk0)
      refine oGo.istore (pc' := 277) (Ls' := #[.val (.int i0), .val (.int i1), .val (.int i2), .val (.int i3), .val (.int i4), .val (.int (0 : Int32)), .val (.int (Int32.ofNat ld)), .val (.int (2 : Int32)), .val (.ref a2), .unset, .unset, .unset, .val (.int (Int32.ofNat v0)), .unset, .unset, .unset]) at_275 rfl rfl ?_
      refine oGo.iload_n (pc' := 278) at_277 rfl rfl ?_
      refine oGo.ldc_int (pc' := 280) at_278 rfl (w5 hG) ?_
      refine oGo.iand (pc' := 281) at_280 rfl ?_
      refine oGo.bipush (pc' := 283) (v := 93) at_281 rfl (by decide) ?_
      refine oGo.irem (pc' := 284) at_283 rfl (by decide) ?_
      obtain ⟨v1, hv1, ev1⟩ := own_r93 i2
      rw [ev1]
      obtain ⟨k1, hk1⟩ : ∃ k, k = Int32.ofNat (bareF v1) := ⟨_, rfl⟩
      have pk1 := bare_ok v1 hv1
      rw [← hk1] at pk1
      have bk1 := own_pr (own_b32 pk1)
      refine oGo.istore (pc' := 286) (Ls' := #[.val (.int i0), .val (.int i1), .val (.int i2), .val (.int i3), .val (.int i4), .val (.int (0 : Int32)), .val (.int (Int32.ofNat ld)), .val (.int (2 : Int32)), .val (.ref a2), .unset, .unset, .unset, .val (.int (Int32.ofNat v0)), .val (.int (Int32.ofNat v1)), .unset, .unset]) at_284 rfl rfl ?_
      refine oGo.iload_n (pc' := 287) at_286 rfl rfl ?_
      refine oGo.ldc_int (pc' := 289) at_287 rfl (w5 hG) ?_
      refine oGo.iand (pc' := 290) at_289 rfl ?_
      refine oGo.bipush (pc' := 292) (v := 93) at_290 rfl (by decide) ?_
      refine oGo.irem (pc' := 293) at_292 rfl (by decide) ?_
      obtain ⟨v2, hv2, ev2⟩ := own_r93 i3
      rw [ev2]
      obtain ⟨k2, hk2⟩ : ∃ k, k = Int32.ofNat (bareF v2) := ⟨_, rfl⟩
      have pk2 := bare_ok v2 hv2
      rw [← hk2] at pk2
      have bk2 := own_pr (own_b32 pk2)
      refine oGo.istore (pc' := 295) (Ls' := #[.val (.int i0), .val (.int i1), .val (.int i2), .val (.int i3), .val (.int i4), .val (.int (0 : Int32)), .val (.int (Int32.ofNat ld)), .val (.int (2 : Int32)), .val (.ref a2), .unset, .unset, .unset, .val (.int (Int32.ofNat v0)), .val (.int (Int32.ofNat v1)), .val (.int (Int32.ofNat v2)), .unset]) at_293 rfl rfl ?_
      refine oGo.aload (pc' := 297) at_295 rfl rfl rfl ?_
      refine oGo.iload (pc' := 299) at_297 rfl rfl ?_
      refine oGo.iload (pc' := 301) at_299 rfl rfl ?_
      refine oGo.invokestatic (pc' := 304) (k' := 1) (n' := 10) (argsL := [.int (Int32.ofNat v0)]) (rest := [.int (Int32.ofNat ld), .ref a2]) at_301 rfl (w6 hG) (w7 hG) (w3 hG) (w8 hG) (by decide) pd22 rfl rfl rfl (c_bare hG v0 hv0 _) (by simp) (by decide) (Nat.le_of_ble_eq_true rfl) rfl rfl (by decide) (by decide) ?_
      intro v114 h115 sh115 q116
      obtain ⟨rfl, ee⟩ := q116
      obtain rfl := ee.symm
      refine ⟨_, fun _ hx => Or.inl hx, ?_⟩
      show oGo l Z a0 EL True pP eE sS mM _ bB tT cC _ _ _ _ _ _ _ _ [a2] h62 1 10 304 #[.val (.int i0), .val (.int i1), .val (.int i2), .val (.int i3), .val (.int i4), .val (.int (0 : Int32)), .val (.int (Int32.ofNat ld)), .val (.int (2 : Int32)), .val (.ref a2), .unset, .unset, .unset, .val (.int (Int32.ofNat v0)), .val (.int (Int32.ofNat v1)), .val (.int (Int32.ofNat v2)), .unset] [.int (Int32.ofNat (bareF v0)), .int (Int32.ofNat ld), .ref a2]
      rw [← hk0]
      refine oGo.castore (pc' := 305) (i := ld) (w := k0) at_304 rfl AW rfl (by rw [List.length_map, put_len (by (first | omega | (simp only [List.length_append, List.length_cons, List.length_nil] <;> omega)))]; (first | omega | (simp only [List.length_append, List.length_cons, List.length_nil] <;> omega))) (nar_char bk0.1 (own_255 bk0.2)) (by simp) ?_
      intro h117 W118 sh117 A119
      rw [put_set _ (by (first | omega | (simp only [List.length_append, List.length_cons, List.length_nil] <;> omega))) (by (first | omega | (simp only [List.length_append, List.length_cons, List.length_nil] <;> omega)))] at A119
      refine oGo.iload (pc' := 307) at_305 rfl rfl ?_
      refine oGo.iconst (pc' := 308) (v := 1) at_307 rfl (by decide) ?_
      refine oGo.icmp_le (pc1 := 311) (pc2 := 323) at_308 rfl (by decide) (fun q => by first | exact absurd q (by decide) | exact absurd (by decide) q) (fun q120 => ?_)
      refine oGo.aload (pc' := 313) at_311 rfl rfl rfl ?_
      refine oGo.iload (pc' := 315) at_313 rfl rfl ?_
      refine oGo.iconst (pc' := 316) (v := 1) at_315 rfl (by decide) ?_
      refine oGo.iadd (pc' := 317) at_316 rfl ?_
      rw [own_addL ld 1 1 rfl]
      refine oGo.iload (pc' := 319) at_317 rfl rfl ?_
      refine oGo.invokestatic (pc' := 322) (k' := 1) (n' := 10) (argsL := [.int (Int32.ofNat v1)]) (rest := [.int (Int32.ofNat (ld + 1)), .ref a2]) at_319 rfl (w6 hG) (w7 hG) (w3 hG) (w8 hG) (by decide) pd22 rfl rfl rfl (c_bare hG v1 hv1 _) (by simp) (by decide) (Nat.le_of_ble_eq_true rfl) rfl rfl (by decide) (by decide) ?_
      intro v121 h122 sh122 q123
      obtain ⟨rfl, ee⟩ := q123
      obtain rfl := ee.symm
      refine ⟨_, fun _ hx => Or.inl hx, ?_⟩
      show oGo l Z a0 EL True pP eE sS mM _ bB tT cC _ _ _ _ _ _ _ _ [a2] h117 1 10 322 #[.val (.int i0), .val (.int i1), .val (.int i2), .val (.int i3), .val (.int i4), .val (.int (0 : Int32)), .val (.int (Int32.ofNat ld)), .val (.int (2 : Int32)), .val (.ref a2), .unset, .unset, .unset, .val (.int (Int32.ofNat v0)), .val (.int (Int32.ofNat v1)), .val (.int (Int32.ofNat v2)), .unset] [.int (Int32.ofNat (bareF v1)), .int (Int32.ofNat (ld + 1)), .ref a2]
      rw [← hk1]
      refine oGo.castore (pc' := 323) (i := ld + 1) (w := k1) at_322 rfl A119 rfl (by rw [List.length_map, put_len (by (first | omega | (simp only [List.length_append, List.length_cons, List.length_nil] <;> omega)))]; (first | omega | (simp only [List.length_append, List.length_cons, List.length_nil] <;> omega))) (nar_char bk1.1 (own_255 bk1.2)) (by simp) ?_
      intro h124 W125 sh124 A126
      rw [put_set _ (by (first | omega | (simp only [List.length_append, List.length_cons, List.length_nil] <;> omega))) (by (first | omega | (simp only [List.length_append, List.length_cons, List.length_nil] <;> omega)))] at A126
      refine oGo.iload (pc' := 325) at_323 rfl rfl ?_
      refine oGo.iconst (pc' := 326) (v := 2) at_325 rfl (by decide) ?_
      refine oGo.icmp_le (pc1 := 329) (pc2 := 341) at_326 rfl (by decide) (fun q127 => ?_) (fun q => by first | exact absurd q (by decide) | exact absurd (by decide) q)
      have A128 : oArr Z h124 a2 .char (oI (put W ld [k0, k1])) := A126
      refine oGo.iload (pc' := 343) at_341 rfl rfl ?_
      refine oGo.invokestatic (pc' := 346) (k' := 1) (n' := 10) (argsL := [.int (Int32.ofNat v0)]) (rest := []) at_343 rfl (w6 hG) (w7 hG) (w3 hG) (w8 hG) (by decide) pd22 rfl rfl rfl (c_bare hG v0 hv0 _) (by simp) (by decide) (Nat.le_of_ble_eq_true rfl) rfl rfl (by decide) (by decide) ?_
      intro v129 h130 sh130 q131
      obtain ⟨rfl, ee⟩ := q131
      obtain rfl := ee.symm
      refine ⟨_, fun _ hx => Or.inl hx, ?_⟩
      show oGo l Z a0 EL True pP eE sS mM _ bB tT cC _ _ _ _ _ _ _ _ [a2] h124 1 10 346 #[.val (.int i0), .val (.int i1), .val (.int i2), .val (.int i3), .val (.int i4), .val (.int (0 : Int32)), .val (.int (Int32.ofNat ld)), .val (.int (2 : Int32)), .val (.ref a2), .unset, .unset, .unset, .val (.int (Int32.ofNat v0)), .val (.int (Int32.ofNat v1)), .val (.int (Int32.ofNat v2)), .unset] [.int (Int32.ofNat (bareF v0))]
      rw [← hk0]
      refine oGo.istore (pc' := 348) (Ls' := #[.val (.int i0), .val (.int i1), .val (.int i2), .val (.int i3), .val (.int i4), .val (.int (0 : Int32)), .val (.int (Int32.ofNat ld)), .val (.int (2 : Int32)), .val (.ref a2), .val (.int k0), .unset, .unset, .val (.int (Int32.ofNat v0)), .val (.int (Int32.ofNat v1)), .val (.int (Int32.ofNat v2)), .unset]) at_346 rfl rfl ?_
      refine oGo.iload (pc' := 350) at_348 rfl rfl ?_
      refine oGo.invokestatic (pc' := 353) (k' := 1) (n' := 10) (argsL := [.int (Int32.ofNat v1)]) (rest := []) at_350 rfl (w6 hG) (w7 hG) (w3 hG) (w8 hG) (by decide) pd22 rfl rfl rfl (c_bare hG v1 hv1 _) (by simp) (by decide) (Nat.le_of_ble_eq_true rfl) rfl rfl (by decide) (by decide) ?_
      intro v132 h133 sh133 q134
      obtain ⟨rfl, ee⟩ := q134
      obtain rfl := ee.symm
      refine ⟨_, fun _ hx => Or.inl hx, ?_⟩
      show oGo l Z a0 EL True pP eE sS mM _ bB tT cC _ _ _ _ _ _ _ _ [a2] h124 1 10 353 #[.val (.int i0), .val (.int i1), .val (.int i2), .val (.int i3), .val (.int i4), .val (.int (0 : Int32)), .val (.int (Int32.ofNat ld)), .val (.int (2 : Int32)), .val (.ref a2), .val (.int k0), .unset, .unset, .val (.int (Int32.ofNat v0)), .val (.int (Int32.ofNat v1)), .val (.int (Int32.ofNat v2)), .unset] [.int (Int32.ofNat (bareF v1))]
      rw [← hk1]
      refine oGo.istore (pc' := 355) (Ls' := #[.val (.int i0), .val (.int i1), .val (.int i2), .val (.int i3), .val (.int i4), .val (.int (0 : Int32)), .val (.int (Int32.ofNat ld)), .val (.int (2 : Int32)), .val (.ref a2), .val (.int k0), .val (.int k1), .unset, .val (.int (Int32.ofNat v0)), .val (.int (Int32.ofNat v1)), .val (.int (Int32.ofNat v2)), .unset]) at_353 rfl rfl ?_
      refine oGo.iload (pc' := 357) at_355 rfl rfl ?_
      refine oGo.invokestatic (pc' := 360) (k' := 1) (n' := 10) (argsL := [.int (Int32.ofNat v2)]) (rest := []) at_357 rfl (w6 hG) (w7 hG) (w3 hG) (w8 hG) (by decide) pd22 rfl rfl rfl (c_bare hG v2 hv2 _) (by simp) (by decide) (Nat.le_of_ble_eq_true rfl) rfl rfl (by decide) (by decide) ?_
      intro v135 h136 sh136 q137
      obtain ⟨rfl, ee⟩ := q137
      obtain rfl := ee.symm
      refine ⟨_, fun _ hx => Or.inl hx, ?_⟩
      show oGo l Z a0 EL True pP eE sS mM _ bB tT cC _ _ _ _ _ _ _ _ [a2] h124 1 10 360 #[.val (.int i0), .val (.int i1), .val (.int i2), .val (.int i3), .val (.int i4), .val (.int (0 : Int32)), .val (.int (Int32.ofNat ld)), .val (.int (2 : Int32)), .val (.ref a2), .val (.int k0), .val (.int k1), .unset, .val (.int (Int32.ofNat v0)), .val (.int (Int32.ofNat v1)), .val (.int (Int32.ofNat v2)), .unset] [.int (Int32.ofNat (bareF v2))]
      rw [← hk2]
      have hq10 : ld + [k0, k1].length ≤ 10 := by simp; omega
      have hb3 : ∀ c ∈ ([k0, k1] : List Int32), ¬ c < 33 ∧ ¬ 126 < c ∧ c ≠ 34 := by intro c hc; simp only [List.mem_cons, List.not_mem_nil, or_false] at hc; rcases hc with rfl | rfl <;> assumption
      have hpr : ∀ c ∈ ([k0, k1] : List Int32), ¬ c < 32 ∧ ¬ 126 < c := fun c hc => own_b32 (hb3 c hc)
      have HW : oWs (put W ld [k0, k1]) ld (ld + [k0, k1].length) := put_ws hW hWl hq10 (by simp) ⟨k0, rfl, own_bw pk0⟩ ⟨k1, rfl, own_bw pk1⟩
      have hcl : (put W ld [k0, k1]).length = 10 := by rw [put_len (by rw [hWl]; exact hq10)]; exact hWl
      refine oGo.istore (pc' := 362) (Ls' := #[.val (.int i0), .val (.int i1), .val (.int i2), .val (.int i3), .val (.int i4), .val (.int (0 : Int32)), .val (.int (Int32.ofNat ld)), .val (.int (2 : Int32)), .val (.ref a2), .val (.int k0), .val (.int k1), .val (.int k2), .val (.int (Int32.ofNat v0)), .val (.int (Int32.ofNat v1)), .val (.int (Int32.ofNat v2)), .unset]) at_360 rfl rfl ?_
      refine oGo.new (pc' := 365) (k' := 2) (n' := 14) at_362 rfl (w9 hG) (w10 hG) (w11 hG) rfl rfl (by decide) (by decide) ?_
      intro h138 a139 qa139 la139 E140 X141 F142
      have f143 := F142 (Or.inr (w35 hG)) (ty := .byte) (by decide)
      have f144 := F142 (Or.inr (w37 hG)) (ty := (.array .byte)) (by decide)
      refine oGo.dup (pc' := 366) at_365 rfl rfl ?_
      refine oGo.aload (pc' := 368) at_366 rfl rfl rfl ?_
      have f145 := oArr.ext E140 A128
      refine oGo.invokespecial (pc' := 371) (k' := 3) (n' := 24) (a := a139) (argsL := [.ref a2]) (rest := [.ref a139]) at_368 rfl rfl (w12 hG) (w13 hG) (w11 hG) (w14 hG) (by decide) pd37 rfl rfl rfl (c_strI1 hG a139 a2 (put W ld [k0, k1]) (by omega) (by omega) (own_put_bd hW ((fun c hc => own_pr (hpr c hc)))) _ _ _ f145 X141 f144 f143) (by simp) (by decide) (Nat.le_of_ble_eq_true rfl) rfl rfl (by decide) (by decide) ?_
      intro v146 h147 sh147 q148
      obtain ⟨rfl, KX, tX, SX⟩ := q148
      have lxX := own_ltN SX.1.lt
      have ltX := own_ltN SX.2.2.2.1.lt
      refine ⟨_, fun _ hx => Or.inl hx, ?_⟩
      show oGo l Z a0 EL True pP eE sS mM _ bB tT cC _ _ _ _ _ _ _ _ [a139, a2] h147 3 24 371 #[.val (.int i0), .val (.int i1), .val (.int i2), .val (.int i3), .val (.int i4), .val (.int (0 : Int32)), .val (.int (Int32.ofNat ld)), .val (.int (2 : Int32)), .val (.ref a2), .val (.int k0), .val (.int k1), .val (.int k2), .val (.int (Int32.ofNat v0)), .val (.int (Int32.ofNat v1)), .val (.int (Int32.ofNat v2)), .unset] [.ref a139]
      refine oGo.invokestatic (pc' := 374) (k' := 19) (n' := 324) (argsL := [.ref a139]) (rest := []) at_371 rfl (w38 hG) (w39 hG) (w40 hG) (w41 hG) (by decide) pd38 rfl rfl rfl (c_parseB hG a139 tX (put W ld [k0, k1]) [k0, k1] ld (ld + [k0, k1].length) (by simp) (by simp) hpr (fun c hc => own_b34 (hb3 c hc)) HW (put_mid (by omega)) _ SX) (by simp) (by decide) (Nat.le_of_ble_eq_true rfl) rfl rfl (by decide) (by decide) ?_
      intro v149 h150 sh150 q151
      obtain ⟨KP, key, y, u, rfl, EP, GP, SP⟩ := q151
      refine ⟨_, fun _ hx => Or.inl hx, ?_⟩
      show oGo l Z a0 EL True pP eE sS mM _ bB tT cC _ _ _ _ _ _ _ _ [a139, a2] h150 19 324 374 #[.val (.int i0), .val (.int i1), .val (.int i2), .val (.int i3), .val (.int i4), .val (.int (0 : Int32)), .val (.int (Int32.ofNat ld)), .val (.int (2 : Int32)), .val (.ref a2), .val (.int k0), .val (.int k1), .val (.int k2), .val (.int (Int32.ofNat v0)), .val (.int (Int32.ofNat v1)), .val (.int (Int32.ofNat v2)), .unset] [.ref key]
      refine oGo.invokevirtual (pc' := 377) (k' := 19) (n' := 324) (a := key) (argsL := []) (rest := []) at_374 rfl (w182 hG) (w183 hG) (w185 hG) (w185 hG) rfl (w184 hG) (w40 hG) (w186 hG) (by decide) pd30 rfl rfl rfl EP (c_value hG key y _ GP) (by simp) (by decide) (Nat.le_of_ble_eq_true rfl) rfl rfl (by decide) (by decide) ?_
      intro v152 h153 sh153 q154
      obtain ⟨rfl, ee⟩ := q154
      obtain rfl := ee.symm
      refine ⟨_, fun _ hx => Or.inl hx, ?_⟩
      show oGo l Z a0 EL True pP eE sS mM _ bB tT cC _ _ _ _ _ _ _ _ [a139, a2] h150 19 324 377 #[.val (.int i0), .val (.int i1), .val (.int i2), .val (.int i3), .val (.int i4), .val (.int (0 : Int32)), .val (.int (Int32.ofNat ld)), .val (.int (2 : Int32)), .val (.ref a2), .val (.int k0), .val (.int k1), .val (.int k2), .val (.int (Int32.ofNat v0)), .val (.int (Int32.ofNat v1)), .val (.int (Int32.ofNat v2)), .unset] [.ref y]
      refine oGo.astore (pc' := 379) (Ls' := #[.val (.int i0), .val (.int i1), .val (.int i2), .val (.int i3), .val (.int i4), .val (.int (0 : Int32)), .val (.int (Int32.ofNat ld)), .val (.int (2 : Int32)), .val (.ref a2), .val (.int k0), .val (.int k1), .val (.int k2), .val (.ref y), .val (.int (Int32.ofNat v1)), .val (.int (Int32.ofNat v2)), .unset]) at_377 rfl rfl rfl ?_
      refine oGo.aload (pc' := 381) at_379 rfl rfl rfl ?_
      refine oGo.invokevirtual (pc' := 384) (k' := 19) (n' := 324) (a := y) (argsL := []) (rest := []) at_381 rfl (w187 hG) (w54 hG) (w56 hG) (w56 hG) rfl (w55 hG) (w11 hG) (w57 hG) (by decide) pd13 rfl rfl rfl SP.1 (c_length hG y u [k0, k1] _ SP) (by simp) (by decide) (Nat.le_of_ble_eq_true rfl) rfl rfl (by decide) (by decide) ?_
      intro v155 h156 sh156 q157
      obtain ⟨rfl, ee⟩ := q157
      obtain rfl := ee.symm
      refine ⟨_, fun _ hx => Or.inl hx, ?_⟩
      show oGo l Z a0 EL True pP eE sS mM _ bB tT cC _ _ _ _ _ _ _ _ [a139, a2] h150 19 324 384 #[.val (.int i0), .val (.int i1), .val (.int i2), .val (.int i3), .val (.int i4), .val (.int (0 : Int32)), .val (.int (Int32.ofNat ld)), .val (.int (2 : Int32)), .val (.ref a2), .val (.int k0), .val (.int k1), .val (.int k2), .val (.ref y), .val (.int (Int32.ofNat v1)), .val (.int (Int32.ofNat v2)), .unset] [.int (2 : Int32)]
      refine oGo.iload (pc' := 386) at_384 rfl rfl ?_
      refine oGo.icmp_eq (pc1 := 389) (pc2 := 391) at_386 rfl (by decide) (fun q158 => ?_) (fun q => absurd rfl q)
      refine oGo.aload (pc' := 393) at_391 rfl rfl rfl ?_
      refine oGo.iconst (pc' := 394) (v := 0) at_393 rfl (by decide) ?_
      refine oGo.invokevirtual (pc' := 397) (k' := 19) (n' := 324) (a := y) (argsL := [.int (0 : Int32)]) (rest := []) at_394 rfl (w188 hG) (w64 hG) (w66 hG) (w66 hG) rfl (w65 hG) (w11 hG) (w67 hG) (by decide) pd22 rfl rfl rfl SP.1 (c_charAt hG y u [k0, k1] 0 k0 rfl _ SP) (by simp) (by decide) (Nat.le_of_ble_eq_true rfl) rfl rfl (by decide) (by decide) ?_
      intro v159 h160 sh160 q161
      obtain ⟨rfl, ee⟩ := q161
      obtain rfl := ee.symm
      refine ⟨_, fun _ hx => Or.inl hx, ?_⟩
      show oGo l Z a0 EL True pP eE sS mM _ bB tT cC _ _ _ _ _ _ _ _ [a139, a2] h150 19 324 397 #[.val (.int i0), .val (.int i1), .val (.int i2), .val (.int i3), .val (.int i4), .val (.int (0 : Int32)), .val (.int (Int32.ofNat ld)), .val (.int (2 : Int32)), .val (.ref a2), .val (.int k0), .val (.int k1), .val (.int k2), .val (.ref y), .val (.int (Int32.ofNat v1)), .val (.int (Int32.ofNat v2)), .unset] [.int k0]
      refine oGo.iload (pc' := 399) at_397 rfl rfl ?_
      refine oGo.icmp_eq (pc1 := 402) (pc2 := 404) at_399 rfl (by decide) (fun q162 => ?_) (fun q => absurd rfl q)
      refine oGo.iload (pc' := 406) at_404 rfl rfl ?_
      refine oGo.iconst (pc' := 407) (v := 1) at_406 rfl (by decide) ?_
      refine oGo.icmp_le (pc1 := 410) (pc2 := 423) at_407 rfl (by decide) (fun q => by first | exact absurd q (by decide) | exact absurd (by decide) q) (fun q163 => ?_)
      refine oGo.aload (pc' := 412) at_410 rfl rfl rfl ?_
      refine oGo.iconst (pc' := 413) (v := 1) at_412 rfl (by decide) ?_
      refine oGo.invokevirtual (pc' := 416) (k' := 19) (n' := 324) (a := y) (argsL := [.int (1 : Int32)]) (rest := []) at_413 rfl (w188 hG) (w64 hG) (w66 hG) (w66 hG) rfl (w65 hG) (w11 hG) (w67 hG) (by decide) pd22 rfl rfl rfl SP.1 (c_charAt hG y u [k0, k1] 1 k1 rfl _ SP) (by simp) (by decide) (Nat.le_of_ble_eq_true rfl) rfl rfl (by decide) (by decide) ?_
      intro v164 h165 sh165 q166
      obtain ⟨rfl, ee⟩ := q166
      obtain rfl := ee.symm
      refine ⟨_, fun _ hx => Or.inl hx, ?_⟩
      show oGo l Z a0 EL True pP eE sS mM _ bB tT cC _ _ _ _ _ _ _ _ [a139, a2] h150 19 324 416 #[.val (.int i0), .val (.int i1), .val (.int i2), .val (.int i3), .val (.int i4), .val (.int (0 : Int32)), .val (.int (Int32.ofNat ld)), .val (.int (2 : Int32)), .val (.ref a2), .val (.int k0), .val (.int k1), .val (.int k2), .val (.ref y), .val (.int (Int32.ofNat v1)), .val (.int (Int32.ofNat v2)), .unset] [.int k1]
      refine oGo.iload (pc' := 418) at_416 rfl rfl ?_
      refine oGo.icmp_eq (pc1 := 421) (pc2 := 423) at_418 rfl (by decide) (fun q167 => ?_) (fun q => absurd rfl q)
      refine oGo.iload (pc' := 425) at_423 rfl rfl ?_
      refine oGo.iconst (pc' := 426) (v := 2) at_425 rfl (by decide) ?_
      refine oGo.icmp_le (pc1 := 429) (pc2 := 442) at_426 rfl (by decide) (fun q168 => ?_) (fun q => by first | exact absurd q (by decide) | exact absurd (by decide) q)
      refine oGo.iconst (pc' := 443) (v := 1) at_442 rfl (by decide) ?_
      exact oGo.nreturn at_443 rfl (by simp) rfl (by decide) (by decide) rfl (fun _ q => q.elim)
    · show oGo l Z a0 EL True pP eE sS mM _ bB tT cC _ _ _ _ _ _ _ _ [a2] h62 1 10 149 #[.val (.int i0), .val (.int i1), .val (.int i2), .val (.int i3), .val (.int i4), .val (.int (0 : Int32)), .val (.int (Int32.ofNat ld)), .val (.int (3 : Int32)), .val (.ref a2), .unset, .unset, .unset, .unset, .unset, .unset, .unset] [.int (0 : Int32)]
      refine oGo.if_eq (pc1 := 152) (pc2 := 268) at_149 rfl (by decide) (fun q169 => ?_) (fun q => by first | exact absurd q (by decide) | exact absurd (by decide) q)
      refine oGo.iload_n (pc' := 269) at_268 rfl rfl ?_
      refine oGo.ldc_int (pc' := 271) at_269 rfl (w5 hG) ?_
      refine oGo.iand (pc' := 272) at_271 rfl ?_
      refine oGo.bipush (pc' := 274) (v := 93) at_272 rfl (by decide) ?_
      refine oGo.irem (pc' := 275) at_274 rfl (by decide) ?_
      obtain ⟨v0, hv0, ev0⟩ := own_r93 i1
      rw [ev0]
      obtain ⟨k0, hk0⟩ : ∃ k, k = Int32.ofNat (bareF v0) := ⟨_, rfl⟩
      have pk0 := bare_ok v0 hv0
      rw [← hk0] at pk0
      have bk0 := own_pr (own_b32 pk0)
      refine oGo.istore (pc' := 277) (Ls' := #[.val (.int i0), .val (.int i1), .val (.int i2), .val (.int i3), .val (.int i4), .val (.int (0 : Int32)), .val (.int (Int32.ofNat ld)), .val (.int (3 : Int32)), .val (.ref a2), .unset, .unset, .unset, .val (.int (Int32.ofNat v0)), .unset, .unset, .unset]) at_275 rfl rfl ?_
      refine oGo.iload_n (pc' := 278) at_277 rfl rfl ?_
      refine oGo.ldc_int (pc' := 280) at_278 rfl (w5 hG) ?_
      refine oGo.iand (pc' := 281) at_280 rfl ?_
      refine oGo.bipush (pc' := 283) (v := 93) at_281 rfl (by decide) ?_
      refine oGo.irem (pc' := 284) at_283 rfl (by decide) ?_
      obtain ⟨v1, hv1, ev1⟩ := own_r93 i2
      rw [ev1]
      obtain ⟨k1, hk1⟩ : ∃ k, k = Int32.ofNat (bareF v1) := ⟨_, rfl⟩
      have pk1 := bare_ok v1 hv1
      rw [← hk1] at pk1
      have bk1 := own_pr (own_b32 pk1)
      refine oGo.istore (pc' := 286) (Ls' := #[.val (.int i0), .val (.int i1), .val (.int i2), .val (.int i3), .val (.int i4), .val (.int (0 : Int32)), .val (.int (Int32.ofNat ld)), .val (.int (3 : Int32)), .val (.ref a2), .unset, .unset, .unset, .val (.int (Int32.ofNat v0)), .val (.int (Int32.ofNat v1)), .unset, .unset]) at_284 rfl rfl ?_
      refine oGo.iload_n (pc' := 287) at_286 rfl rfl ?_
      refine oGo.ldc_int (pc' := 289) at_287 rfl (w5 hG) ?_
      refine oGo.iand (pc' := 290) at_289 rfl ?_
      refine oGo.bipush (pc' := 292) (v := 93) at_290 rfl (by decide) ?_
      refine oGo.irem (pc' := 293) at_292 rfl (by decide) ?_
      obtain ⟨v2, hv2, ev2⟩ := own_r93 i3
      rw [ev2]
      obtain ⟨k2, hk2⟩ : ∃ k, k = Int32.ofNat (bareF v2) := ⟨_, rfl⟩
      have pk2 := bare_ok v2 hv2
      rw [← hk2] at pk2
      have bk2 := own_pr (own_b32 pk2)
      refine oGo.istore (pc' := 295) (Ls' := #[.val (.int i0), .val (.int i1), .val (.int i2), .val (.int i3), .val (.int i4), .val (.int (0 : Int32)), .val (.int (Int32.ofNat ld)), .val (.int (3 : Int32)), .val (.ref a2), .unset, .unset, .unset, .val (.int (Int32.ofNat v0)), .val (.int (Int32.ofNat v1)), .val (.int (Int32.ofNat v2)), .unset]) at_293 rfl rfl ?_
      refine oGo.aload (pc' := 297) at_295 rfl rfl rfl ?_
      refine oGo.iload (pc' := 299) at_297 rfl rfl ?_
      refine oGo.iload (pc' := 301) at_299 rfl rfl ?_
      refine oGo.invokestatic (pc' := 304) (k' := 1) (n' := 10) (argsL := [.int (Int32.ofNat v0)]) (rest := [.int (Int32.ofNat ld), .ref a2]) at_301 rfl (w6 hG) (w7 hG) (w3 hG) (w8 hG) (by decide) pd22 rfl rfl rfl (c_bare hG v0 hv0 _) (by simp) (by decide) (Nat.le_of_ble_eq_true rfl) rfl rfl (by decide) (by decide) ?_
      intro v170 h171 sh171 q172
      obtain ⟨rfl, ee⟩ := q172
      obtain rfl := ee.symm
      refine ⟨_, fun _ hx => Or.inl hx, ?_⟩
      show oGo l Z a0 EL True pP eE sS mM _ bB tT cC _ _ _ _ _ _ _ _ [a2] h62 1 10 304 #[.val (.int i0), .val (.int i1), .val (.int i2), .val (.int i3), .val (.int i4), .val (.int (0 : Int32)), .val (.int (Int32.ofNat ld)), .val (.int (3 : Int32)), .val (.ref a2), .unset, .unset, .unset, .val (.int (Int32.ofNat v0)), .val (.int (Int32.ofNat v1)), .val (.int (Int32.ofNat v2)), .unset] [.int (Int32.ofNat (bareF v0)), .int (Int32.ofNat ld), .ref a2]
      rw [← hk0]
      refine oGo.castore (pc' := 305) (i := ld) (w := k0) at_304 rfl AW rfl (by rw [List.length_map, put_len (by (first | omega | (simp only [List.length_append, List.length_cons, List.length_nil] <;> omega)))]; (first | omega | (simp only [List.length_append, List.length_cons, List.length_nil] <;> omega))) (nar_char bk0.1 (own_255 bk0.2)) (by simp) ?_
      intro h173 W174 sh173 A175
      rw [put_set _ (by (first | omega | (simp only [List.length_append, List.length_cons, List.length_nil] <;> omega))) (by (first | omega | (simp only [List.length_append, List.length_cons, List.length_nil] <;> omega)))] at A175
      refine oGo.iload (pc' := 307) at_305 rfl rfl ?_
      refine oGo.iconst (pc' := 308) (v := 1) at_307 rfl (by decide) ?_
      refine oGo.icmp_le (pc1 := 311) (pc2 := 323) at_308 rfl (by decide) (fun q => by first | exact absurd q (by decide) | exact absurd (by decide) q) (fun q176 => ?_)
      refine oGo.aload (pc' := 313) at_311 rfl rfl rfl ?_
      refine oGo.iload (pc' := 315) at_313 rfl rfl ?_
      refine oGo.iconst (pc' := 316) (v := 1) at_315 rfl (by decide) ?_
      refine oGo.iadd (pc' := 317) at_316 rfl ?_
      rw [own_addL ld 1 1 rfl]
      refine oGo.iload (pc' := 319) at_317 rfl rfl ?_
      refine oGo.invokestatic (pc' := 322) (k' := 1) (n' := 10) (argsL := [.int (Int32.ofNat v1)]) (rest := [.int (Int32.ofNat (ld + 1)), .ref a2]) at_319 rfl (w6 hG) (w7 hG) (w3 hG) (w8 hG) (by decide) pd22 rfl rfl rfl (c_bare hG v1 hv1 _) (by simp) (by decide) (Nat.le_of_ble_eq_true rfl) rfl rfl (by decide) (by decide) ?_
      intro v177 h178 sh178 q179
      obtain ⟨rfl, ee⟩ := q179
      obtain rfl := ee.symm
      refine ⟨_, fun _ hx => Or.inl hx, ?_⟩
      show oGo l Z a0 EL True pP eE sS mM _ bB tT cC _ _ _ _ _ _ _ _ [a2] h173 1 10 322 #[.val (.int i0), .val (.int i1), .val (.int i2), .val (.int i3), .val (.int i4), .val (.int (0 : Int32)), .val (.int (Int32.ofNat ld)), .val (.int (3 : Int32)), .val (.ref a2), .unset, .unset, .unset, .val (.int (Int32.ofNat v0)), .val (.int (Int32.ofNat v1)), .val (.int (Int32.ofNat v2)), .unset] [.int (Int32.ofNat (bareF v1)), .int (Int32.ofNat (ld + 1)), .ref a2]
      rw [← hk1]
      refine oGo.castore (pc' := 323) (i := ld + 1) (w := k1) at_322 rfl A175 rfl (by rw [List.length_map, put_len (by (first | omega | (simp only [List.length_append, List.length_cons, List.length_nil] <;> omega)))]; (first | omega | (simp only [List.length_append, List.length_cons, List.length_nil] <;> omega))) (nar_char bk1.1 (own_255 bk1.2)) (by simp) ?_
      intro h180 W181 sh180 A182
      rw [put_set _ (by (first | omega | (simp only [List.length_append, List.length_cons, List.length_nil] <;> omega))) (by (first | omega | (simp only [List.length_append, List.length_cons, List.length_nil] <;> omega)))] at A182
      refine oGo.iload (pc' := 325) at_323 rfl rfl ?_
      refine oGo.iconst (pc' := 326) (v := 2) at_325 rfl (by decide) ?_
      refine oGo.icmp_le (pc1 := 329) (pc2 := 341) at_326 rfl (by decide) (fun q => by first | exact absurd q (by decide) | exact absurd (by decide) q) (fun q183 => ?_)
      refine oGo.aload (pc' := 331) at_329 rfl rfl rfl ?_
      refine oGo.iload (pc' := 333) at_331 rfl rfl ?_
      refine oGo.iconst (pc' := 334) (v := 2) at_333 rfl (by decide) ?_
      refine oGo.iadd (pc' := 335) at_334 rfl ?_
      rw [own_addL ld 2 2 rfl]
      refine oGo.iload (pc' := 337) at_335 rfl rfl ?_
      refine oGo.invokestatic (pc' := 340) (k' := 1) (n' := 10) (argsL := [.int (Int32.ofNat v2)]) (rest := [.int (Int32.ofNat (ld + 2)), .ref a2]) at_337 rfl (w6 hG) (w7 hG) (w3 hG) (w8 hG) (by decide) pd22 rfl rfl rfl (c_bare hG v2 hv2 _) (by simp) (by decide) (Nat.le_of_ble_eq_true rfl) rfl rfl (by decide) (by decide) ?_
      intro v184 h185 sh185 q186
      obtain ⟨rfl, ee⟩ := q186
      obtain rfl := ee.symm
      refine ⟨_, fun _ hx => Or.inl hx, ?_⟩
      show oGo l Z a0 EL True pP eE sS mM _ bB tT cC _ _ _ _ _ _ _ _ [a2] h180 1 10 340 #[.val (.int i0), .val (.int i1), .val (.int i2), .val (.int i3), .val (.int i4), .val (.int (0 : Int32)), .val (.int (Int32.ofNat ld)), .val (.int (3 : Int32)), .val (.ref a2), .unset, .unset, .unset, .val (.int (Int32.ofNat v0)), .val (.int (Int32.ofNat v1)), .val (.int (Int32.ofNat v2)), .unset] [.int (Int32.ofNat (bareF v2)), .int (Int32.ofNat (ld + 2)), .ref a2]
      rw [← hk2]
      refine oGo.castore (pc' := 341) (i := ld + 2) (w := k2) at_340 rfl A182 rfl (by rw [List.length_map, put_len (by (first | omega | (simp only [List.length_append, List.length_cons, List.length_nil] <;> omega)))]; (first | omega | (simp only [List.length_append, List.length_cons, List.length_nil] <;> omega))) (nar_char bk2.1 (own_255 bk2.2)) (by simp) ?_
      intro h187 W188 sh187 A189
      rw [put_set _ (by (first | omega | (simp only [List.length_append, List.length_cons, List.length_nil] <;> omega))) (by (first | omega | (simp only [List.length_append, List.length_cons, List.length_nil] <;> omega)))] at A189
      refine oGo.iload (pc' := 343) at_341 rfl rfl ?_
      have A190 : oArr Z h187 a2 .char (oI (put W ld [k0, k1, k2])) := A189
      refine oGo.invokestatic (pc' := 346) (k' := 1) (n' := 10) (argsL := [.int (Int32.ofNat v0)]) (rest := []) at_343 rfl (w6 hG) (w7 hG) (w3 hG) (w8 hG) (by decide) pd22 rfl rfl rfl (c_bare hG v0 hv0 _) (by simp) (by decide) (Nat.le_of_ble_eq_true rfl) rfl rfl (by decide) (by decide) ?_
      intro v191 h192 sh192 q193
      obtain ⟨rfl, ee⟩ := q193
      obtain rfl := ee.symm
      refine ⟨_, fun _ hx => Or.inl hx, ?_⟩
      show oGo l Z a0 EL True pP eE sS mM _ bB tT cC _ _ _ _ _ _ _ _ [a2] h187 1 10 346 #[.val (.int i0), .val (.int i1), .val (.int i2), .val (.int i3), .val (.int i4), .val (.int (0 : Int32)), .val (.int (Int32.ofNat ld)), .val (.int (3 : Int32)), .val (.ref a2), .unset, .unset, .unset, .val (.int (Int32.ofNat v0)), .val (.int (Int32.ofNat v1)), .val (.int (Int32.ofNat v2)), .unset] [.int (Int32.ofNat (bareF v0))]
      rw [← hk0]
      refine oGo.istore (pc' := 348) (Ls' := #[.val (.int i0), .val (.int i1), .val (.int i2), .val (.int i3), .val (.int i4), .val (.int (0 : Int32)), .val (.int (Int32.ofNat ld)), .val (.int (3 : Int32)), .val (.ref a2), .val (.int k0), .unset, .unset, .val (.int (Int32.ofNat v0)), .val (.int (Int32.ofNat v1)), .val (.int (Int32.ofNat v2)), .unset]) at_346 rfl rfl ?_
      refine oGo.iload (pc' := 350) at_348 rfl rfl ?_
      refine oGo.invokestatic (pc' := 353) (k' := 1) (n' := 10) (argsL := [.int (Int32.ofNat v1)]) (rest := []) at_350 rfl (w6 hG) (w7 hG) (w3 hG) (w8 hG) (by decide) pd22 rfl rfl rfl (c_bare hG v1 hv1 _) (by simp) (by decide) (Nat.le_of_ble_eq_true rfl) rfl rfl (by decide) (by decide) ?_
      intro v194 h195 sh195 q196
      obtain ⟨rfl, ee⟩ := q196
      obtain rfl := ee.symm
      refine ⟨_, fun _ hx => Or.inl hx, ?_⟩
      show oGo l Z a0 EL True pP eE sS mM _ bB tT cC _ _ _ _ _ _ _ _ [a2] h187 1 10 353 #[.val (.int i0), .val (.int i1), .val (.int i2), .val (.int i3), .val (.int i4), .val (.int (0 : Int32)), .val (.int (Int32.ofNat ld)), .val (.int (3 : Int32)), .val (.ref a2), .val (.int k0), .unset, .unset, .val (.int (Int32.ofNat v0)), .val (.int (Int32.ofNat v1)), .val (.int (Int32.ofNat v2)), .unset] [.int (Int32.ofNat (bareF v1))]
      rw [← hk1]
      refine oGo.istore (pc' := 355) (Ls' := #[.val (.int i0), .val (.int i1), .val (.int i2), .val (.int i3), .val (.int i4), .val (.int (0 : Int32)), .val (.int (Int32.ofNat ld)), .val (.int (3 : Int32)), .val (.ref a2), .val (.int k0), .val (.int k1), .unset, .val (.int (Int32.ofNat v0)), .val (.int (Int32.ofNat v1)), .val (.int (Int32.ofNat v2)), .unset]) at_353 rfl rfl ?_
      refine oGo.iload (pc' := 357) at_355 rfl rfl ?_
      refine oGo.invokestatic (pc' := 360) (k' := 1) (n' := 10) (argsL := [.int (Int32.ofNat v2)]) (rest := []) at_357 rfl (w6 hG) (w7 hG) (w3 hG) (w8 hG) (by decide) pd22 rfl rfl rfl (c_bare hG v2 hv2 _) (by simp) (by decide) (Nat.le_of_ble_eq_true rfl) rfl rfl (by decide) (by decide) ?_
      intro v197 h198 sh198 q199
      obtain ⟨rfl, ee⟩ := q199
      obtain rfl := ee.symm
      refine ⟨_, fun _ hx => Or.inl hx, ?_⟩
      show oGo l Z a0 EL True pP eE sS mM _ bB tT cC _ _ _ _ _ _ _ _ [a2] h187 1 10 360 #[.val (.int i0), .val (.int i1), .val (.int i2), .val (.int i3), .val (.int i4), .val (.int (0 : Int32)), .val (.int (Int32.ofNat ld)), .val (.int (3 : Int32)), .val (.ref a2), .val (.int k0), .val (.int k1), .unset, .val (.int (Int32.ofNat v0)), .val (.int (Int32.ofNat v1)), .val (.int (Int32.ofNat v2)), .unset] [.int (Int32.ofNat (bareF v2))]
      rw [← hk2]
      have hq10 : ld + [k0, k1, k2].length ≤ 10 := by simp; omega
      have hb3 : ∀ c ∈ ([k0, k1, k2] : List Int32), ¬ c < 33 ∧ ¬ 126 < c ∧ c ≠ 34 := by intro c hc; simp only [List.mem_cons, List.not_mem_nil, or_false] at hc; rcases hc with rfl | rfl | rfl <;> assumption
      have hpr : ∀ c ∈ ([k0, k1, k2] : List Int32), ¬ c < 32 ∧ ¬ 126 < c := fun c hc => own_b32 (hb3 c hc)
      have HW : oWs (put W ld [k0, k1, k2]) ld (ld + [k0, k1, k2].length) := put_ws hW hWl hq10 (by simp) ⟨k0, rfl, own_bw pk0⟩ ⟨k2, rfl, own_bw pk2⟩
      have hcl : (put W ld [k0, k1, k2]).length = 10 := by rw [put_len (by rw [hWl]; exact hq10)]; exact hWl
      refine oGo.istore (pc' := 362) (Ls' := #[.val (.int i0), .val (.int i1), .val (.int i2), .val (.int i3), .val (.int i4), .val (.int (0 : Int32)), .val (.int (Int32.ofNat ld)), .val (.int (3 : Int32)), .val (.ref a2), .val (.int k0), .val (.int k1), .val (.int k2), .val (.int (Int32.ofNat v0)), .val (.int (Int32.ofNat v1)), .val (.int (Int32.ofNat v2)), .unset]) at_360 rfl rfl ?_
      refine oGo.new (pc' := 365) (k' := 2) (n' := 14) at_362 rfl (w9 hG) (w10 hG) (w11 hG) rfl rfl (by decide) (by decide) ?_
      intro h200 a201 qa201 la201 E202 X203 F204
      have f205 := F204 (Or.inr (w35 hG)) (ty := .byte) (by decide)
      have f206 := F204 (Or.inr (w37 hG)) (ty := (.array .byte)) (by decide)
      refine oGo.dup (pc' := 366) at_365 rfl rfl ?_
      refine oGo.aload (pc' := 368) at_366 rfl rfl rfl ?_
      have f207 := oArr.ext E202 A190
      refine oGo.invokespecial (pc' := 371) (k' := 3) (n' := 24) (a := a201) (argsL := [.ref a2]) (rest := [.ref a201]) at_368 rfl rfl (w12 hG) (w13 hG) (w11 hG) (w14 hG) (by decide) pd37 rfl rfl rfl (c_strI1 hG a201 a2 (put W ld [k0, k1, k2]) (by omega) (by omega) (own_put_bd hW ((fun c hc => own_pr (hpr c hc)))) _ _ _ f207 X203 f206 f205) (by simp) (by decide) (Nat.le_of_ble_eq_true rfl) rfl rfl (by decide) (by decide) ?_
      intro v208 h209 sh209 q210
      obtain ⟨rfl, KX, tX, SX⟩ := q210
      have lxX := own_ltN SX.1.lt
      have ltX := own_ltN SX.2.2.2.1.lt
      refine ⟨_, fun _ hx => Or.inl hx, ?_⟩
      show oGo l Z a0 EL True pP eE sS mM _ bB tT cC _ _ _ _ _ _ _ _ [a201, a2] h209 3 24 371 #[.val (.int i0), .val (.int i1), .val (.int i2), .val (.int i3), .val (.int i4), .val (.int (0 : Int32)), .val (.int (Int32.ofNat ld)), .val (.int (3 : Int32)), .val (.ref a2), .val (.int k0), .val (.int k1), .val (.int k2), .val (.int (Int32.ofNat v0)), .val (.int (Int32.ofNat v1)), .val (.int (Int32.ofNat v2)), .unset] [.ref a201]
      refine oGo.invokestatic (pc' := 374) (k' := 19) (n' := 324) (argsL := [.ref a201]) (rest := []) at_371 rfl (w38 hG) (w39 hG) (w40 hG) (w41 hG) (by decide) pd38 rfl rfl rfl (c_parseB hG a201 tX (put W ld [k0, k1, k2]) [k0, k1, k2] ld (ld + [k0, k1, k2].length) (by simp) (by simp) hpr (fun c hc => own_b34 (hb3 c hc)) HW (put_mid (by omega)) _ SX) (by simp) (by decide) (Nat.le_of_ble_eq_true rfl) rfl rfl (by decide) (by decide) ?_
      intro v211 h212 sh212 q213
      obtain ⟨KP, key, y, u, rfl, EP, GP, SP⟩ := q213
      refine ⟨_, fun _ hx => Or.inl hx, ?_⟩
      show oGo l Z a0 EL True pP eE sS mM _ bB tT cC _ _ _ _ _ _ _ _ [a201, a2] h212 19 324 374 #[.val (.int i0), .val (.int i1), .val (.int i2), .val (.int i3), .val (.int i4), .val (.int (0 : Int32)), .val (.int (Int32.ofNat ld)), .val (.int (3 : Int32)), .val (.ref a2), .val (.int k0), .val (.int k1), .val (.int k2), .val (.int (Int32.ofNat v0)), .val (.int (Int32.ofNat v1)), .val (.int (Int32.ofNat v2)), .unset] [.ref key]
      refine oGo.invokevirtual (pc' := 377) (k' := 19) (n' := 324) (a := key) (argsL := []) (rest := []) at_374 rfl (w182 hG) (w183 hG) (w185 hG) (w185 hG) rfl (w184 hG) (w40 hG) (w186 hG) (by decide) pd30 rfl rfl rfl EP (c_value hG key y _ GP) (by simp) (by decide) (Nat.le_of_ble_eq_true rfl) rfl rfl (by decide) (by decide) ?_
      intro v214 h215 sh215 q216
      obtain ⟨rfl, ee⟩ := q216
      obtain rfl := ee.symm
      refine ⟨_, fun _ hx => Or.inl hx, ?_⟩
      show oGo l Z a0 EL True pP eE sS mM _ bB tT cC _ _ _ _ _ _ _ _ [a201, a2] h212 19 324 377 #[.val (.int i0), .val (.int i1), .val (.int i2), .val (.int i3), .val (.int i4), .val (.int (0 : Int32)), .val (.int (Int32.ofNat ld)), .val (.int (3 : Int32)), .val (.ref a2), .val (.int k0), .val (.int k1), .val (.int k2), .val (.int (Int32.ofNat v0)), .val (.int (Int32.ofNat v1)), .val (.int (Int32.ofNat v2)), .unset] [.ref y]
      refine oGo.astore (pc' := 379) (Ls' := #[.val (.int i0), .val (.int i1), .val (.int i2), .val (.int i3), .val (.int i4), .val (.int (0 : Int32)), .val (.int (Int32.ofNat ld)), .val (.int (3 : Int32)), .val (.ref a2), .val (.int k0), .val (.int k1), .val (.int k2), .val (.ref y), .val (.int (Int32.ofNat v1)), .val (.int (Int32.ofNat v2)), .unset]) at_377 rfl rfl rfl ?_
      refine oGo.aload (pc' := 381) at_379 rfl rfl rfl ?_
      refine oGo.invokevirtual (pc' := 384) (k' := 19) (n' := 324) (a := y) (argsL := []) (rest := []) at_381 rfl (w187 hG) (w54 hG) (w56 hG) (w56 hG) rfl (w55 hG) (w11 hG) (w57 hG) (by decide) pd13 rfl rfl rfl SP.1 (c_length hG y u [k0, k1, k2] _ SP) (by simp) (by decide) (Nat.le_of_ble_eq_true rfl) rfl rfl (by decide) (by decide) ?_
      intro v217 h218 sh218 q219
      obtain ⟨rfl, ee⟩ := q219
      obtain rfl := ee.symm
      refine ⟨_, fun _ hx => Or.inl hx, ?_⟩
      show oGo l Z a0 EL True pP eE sS mM _ bB tT cC _ _ _ _ _ _ _ _ [a201, a2] h212 19 324 384 #[.val (.int i0), .val (.int i1), .val (.int i2), .val (.int i3), .val (.int i4), .val (.int (0 : Int32)), .val (.int (Int32.ofNat ld)), .val (.int (3 : Int32)), .val (.ref a2), .val (.int k0), .val (.int k1), .val (.int k2), .val (.ref y), .val (.int (Int32.ofNat v1)), .val (.int (Int32.ofNat v2)), .unset] [.int (3 : Int32)]
      refine oGo.iload (pc' := 386) at_384 rfl rfl ?_
      refine oGo.icmp_eq (pc1 := 389) (pc2 := 391) at_386 rfl (by decide) (fun q220 => ?_) (fun q => absurd rfl q)
      refine oGo.aload (pc' := 393) at_391 rfl rfl rfl ?_
      refine oGo.iconst (pc' := 394) (v := 0) at_393 rfl (by decide) ?_
      refine oGo.invokevirtual (pc' := 397) (k' := 19) (n' := 324) (a := y) (argsL := [.int (0 : Int32)]) (rest := []) at_394 rfl (w188 hG) (w64 hG) (w66 hG) (w66 hG) rfl (w65 hG) (w11 hG) (w67 hG) (by decide) pd22 rfl rfl rfl SP.1 (c_charAt hG y u [k0, k1, k2] 0 k0 rfl _ SP) (by simp) (by decide) (Nat.le_of_ble_eq_true rfl) rfl rfl (by decide) (by decide) ?_
      intro v221 h222 sh222 q223
      obtain ⟨rfl, ee⟩ := q223
      obtain rfl := ee.symm
      refine ⟨_, fun _ hx => Or.inl hx, ?_⟩
      show oGo l Z a0 EL True pP eE sS mM _ bB tT cC _ _ _ _ _ _ _ _ [a201, a2] h212 19 324 397 #[.val (.int i0), .val (.int i1), .val (.int i2), .val (.int i3), .val (.int i4), .val (.int (0 : Int32)), .val (.int (Int32.ofNat ld)), .val (.int (3 : Int32)), .val (.ref a2), .val (.int k0), .val (.int k1), .val (.int k2), .val (.ref y), .val (.int (Int32.ofNat v1)), .val (.int (Int32.ofNat v2)), .unset] [.int k0]
      refine oGo.iload (pc' := 399) at_397 rfl rfl ?_
      refine oGo.icmp_eq (pc1 := 402) (pc2 := 404) at_399 rfl (by decide) (fun q224 => ?_) (fun q => absurd rfl q)
      refine oGo.iload (pc' := 406) at_404 rfl rfl ?_
      refine oGo.iconst (pc' := 407) (v := 1) at_406 rfl (by decide) ?_
      refine oGo.icmp_le (pc1 := 410) (pc2 := 423) at_407 rfl (by decide) (fun q => by first | exact absurd q (by decide) | exact absurd (by decide) q) (fun q225 => ?_)
      refine oGo.aload (pc' := 412) at_410 rfl rfl rfl ?_
      refine oGo.iconst (pc' := 413) (v := 1) at_412 rfl (by decide) ?_
      refine oGo.invokevirtual (pc' := 416) (k' := 19) (n' := 324) (a := y) (argsL := [.int (1 : Int32)]) (rest := []) at_413 rfl (w188 hG) (w64 hG) (w66 hG) (w66 hG) rfl (w65 hG) (w11 hG) (w67 hG) (by decide) pd22 rfl rfl rfl SP.1 (c_charAt hG y u [k0, k1, k2] 1 k1 rfl _ SP) (by simp) (by decide) (Nat.le_of_ble_eq_true rfl) rfl rfl (by decide) (by decide) ?_
      intro v226 h227 sh227 q228
      obtain ⟨rfl, ee⟩ := q228
      obtain rfl := ee.symm
      refine ⟨_, fun _ hx => Or.inl hx, ?_⟩
      show oGo l Z a0 EL True pP eE sS mM _ bB tT cC _ _ _ _ _ _ _ _ [a201, a2] h212 19 324 416 #[.val (.int i0), .val (.int i1), .val (.int i2), .val (.int i3), .val (.int i4), .val (.int (0 : Int32)), .val (.int (Int32.ofNat ld)), .val (.int (3 : Int32)), .val (.ref a2), .val (.int k0), .val (.int k1), .val (.int k2), .val (.ref y), .val (.int (Int32.ofNat v1)), .val (.int (Int32.ofNat v2)), .unset] [.int k1]
      refine oGo.iload (pc' := 418) at_416 rfl rfl ?_
      refine oGo.icmp_eq (pc1 := 421) (pc2 := 423) at_418 rfl (by decide) (fun q229 => ?_) (fun q => absurd rfl q)
      refine oGo.iload (pc' := 425) at_423 rfl rfl ?_
      refine oGo.iconst (pc' := 426) (v := 2) at_425 rfl (by decide) ?_
      refine oGo.icmp_le (pc1 := 429) (pc2 := 442) at_426 rfl (by decide) (fun q => by first | exact absurd q (by decide) | exact absurd (by decide) q) (fun q230 => ?_)
      refine oGo.aload (pc' := 431) at_429 rfl rfl rfl ?_
      refine oGo.iconst (pc' := 432) (v := 2) at_431 rfl (by decide) ?_
      refine oGo.invokevirtual (pc' := 435) (k' := 19) (n' := 324) (a := y) (argsL := [.int (2 : Int32)]) (rest := []) at_432 rfl (w188 hG) (w64 hG) (w66 hG) (w66 hG) rfl (w65 hG) (w11 hG) (w67 hG) (by decide) pd22 rfl rfl rfl SP.1 (c_charAt hG y u [k0, k1, k2] 2 k2 rfl _ SP) (by simp) (by decide) (Nat.le_of_ble_eq_true rfl) rfl rfl (by decide) (by decide) ?_
      intro v231 h232 sh232 q233
      obtain ⟨rfl, ee⟩ := q233
      obtain rfl := ee.symm
      refine ⟨_, fun _ hx => Or.inl hx, ?_⟩
      show oGo l Z a0 EL True pP eE sS mM _ bB tT cC _ _ _ _ _ _ _ _ [a201, a2] h212 19 324 435 #[.val (.int i0), .val (.int i1), .val (.int i2), .val (.int i3), .val (.int i4), .val (.int (0 : Int32)), .val (.int (Int32.ofNat ld)), .val (.int (3 : Int32)), .val (.ref a2), .val (.int k0), .val (.int k1), .val (.int k2), .val (.ref y), .val (.int (Int32.ofNat v1)), .val (.int (Int32.ofNat v2)), .unset] [.int k2]
      refine oGo.iload (pc' := 437) at_435 rfl rfl ?_
      refine oGo.icmp_eq (pc1 := 440) (pc2 := 442) at_437 rfl (by decide) (fun q234 => ?_) (fun q => absurd rfl q)
      refine oGo.iconst (pc' := 443) (v := 1) at_442 rfl (by decide) ?_
      exact oGo.nreturn at_443 rfl (by simp) rfl (by decide) (by decide) rfl (fun _ q => q.elim)
  · show oGo l Z a0 EL True pP eE sS mM _ bB tT cC _ _ _ _ _ _ _ _ [a2] h62 1 10 149 #[.val (.int i0), .val (.int i1), .val (.int i2), .val (.int i3), .val (.int i4), .val (.int (1 : Int32)), .val (.int (Int32.ofNat ld)), .val (.int (Int32.ofNat (ct + 1))), .val (.ref a2), .unset, .unset, .unset, .unset, .unset, .unset, .unset] [.int (1 : Int32)]
    rcases (show ct = 0 ∨ ct = 1 ∨ ct = 2 by omega) with rfl | rfl | rfl
    · show oGo l Z a0 EL True pP eE sS mM _ bB tT cC _ _ _ _ _ _ _ _ [a2] h62 1 10 149 #[.val (.int i0), .val (.int i1), .val (.int i2), .val (.int i3), .val (.int i4), .val (.int (1 : Int32)), .val (.int (Int32.ofNat ld)), .val (.int (1 : Int32)), .val (.ref a2), .unset, .unset, .unset, .unset, .unset, .unset, .unset] [.int (1 : Int32)]
      refine oGo.if_eq (pc1 := 152) (pc2 := 268) at_149 rfl (by decide) (fun q => by first | exact absurd q (by decide) | exact absurd (by decide) q) (fun q235 => ?_)
      refine oGo.iload_n (pc' := 153) at_152 rfl rfl ?_
      refine oGo.ldc_int (pc' := 155) at_153 rfl (w5 hG) ?_
      refine oGo.iand (pc' := 156) at_155 rfl ?_
      refine oGo.bipush (pc' := 158) (v := 95) at_156 rfl (by decide) ?_
      refine oGo.irem (pc' := 159) at_158 rfl (by decide) ?_
      obtain ⟨v0, hv0, ev0⟩ := own_r95 i1
      rw [ev0]
      obtain ⟨k0, hk0⟩ : ∃ k, k = Int32.ofNat (kcF v0) := ⟨_, rfl⟩
      have pk0 := kc_ok v0 hv0
      have el0 := enc_le k0
      rw [← hk0] at pk0
      refine oGo.istore (pc' := 161) (Ls' := #[.val (.int i0), .val (.int i1), .val (.int i2), .val (.int i3), .val (.int i4), .val (.int (1 : Int32)), .val (.int (Int32.ofNat ld)), .val (.int (1 : Int32)), .val (.ref a2), .unset, .unset, .unset, .val (.int (Int32.ofNat v0)), .unset, .unset, .unset]) at_159 rfl rfl ?_
      refine oGo.iload_n (pc' := 162) at_161 rfl rfl ?_
      refine oGo.ldc_int (pc' := 164) at_162 rfl (w5 hG) ?_
      refine oGo.iand (pc' := 165) at_164 rfl ?_
      refine oGo.bipush (pc' := 167) (v := 95) at_165 rfl (by decide) ?_
      refine oGo.irem (pc' := 168) at_167 rfl (by decide) ?_
      obtain ⟨v1, hv1, ev1⟩ := own_r95 i2
      rw [ev1]
      obtain ⟨k1, hk1⟩ : ∃ k, k = Int32.ofNat (kcF v1) := ⟨_, rfl⟩
      have pk1 := kc_ok v1 hv1
      have el1 := enc_le k1
      rw [← hk1] at pk1
      refine oGo.istore (pc' := 170) (Ls' := #[.val (.int i0), .val (.int i1), .val (.int i2), .val (.int i3), .val (.int i4), .val (.int (1 : Int32)), .val (.int (Int32.ofNat ld)), .val (.int (1 : Int32)), .val (.ref a2), .unset, .unset, .unset, .val (.int (Int32.ofNat v0)), .val (.int (Int32.ofNat v1)), .unset, .unset]) at_168 rfl rfl ?_
      refine oGo.iload_n (pc' := 171) at_170 rfl rfl ?_
      refine oGo.ldc_int (pc' := 173) at_171 rfl (w5 hG) ?_
      refine oGo.iand (pc' := 174) at_173 rfl ?_
      refine oGo.bipush (pc' := 176) (v := 95) at_174 rfl (by decide) ?_
      refine oGo.irem (pc' := 177) at_176 rfl (by decide) ?_
      obtain ⟨v2, hv2, ev2⟩ := own_r95 i3
      rw [ev2]
      obtain ⟨k2, hk2⟩ : ∃ k, k = Int32.ofNat (kcF v2) := ⟨_, rfl⟩
      have pk2 := kc_ok v2 hv2
      have el2 := enc_le k2
      rw [← hk2] at pk2
      refine oGo.istore (pc' := 179) (Ls' := #[.val (.int i0), .val (.int i1), .val (.int i2), .val (.int i3), .val (.int i4), .val (.int (1 : Int32)), .val (.int (Int32.ofNat ld)), .val (.int (1 : Int32)), .val (.ref a2), .unset, .unset, .unset, .val (.int (Int32.ofNat v0)), .val (.int (Int32.ofNat v1)), .val (.int (Int32.ofNat v2)), .unset]) at_177 rfl rfl ?_
      refine oGo.aload (pc' := 181) at_179 rfl rfl rfl ?_
      refine oGo.iload (pc' := 183) at_181 rfl rfl ?_
      refine oGo.bipush (pc' := 185) (v := 34) at_183 rfl (by decide) ?_
      refine oGo.castore (pc' := 186) (i := ld) (w := (34 : Int32)) at_185 rfl AW rfl (by rw [List.length_map, put_len (by (first | omega | (simp only [List.length_append, List.length_cons, List.length_nil] <;> omega)))]; (first | omega | (simp only [List.length_append, List.length_cons, List.length_nil] <;> omega))) (by decide) (by simp) ?_
      intro h236 W237 sh236 A238
      rw [put_set _ (by (first | omega | (simp only [List.length_append, List.length_cons, List.length_nil] <;> omega))) (by (first | omega | (simp only [List.length_append, List.length_cons, List.length_nil] <;> omega)))] at A238
      have A239 : oArr Z h236 a2 .char (oI (put W ld [34])) := A238
      refine oGo.iload (pc' := 188) at_186 rfl rfl ?_
      refine oGo.iconst (pc' := 189) (v := 1) at_188 rfl (by decide) ?_
      refine oGo.iadd (pc' := 190) at_189 rfl ?_
      rw [own_addL ld 1 1 rfl]
      refine oGo.istore (pc' := 192) (Ls' := #[.val (.int i0), .val (.int i1), .val (.int i2), .val (.int i3), .val (.int i4), .val (.int (1 : Int32)), .val (.int (Int32.ofNat ld)), .val (.int (1 : Int32)), .val (.ref a2), .unset, .unset, .unset, .val (.int (Int32.ofNat v0)), .val (.int (Int32.ofNat v1)), .val (.int (Int32.ofNat v2)), .val (.int (Int32.ofNat (ld + 1)))]) at_190 rfl rfl ?_
      refine oGo.aload (pc' := 194) at_192 rfl rfl rfl ?_
      refine oGo.iload (pc' := 196) at_194 rfl rfl ?_
      refine oGo.iload (pc' := 198) at_196 rfl rfl ?_
      refine oGo.invokestatic (pc' := 201) (k' := 1) (n' := 10) (argsL := [.ref a2, .int (Int32.ofNat (ld + 1)), .int (Int32.ofNat v0)]) (rest := []) at_198 rfl (w189 hG) (w190 hG) (w3 hG) (w191 hG) (by decide) pd39 rfl rfl rfl (c_put hG a2 ld (ld + 1) v0 W [34] rfl (by rw [hWl]; omega) (by omega) hv0 _ A239) (by simp) (by decide) (Nat.le_of_ble_eq_true rfl) rfl rfl (by decide) (by decide) ?_
      intro v240 h241 sh241 q242
      obtain ⟨zs0, hzs0, rfl, KU0, AU0⟩ := q242
      rw [← hk0] at hzs0
      have hzl0 : zs0.length = 1 + (enc k0).length := by
        rw [hzs0]; simp only [List.length_append, List.length_cons, List.length_nil] <;> omega
      refine ⟨_, fun _ hx => Or.inl hx, ?_⟩
      show oGo l Z a0 EL True pP eE sS mM _ bB tT cC _ _ _ _ _ _ _ _ [a2] h241 1 10 201 #[.val (.int i0), .val (.int i1), .val (.int i2), .val (.int i3), .val (.int i4), .val (.int (1 : Int32)), .val (.int (Int32.ofNat ld)), .val (.int (1 : Int32)), .val (.ref a2), .unset, .unset, .unset, .val (.int (Int32.ofNat v0)), .val (.int (Int32.ofNat v1)), .val (.int (Int32.ofNat v2)), .val (.int (Int32.ofNat (ld + 1)))] [.int (Int32.ofNat (ld + zs0.length))]
      refine oGo.istore (pc' := 203) (Ls' := #[.val (.int i0), .val (.int i1), .val (.int i2), .val (.int i3), .val (.int i4), .val (.int (1 : Int32)), .val (.int (Int32.ofNat ld)), .val (.int (1 : Int32)), .val (.ref a2), .unset, .unset, .unset, .val (.int (Int32.ofNat v0)), .val (.int (Int32.ofNat v1)), .val (.int (Int32.ofNat v2)), .val (.int (Int32.ofNat (ld + zs0.length)))]) at_201 rfl rfl ?_
      refine oGo.iload (pc' := 205) at_203 rfl rfl ?_
      refine oGo.iconst (pc' := 206) (v := 1) at_205 rfl (by decide) ?_
      refine oGo.icmp_le (pc1 := 209) (pc2 := 220) at_206 rfl (by decide) (fun q243 => ?_) (fun q => by first | exact absurd q (by decide) | exact absurd (by decide) q)
      refine oGo.iload (pc' := 222) at_220 rfl rfl ?_
      refine oGo.iconst (pc' := 223) (v := 2) at_222 rfl (by decide) ?_
      refine oGo.icmp_le (pc1 := 226) (pc2 := 237) at_223 rfl (by decide) (fun q244 => ?_) (fun q => by first | exact absurd q (by decide) | exact absurd (by decide) q)
      refine oGo.aload (pc' := 239) at_237 rfl rfl rfl ?_
      refine oGo.iload (pc' := 241) at_239 rfl rfl ?_
      refine oGo.bipush (pc' := 243) (v := 34) at_241 rfl (by decide) ?_
      refine oGo.castore (pc' := 244) (i := ld + zs0.length) (w := (34 : Int32)) at_243 rfl AU0 rfl (by rw [List.length_map, put_len (by (first | omega | (simp only [List.length_append, List.length_cons, List.length_nil] <;> omega)))]; (first | omega | (simp only [List.length_append, List.length_cons, List.length_nil] <;> omega))) (by decide) (by simp) ?_
      intro h245 W246 sh245 A247
      rw [put_set _ (by (first | omega | (simp only [List.length_append, List.length_cons, List.length_nil] <;> omega))) (by (first | omega | (simp only [List.length_append, List.length_cons, List.length_nil] <;> omega)))] at A247
      have A248 : oArr Z h245 a2 .char (oI (put W ld (qot [k0]))) := by
        have e : (zs0 ++ [34] : List Int32) = qot [k0] := by rw [hzs0]; simp [qot]
        rw [← e]; exact A247
      refine oGo.iload (pc' := 246) at_244 rfl rfl ?_
      refine oGo.invokestatic (pc' := 249) (k' := 1) (n' := 10) (argsL := [.int (Int32.ofNat v0)]) (rest := []) at_246 rfl (w195 hG) (w196 hG) (w3 hG) (w197 hG) (by decide) pd22 rfl rfl rfl (c_key hG v0 hv0 _) (by simp) (by decide) (Nat.le_of_ble_eq_true rfl) rfl rfl (by decide) (by decide) ?_
      intro v249 h250 sh250 q251
      obtain ⟨rfl, ee⟩ := q251
      obtain rfl := ee.symm
      refine ⟨_, fun _ hx => Or.inl hx, ?_⟩
      show oGo l Z a0 EL True pP eE sS mM _ bB tT cC _ _ _ _ _ _ _ _ [a2] h245 1 10 249 #[.val (.int i0), .val (.int i1), .val (.int i2), .val (.int i3), .val (.int i4), .val (.int (1 : Int32)), .val (.int (Int32.ofNat ld)), .val (.int (1 : Int32)), .val (.ref a2), .unset, .unset, .unset, .val (.int (Int32.ofNat v0)), .val (.int (Int32.ofNat v1)), .val (.int (Int32.ofNat v2)), .val (.int (Int32.ofNat (ld + zs0.length)))] [.int (Int32.ofNat (kcF v0))]
      rw [← hk0]
      refine oGo.istore (pc' := 251) (Ls' := #[.val (.int i0), .val (.int i1), .val (.int i2), .val (.int i3), .val (.int i4), .val (.int (1 : Int32)), .val (.int (Int32.ofNat ld)), .val (.int (1 : Int32)), .val (.ref a2), .val (.int k0), .unset, .unset, .val (.int (Int32.ofNat v0)), .val (.int (Int32.ofNat v1)), .val (.int (Int32.ofNat v2)), .val (.int (Int32.ofNat (ld + zs0.length)))]) at_249 rfl rfl ?_
      refine oGo.iload (pc' := 253) at_251 rfl rfl ?_
      refine oGo.invokestatic (pc' := 256) (k' := 1) (n' := 10) (argsL := [.int (Int32.ofNat v1)]) (rest := []) at_253 rfl (w195 hG) (w196 hG) (w3 hG) (w197 hG) (by decide) pd22 rfl rfl rfl (c_key hG v1 hv1 _) (by simp) (by decide) (Nat.le_of_ble_eq_true rfl) rfl rfl (by decide) (by decide) ?_
      intro v252 h253 sh253 q254
      obtain ⟨rfl, ee⟩ := q254
      obtain rfl := ee.symm
      refine ⟨_, fun _ hx => Or.inl hx, ?_⟩
      show oGo l Z a0 EL True pP eE sS mM _ bB tT cC _ _ _ _ _ _ _ _ [a2] h245 1 10 256 #[.val (.int i0), .val (.int i1), .val (.int i2), .val (.int i3), .val (.int i4), .val (.int (1 : Int32)), .val (.int (Int32.ofNat ld)), .val (.int (1 : Int32)), .val (.ref a2), .val (.int k0), .unset, .unset, .val (.int (Int32.ofNat v0)), .val (.int (Int32.ofNat v1)), .val (.int (Int32.ofNat v2)), .val (.int (Int32.ofNat (ld + zs0.length)))] [.int (Int32.ofNat (kcF v1))]
      rw [← hk1]
      refine oGo.istore (pc' := 258) (Ls' := #[.val (.int i0), .val (.int i1), .val (.int i2), .val (.int i3), .val (.int i4), .val (.int (1 : Int32)), .val (.int (Int32.ofNat ld)), .val (.int (1 : Int32)), .val (.ref a2), .val (.int k0), .val (.int k1), .unset, .val (.int (Int32.ofNat v0)), .val (.int (Int32.ofNat v1)), .val (.int (Int32.ofNat v2)), .val (.int (Int32.ofNat (ld + zs0.length)))]) at_256 rfl rfl ?_
      refine oGo.iload (pc' := 260) at_258 rfl rfl ?_
      refine oGo.invokestatic (pc' := 263) (k' := 1) (n' := 10) (argsL := [.int (Int32.ofNat v2)]) (rest := []) at_260 rfl (w195 hG) (w196 hG) (w3 hG) (w197 hG) (by decide) pd22 rfl rfl rfl (c_key hG v2 hv2 _) (by simp) (by decide) (Nat.le_of_ble_eq_true rfl) rfl rfl (by decide) (by decide) ?_
      intro v255 h256 sh256 q257
      obtain ⟨rfl, ee⟩ := q257
      obtain rfl := ee.symm
      refine ⟨_, fun _ hx => Or.inl hx, ?_⟩
      show oGo l Z a0 EL True pP eE sS mM _ bB tT cC _ _ _ _ _ _ _ _ [a2] h245 1 10 263 #[.val (.int i0), .val (.int i1), .val (.int i2), .val (.int i3), .val (.int i4), .val (.int (1 : Int32)), .val (.int (Int32.ofNat ld)), .val (.int (1 : Int32)), .val (.ref a2), .val (.int k0), .val (.int k1), .unset, .val (.int (Int32.ofNat v0)), .val (.int (Int32.ofNat v1)), .val (.int (Int32.ofNat v2)), .val (.int (Int32.ofNat (ld + zs0.length)))] [.int (Int32.ofNat (kcF v2))]
      rw [← hk2]
      have hq10 : ld + (qot [k0]).length ≤ 10 := by rw [qot_len]; simp; omega
      have hpr : ∀ c ∈ ([k0] : List Int32), ¬ c < 32 ∧ ¬ 126 < c := by intro c hc; simp only [List.mem_cons, List.not_mem_nil, or_false] at hc; rcases hc with rfl <;> assumption
      have HW : oWs (put W ld (qot [k0])) ld (ld + (qot [k0]).length) := put_ws hW hWl hq10 (by rw [qot_len]; omega) (qot_ends _).1 (qot_ends _).2
      have hcl : (put W ld (qot [k0])).length = 10 := by rw [put_len (by rw [hWl]; exact hq10)]; exact hWl
      refine oGo.istore (pc' := 265) (Ls' := #[.val (.int i0), .val (.int i1), .val (.int i2), .val (.int i3), .val (.int i4), .val (.int (1 : Int32)), .val (.int (Int32.ofNat ld)), .val (.int (1 : Int32)), .val (.ref a2), .val (.int k0), .val (.int k1), .val (.int k2), .val (.int (Int32.ofNat v0)), .val (.int (Int32.ofNat v1)), .val (.int (Int32.ofNat v2)), .val (.int (Int32.ofNat (ld + zs0.length)))]) at_263 rfl rfl ?_
      refine oGo.goto (pc' := 362) at_265 (by decide) ?_
      refine oGo.new (pc' := 365) (k' := 2) (n' := 14) at_362 rfl (w9 hG) (w10 hG) (w11 hG) rfl rfl (by decide) (by decide) ?_
      intro h258 a259 qa259 la259 E260 X261 F262
      have f263 := F262 (Or.inr (w35 hG)) (ty := .byte) (by decide)
      have f264 := F262 (Or.inr (w37 hG)) (ty := (.array .byte)) (by decide)
      refine oGo.dup (pc' := 366) at_365 rfl rfl ?_
      refine oGo.aload (pc' := 368) at_366 rfl rfl rfl ?_
      have f265 := oArr.ext E260 A248
      refine oGo.invokespecial (pc' := 371) (k' := 3) (n' := 24) (a := a259) (argsL := [.ref a2]) (rest := [.ref a259]) at_368 rfl rfl (w12 hG) (w13 hG) (w11 hG) (w14 hG) (by decide) pd37 rfl rfl rfl (c_strI1 hG a259 a2 (put W ld (qot [k0])) (by omega) (by omega) (own_put_bd hW (own_qot_bd hpr)) _ _ _ f265 X261 f264 f263) (by simp) (by decide) (Nat.le_of_ble_eq_true rfl) rfl rfl (by decide) (by decide) ?_
      intro v266 h267 sh267 q268
      obtain ⟨rfl, KX, tX, SX⟩ := q268
      have lxX := own_ltN SX.1.lt
      have ltX := own_ltN SX.2.2.2.1.lt
      refine ⟨_, fun _ hx => Or.inl hx, ?_⟩
      show oGo l Z a0 EL True pP eE sS mM _ bB tT cC _ _ _ _ _ _ _ _ [a259, a2] h267 3 24 371 #[.val (.int i0), .val (.int i1), .val (.int i2), .val (.int i3), .val (.int i4), .val (.int (1 : Int32)), .val (.int (Int32.ofNat ld)), .val (.int (1 : Int32)), .val (.ref a2), .val (.int k0), .val (.int k1), .val (.int k2), .val (.int (Int32.ofNat v0)), .val (.int (Int32.ofNat v1)), .val (.int (Int32.ofNat v2)), .val (.int (Int32.ofNat (ld + zs0.length)))] [.ref a259]
      refine oGo.invokestatic (pc' := 374) (k' := 19) (n' := 324) (argsL := [.ref a259]) (rest := []) at_371 rfl (w38 hG) (w39 hG) (w40 hG) (w41 hG) (by decide) pd38 rfl rfl rfl (c_parseQ hG a259 tX (put W ld (qot [k0])) [k0] ld (ld + (qot [k0]).length) (by simp) (by simp) hpr HW (put_mid (by omega)) _ SX) (by simp) (by decide) (Nat.le_of_ble_eq_true rfl) rfl rfl (by decide) (by decide) ?_
      intro v269 h270 sh270 q271
      obtain ⟨KP, key, y, u, rfl, EP, GP, SP⟩ := q271
      refine ⟨_, fun _ hx => Or.inl hx, ?_⟩
      show oGo l Z a0 EL True pP eE sS mM _ bB tT cC _ _ _ _ _ _ _ _ [a259, a2] h270 19 324 374 #[.val (.int i0), .val (.int i1), .val (.int i2), .val (.int i3), .val (.int i4), .val (.int (1 : Int32)), .val (.int (Int32.ofNat ld)), .val (.int (1 : Int32)), .val (.ref a2), .val (.int k0), .val (.int k1), .val (.int k2), .val (.int (Int32.ofNat v0)), .val (.int (Int32.ofNat v1)), .val (.int (Int32.ofNat v2)), .val (.int (Int32.ofNat (ld + zs0.length)))] [.ref key]
      refine oGo.invokevirtual (pc' := 377) (k' := 19) (n' := 324) (a := key) (argsL := []) (rest := []) at_374 rfl (w182 hG) (w183 hG) (w185 hG) (w185 hG) rfl (w184 hG) (w40 hG) (w186 hG) (by decide) pd30 rfl rfl rfl EP (c_value hG key y _ GP) (by simp) (by decide) (Nat.le_of_ble_eq_true rfl) rfl rfl (by decide) (by decide) ?_
      intro v272 h273 sh273 q274
      obtain ⟨rfl, ee⟩ := q274
      obtain rfl := ee.symm
      refine ⟨_, fun _ hx => Or.inl hx, ?_⟩
      show oGo l Z a0 EL True pP eE sS mM _ bB tT cC _ _ _ _ _ _ _ _ [a259, a2] h270 19 324 377 #[.val (.int i0), .val (.int i1), .val (.int i2), .val (.int i3), .val (.int i4), .val (.int (1 : Int32)), .val (.int (Int32.ofNat ld)), .val (.int (1 : Int32)), .val (.ref a2), .val (.int k0), .val (.int k1), .val (.int k2), .val (.int (Int32.ofNat v0)), .val (.int (Int32.ofNat v1)), .val (.int (Int32.ofNat v2)), .val (.int (Int32.ofNat (ld + zs0.length)))] [.ref y]
      refine oGo.astore (pc' := 379) (Ls' := #[.val (.int i0), .val (.int i1), .val (.int i2), .val (.int i3), .val (.int i4), .val (.int (1 : Int32)), .val (.int (Int32.ofNat ld)), .val (.int (1 : Int32)), .val (.ref a2), .val (.int k0), .val (.int k1), .val (.int k2), .val (.ref y), .val (.int (Int32.ofNat v1)), .val (.int (Int32.ofNat v2)), .val (.int (Int32.ofNat (ld + zs0.length)))]) at_377 rfl rfl rfl ?_
      refine oGo.aload (pc' := 381) at_379 rfl rfl rfl ?_
      refine oGo.invokevirtual (pc' := 384) (k' := 19) (n' := 324) (a := y) (argsL := []) (rest := []) at_381 rfl (w187 hG) (w54 hG) (w56 hG) (w56 hG) rfl (w55 hG) (w11 hG) (w57 hG) (by decide) pd13 rfl rfl rfl SP.1 (c_length hG y u [k0] _ SP) (by simp) (by decide) (Nat.le_of_ble_eq_true rfl) rfl rfl (by decide) (by decide) ?_
      intro v275 h276 sh276 q277
      obtain ⟨rfl, ee⟩ := q277
      obtain rfl := ee.symm
      refine ⟨_, fun _ hx => Or.inl hx, ?_⟩
      show oGo l Z a0 EL True pP eE sS mM _ bB tT cC _ _ _ _ _ _ _ _ [a259, a2] h270 19 324 384 #[.val (.int i0), .val (.int i1), .val (.int i2), .val (.int i3), .val (.int i4), .val (.int (1 : Int32)), .val (.int (Int32.ofNat ld)), .val (.int (1 : Int32)), .val (.ref a2), .val (.int k0), .val (.int k1), .val (.int k2), .val (.ref y), .val (.int (Int32.ofNat v1)), .val (.int (Int32.ofNat v2)), .val (.int (Int32.ofNat (ld + zs0.length)))] [.int (1 : Int32)]
      refine oGo.iload (pc' := 386) at_384 rfl rfl ?_
      refine oGo.icmp_eq (pc1 := 389) (pc2 := 391) at_386 rfl (by decide) (fun q278 => ?_) (fun q => absurd rfl q)
      refine oGo.aload (pc' := 393) at_391 rfl rfl rfl ?_
      refine oGo.iconst (pc' := 394) (v := 0) at_393 rfl (by decide) ?_
      refine oGo.invokevirtual (pc' := 397) (k' := 19) (n' := 324) (a := y) (argsL := [.int (0 : Int32)]) (rest := []) at_394 rfl (w188 hG) (w64 hG) (w66 hG) (w66 hG) rfl (w65 hG) (w11 hG) (w67 hG) (by decide) pd22 rfl rfl rfl SP.1 (c_charAt hG y u [k0] 0 k0 rfl _ SP) (by simp) (by decide) (Nat.le_of_ble_eq_true rfl) rfl rfl (by decide) (by decide) ?_
      intro v279 h280 sh280 q281
      obtain ⟨rfl, ee⟩ := q281
      obtain rfl := ee.symm
      refine ⟨_, fun _ hx => Or.inl hx, ?_⟩
      show oGo l Z a0 EL True pP eE sS mM _ bB tT cC _ _ _ _ _ _ _ _ [a259, a2] h270 19 324 397 #[.val (.int i0), .val (.int i1), .val (.int i2), .val (.int i3), .val (.int i4), .val (.int (1 : Int32)), .val (.int (Int32.ofNat ld)), .val (.int (1 : Int32)), .val (.ref a2), .val (.int k0), .val (.int k1), .val (.int k2), .val (.ref y), .val (.int (Int32.ofNat v1)), .val (.int (Int32.ofNat v2)), .val (.int (Int32.ofNat (ld + zs0.length)))] [.int k0]
      refine oGo.iload (pc' := 399) at_397 rfl rfl ?_
      refine oGo.icmp_eq (pc1 := 402) (pc2 := 404) at_399 rfl (by decide) (fun q282 => ?_) (fun q => absurd rfl q)
      refine oGo.iload (pc' := 406) at_404 rfl rfl ?_
      refine oGo.iconst (pc' := 407) (v := 1) at_406 rfl (by decide) ?_
      refine oGo.icmp_le (pc1 := 410) (pc2 := 423) at_407 rfl (by decide) (fun q283 => ?_) (fun q => by first | exact absurd q (by decide) | exact absurd (by decide) q)
      refine oGo.iload (pc' := 425) at_423 rfl rfl ?_
      refine oGo.iconst (pc' := 426) (v := 2) at_425 rfl (by decide) ?_
      refine oGo.icmp_le (pc1 := 429) (pc2 := 442) at_426 rfl (by decide) (fun q284 => ?_) (fun q => by first | exact absurd q (by decide) | exact absurd (by decide) q)
      refine oGo.iconst (pc' := 443) (v := 1) at_442 rfl (by decide) ?_
      exact oGo.nreturn at_443 rfl (by simp) rfl (by decide) (by decide) rfl (fun _ q => q.elim)
    · show oGo l Z a0 EL True pP eE sS mM _ bB tT cC _ _ _ _ _ _ _ _ [a2] h62 1 10 149 #[.val (.int i0), .val (.int i1), .val (.int i2), .val (.int i3), .val (.int i4), .val (.int (1 : Int32)), .val (.int (Int32.ofNat ld)), .val (.int (2 : Int32)), .val (.ref a2), .unset, .unset, .unset, .unset, .unset, .unset, .unset] [.int (1 : Int32)]
      refine oGo.if_eq (pc1 := 152) (pc2 := 268) at_149 rfl (by decide) (fun q => by first | exact absurd q (by decide) | exact absurd (by decide) q) (fun q285 => ?_)
      refine oGo.iload_n (pc' := 153) at_152 rfl rfl ?_
      refine oGo.ldc_int (pc' := 155) at_153 rfl (w5 hG) ?_
      refine oGo.iand (pc' := 156) at_155 rfl ?_
      refine oGo.bipush (pc' := 158) (v := 95) at_156 rfl (by decide) ?_
      refine oGo.irem (pc' := 159) at_158 rfl (by decide) ?_
      obtain ⟨v0, hv0, ev0⟩ := own_r95 i1
      rw [ev0]
      obtain ⟨k0, hk0⟩ : ∃ k, k = Int32.ofNat (kcF v0) := ⟨_, rfl⟩
      have pk0 := kc_ok v0 hv0
      have el0 := enc_le k0
      rw [← hk0] at pk0
      refine oGo.istore (pc' := 161) (Ls' := #[.val (.int i0), .val (.int i1), .val (.int i2), .val (.int i3), .val (.int i4), .val (.int (1 : Int32)), .val (.int (Int32.ofNat ld)), .val (.int (2 : Int32)), .val (.ref a2), .unset, .unset, .unset, .val (.int (Int32.ofNat v0)), .unset, .unset, .unset]) at_159 rfl rfl ?_
      refine oGo.iload_n (pc' := 162) at_161 rfl rfl ?_
      refine oGo.ldc_int (pc' := 164) at_162 rfl (w5 hG) ?_
      refine oGo.iand (pc' := 165) at_164 rfl ?_
      refine oGo.bipush (pc' := 167) (v := 95) at_165 rfl (by decide) ?_
      refine oGo.irem (pc' := 168) at_167 rfl (by decide) ?_
      obtain ⟨v1, hv1, ev1⟩ := own_r95 i2
      rw [ev1]
      obtain ⟨k1, hk1⟩ : ∃ k, k = Int32.ofNat (kcF v1) := ⟨_, rfl⟩
      have pk1 := kc_ok v1 hv1
      have el1 := enc_le k1
      rw [← hk1] at pk1
      refine oGo.istore (pc' := 170) (Ls' := #[.val (.int i0), .val (.int i1), .val (.int i2), .val (.int i3), .val (.int i4), .val (.int (1 : Int32)), .val (.int (Int32.ofNat ld)), .val (.int (2 : Int32)), .val (.ref a2), .unset, .unset, .unset, .val (.int (Int32.ofNat v0)), .val (.int (Int32.ofNat v1)), .unset, .unset]) at_168 rfl rfl ?_
      refine oGo.iload_n (pc' := 171) at_170 rfl rfl ?_
      refine oGo.ldc_int (pc' := 173) at_171 rfl (w5 hG) ?_
      refine oGo.iand (pc' := 174) at_173 rfl ?_
      refine oGo.bipush (pc' := 176) (v := 95) at_174 rfl (by decide) ?_
      refine oGo.irem (pc' := 177) at_176 rfl (by decide) ?_
      obtain ⟨v2, hv2, ev2⟩ := own_r95 i3
      rw [ev2]
      obtain ⟨k2, hk2⟩ : ∃ k, k = Int32.ofNat (kcF v2) := ⟨_, rfl⟩
      have pk2 := kc_ok v2 hv2
      have el2 := enc_le k2
      rw [← hk2] at pk2
      refine oGo.istore (pc' := 179) (Ls' := #[.val (.int i0), .val (.int i1), .val (.int i2), .val (.int i3), .val (.int i4), .val (.int (1 : Int32)), .val (.int (Int32.ofNat ld)), .val (.int (2 : Int32)), .val (.ref a2), .unset, .unset, .unset, .val (.int (Int32.ofNat v0)), .val (.int (Int32.ofNat v1)), .val (.int (Int32.ofNat v2)), .unset]) at_177 rfl rfl ?_
      refine oGo.aload (pc' := 181) at_179 rfl rfl rfl ?_
      refine oGo.iload (pc' := 183) at_181 rfl rfl ?_
      refine oGo.bipush (pc' := 185) (v := 34) at_183 rfl (by decide) ?_
      refine oGo.castore (pc' := 186) (i := ld) (w := (34 : Int32)) at_185 rfl AW rfl (by rw [List.length_map, put_len (by (first | omega | (simp only [List.length_append, List.length_cons, List.length_nil] <;> omega)))]; (first | omega | (simp only [List.length_append, List.length_cons, List.length_nil] <;> omega))) (by decide) (by simp) ?_
      intro h286 W287 sh286 A288
      rw [put_set _ (by (first | omega | (simp only [List.length_append, List.length_cons, List.length_nil] <;> omega))) (by (first | omega | (simp only [List.length_append, List.length_cons, List.length_nil] <;> omega)))] at A288
      have A289 : oArr Z h286 a2 .char (oI (put W ld [34])) := A288
      refine oGo.iload (pc' := 188) at_186 rfl rfl ?_
      refine oGo.iconst (pc' := 189) (v := 1) at_188 rfl (by decide) ?_
      refine oGo.iadd (pc' := 190) at_189 rfl ?_
      rw [own_addL ld 1 1 rfl]
      refine oGo.istore (pc' := 192) (Ls' := #[.val (.int i0), .val (.int i1), .val (.int i2), .val (.int i3), .val (.int i4), .val (.int (1 : Int32)), .val (.int (Int32.ofNat ld)), .val (.int (2 : Int32)), .val (.ref a2), .unset, .unset, .unset, .val (.int (Int32.ofNat v0)), .val (.int (Int32.ofNat v1)), .val (.int (Int32.ofNat v2)), .val (.int (Int32.ofNat (ld + 1)))]) at_190 rfl rfl ?_
      refine oGo.aload (pc' := 194) at_192 rfl rfl rfl ?_
      refine oGo.iload (pc' := 196) at_194 rfl rfl ?_
      refine oGo.iload (pc' := 198) at_196 rfl rfl ?_
      refine oGo.invokestatic (pc' := 201) (k' := 1) (n' := 10) (argsL := [.ref a2, .int (Int32.ofNat (ld + 1)), .int (Int32.ofNat v0)]) (rest := []) at_198 rfl (w189 hG) (w190 hG) (w3 hG) (w191 hG) (by decide) pd39 rfl rfl rfl (c_put hG a2 ld (ld + 1) v0 W [34] rfl (by rw [hWl]; omega) (by omega) hv0 _ A289) (by simp) (by decide) (Nat.le_of_ble_eq_true rfl) rfl rfl (by decide) (by decide) ?_
      intro v290 h291 sh291 q292
      obtain ⟨zs0, hzs0, rfl, KU0, AU0⟩ := q292
      rw [← hk0] at hzs0
      have hzl0 : zs0.length = 1 + (enc k0).length := by
        rw [hzs0]; simp only [List.length_append, List.length_cons, List.length_nil] <;> omega
      refine ⟨_, fun _ hx => Or.inl hx, ?_⟩
      show oGo l Z a0 EL True pP eE sS mM _ bB tT cC _ _ _ _ _ _ _ _ [a2] h291 1 10 201 #[.val (.int i0), .val (.int i1), .val (.int i2), .val (.int i3), .val (.int i4), .val (.int (1 : Int32)), .val (.int (Int32.ofNat ld)), .val (.int (2 : Int32)), .val (.ref a2), .unset, .unset, .unset, .val (.int (Int32.ofNat v0)), .val (.int (Int32.ofNat v1)), .val (.int (Int32.ofNat v2)), .val (.int (Int32.ofNat (ld + 1)))] [.int (Int32.ofNat (ld + zs0.length))]
      refine oGo.istore (pc' := 203) (Ls' := #[.val (.int i0), .val (.int i1), .val (.int i2), .val (.int i3), .val (.int i4), .val (.int (1 : Int32)), .val (.int (Int32.ofNat ld)), .val (.int (2 : Int32)), .val (.ref a2), .unset, .unset, .unset, .val (.int (Int32.ofNat v0)), .val (.int (Int32.ofNat v1)), .val (.int (Int32.ofNat v2)), .val (.int (Int32.ofNat (ld + zs0.length)))]) at_201 rfl rfl ?_
      refine oGo.iload (pc' := 205) at_203 rfl rfl ?_
      refine oGo.iconst (pc' := 206) (v := 1) at_205 rfl (by decide) ?_
      refine oGo.icmp_le (pc1 := 209) (pc2 := 220) at_206 rfl (by decide) (fun q => by first | exact absurd q (by decide) | exact absurd (by decide) q) (fun q293 => ?_)
      refine oGo.aload (pc' := 211) at_209 rfl rfl rfl ?_
      refine oGo.iload (pc' := 213) at_211 rfl rfl ?_
      refine oGo.iload (pc' := 215) at_213 rfl rfl ?_
      refine oGo.invokestatic (pc' := 218) (k' := 1) (n' := 10) (argsL := [.ref a2, .int (Int32.ofNat (ld + zs0.length)), .int (Int32.ofNat v1)]) (rest := []) at_215 rfl (w189 hG) (w190 hG) (w3 hG) (w191 hG) (by decide) pd39 rfl rfl rfl (c_put hG a2 ld (ld + zs0.length) v1 W zs0 rfl (by rw [hWl]; omega) (by omega) hv1 _ AU0) (by simp) (by decide) (Nat.le_of_ble_eq_true rfl) rfl rfl (by decide) (by decide) ?_
      intro v294 h295 sh295 q296
      obtain ⟨zs1, hzs1, rfl, KU1, AU1⟩ := q296
      rw [← hk1] at hzs1
      have hzl1 : zs1.length = 1 + (enc k0).length + (enc k1).length := by
        rw [hzs1]; simp only [List.length_append, List.length_cons, List.length_nil] <;> omega
      refine ⟨_, fun _ hx => Or.inl hx, ?_⟩
      show oGo l Z a0 EL True pP eE sS mM _ bB tT cC _ _ _ _ _ _ _ _ [a2] h295 1 10 218 #[.val (.int i0), .val (.int i1), .val (.int i2), .val (.int i3), .val (.int i4), .val (.int (1 : Int32)), .val (.int (Int32.ofNat ld)), .val (.int (2 : Int32)), .val (.ref a2), .unset, .unset, .unset, .val (.int (Int32.ofNat v0)), .val (.int (Int32.ofNat v1)), .val (.int (Int32.ofNat v2)), .val (.int (Int32.ofNat (ld + zs0.length)))] [.int (Int32.ofNat (ld + zs1.length))]
      refine oGo.istore (pc' := 220) (Ls' := #[.val (.int i0), .val (.int i1), .val (.int i2), .val (.int i3), .val (.int i4), .val (.int (1 : Int32)), .val (.int (Int32.ofNat ld)), .val (.int (2 : Int32)), .val (.ref a2), .unset, .unset, .unset, .val (.int (Int32.ofNat v0)), .val (.int (Int32.ofNat v1)), .val (.int (Int32.ofNat v2)), .val (.int (Int32.ofNat (ld + zs1.length)))]) at_218 rfl rfl ?_
      refine oGo.iload (pc' := 222) at_220 rfl rfl ?_
      refine oGo.iconst (pc' := 223) (v := 2) at_222 rfl (by decide) ?_
      refine oGo.icmp_le (pc1 := 226) (pc2 := 237) at_223 rfl (by decide) (fun q297 => ?_) (fun q => by first | exact absurd q (by decide) | exact absurd (by decide) q)
      refine oGo.aload (pc' := 239) at_237 rfl rfl rfl ?_
      refine oGo.iload (pc' := 241) at_239 rfl rfl ?_
      refine oGo.bipush (pc' := 243) (v := 34) at_241 rfl (by decide) ?_
      refine oGo.castore (pc' := 244) (i := ld + zs1.length) (w := (34 : Int32)) at_243 rfl AU1 rfl (by rw [List.length_map, put_len (by (first | omega | (simp only [List.length_append, List.length_cons, List.length_nil] <;> omega)))]; (first | omega | (simp only [List.length_append, List.length_cons, List.length_nil] <;> omega))) (by decide) (by simp) ?_
      intro h298 W299 sh298 A300
      rw [put_set _ (by (first | omega | (simp only [List.length_append, List.length_cons, List.length_nil] <;> omega))) (by (first | omega | (simp only [List.length_append, List.length_cons, List.length_nil] <;> omega)))] at A300
      have A301 : oArr Z h298 a2 .char (oI (put W ld (qot [k0, k1]))) := by
        have e : (zs1 ++ [34] : List Int32) = qot [k0, k1] := by rw [hzs1, hzs0]; simp [qot]
        rw [← e]; exact A300
      refine oGo.iload (pc' := 246) at_244 rfl rfl ?_
      refine oGo.invokestatic (pc' := 249) (k' := 1) (n' := 10) (argsL := [.int (Int32.ofNat v0)]) (rest := []) at_246 rfl (w195 hG) (w196 hG) (w3 hG) (w197 hG) (by decide) pd22 rfl rfl rfl (c_key hG v0 hv0 _) (by simp) (by decide) (Nat.le_of_ble_eq_true rfl) rfl rfl (by decide) (by decide) ?_
      intro v302 h303 sh303 q304
      obtain ⟨rfl, ee⟩ := q304
      obtain rfl := ee.symm
      refine ⟨_, fun _ hx => Or.inl hx, ?_⟩
      show oGo l Z a0 EL True pP eE sS mM _ bB tT cC _ _ _ _ _ _ _ _ [a2] h298 1 10 249 #[.val (.int i0), .val (.int i1), .val (.int i2), .val (.int i3), .val (.int i4), .val (.int (1 : Int32)), .val (.int (Int32.ofNat ld)), .val (.int (2 : Int32)), .val (.ref a2), .unset, .unset, .unset, .val (.int (Int32.ofNat v0)), .val (.int (Int32.ofNat v1)), .val (.int (Int32.ofNat v2)), .val (.int (Int32.ofNat (ld + zs1.length)))] [.int (Int32.ofNat (kcF v0))]
      rw [← hk0]
      refine oGo.istore (pc' := 251) (Ls' := #[.val (.int i0), .val (.int i1), .val (.int i2), .val (.int i3), .val (.int i4), .val (.int (1 : Int32)), .val (.int (Int32.ofNat ld)), .val (.int (2 : Int32)), .val (.ref a2), .val (.int k0), .unset, .unset, .val (.int (Int32.ofNat v0)), .val (.int (Int32.ofNat v1)), .val (.int (Int32.ofNat v2)), .val (.int (Int32.ofNat (ld + zs1.length)))]) at_249 rfl rfl ?_
      refine oGo.iload (pc' := 253) at_251 rfl rfl ?_
      refine oGo.invokestatic (pc' := 256) (k' := 1) (n' := 10) (argsL := [.int (Int32.ofNat v1)]) (rest := []) at_253 rfl (w195 hG) (w196 hG) (w3 hG) (w197 hG) (by decide) pd22 rfl rfl rfl (c_key hG v1 hv1 _) (by simp) (by decide) (Nat.le_of_ble_eq_true rfl) rfl rfl (by decide) (by decide) ?_
      intro v305 h306 sh306 q307
      obtain ⟨rfl, ee⟩ := q307
      obtain rfl := ee.symm
      refine ⟨_, fun _ hx => Or.inl hx, ?_⟩
      show oGo l Z a0 EL True pP eE sS mM _ bB tT cC _ _ _ _ _ _ _ _ [a2] h298 1 10 256 #[.val (.int i0), .val (.int i1), .val (.int i2), .val (.int i3), .val (.int i4), .val (.int (1 : Int32)), .val (.int (Int32.ofNat ld)), .val (.int (2 : Int32)), .val (.ref a2), .val (.int k0), .unset, .unset, .val (.int (Int32.ofNat v0)), .val (.int (Int32.ofNat v1)), .val (.int (Int32.ofNat v2)), .val (.int (Int32.ofNat (ld + zs1.length)))] [.int (Int32.ofNat (kcF v1))]
      rw [← hk1]
      refine oGo.istore (pc' := 258) (Ls' := #[.val (.int i0), .val (.int i1), .val (.int i2), .val (.int i3), .val (.int i4), .val (.int (1 : Int32)), .val (.int (Int32.ofNat ld)), .val (.int (2 : Int32)), .val (.ref a2), .val (.int k0), .val (.int k1), .unset, .val (.int (Int32.ofNat v0)), .val (.int (Int32.ofNat v1)), .val (.int (Int32.ofNat v2)), .val (.int (Int32.ofNat (ld + zs1.length)))]) at_256 rfl rfl ?_
      refine oGo.iload (pc' := 260) at_258 rfl rfl ?_
      refine oGo.invokestatic (pc' := 263) (k' := 1) (n' := 10) (argsL := [.int (Int32.ofNat v2)]) (rest := []) at_260 rfl (w195 hG) (w196 hG) (w3 hG) (w197 hG) (by decide) pd22 rfl rfl rfl (c_key hG v2 hv2 _) (by simp) (by decide) (Nat.le_of_ble_eq_true rfl) rfl rfl (by decide) (by decide) ?_
      intro v308 h309 sh309 q310
      obtain ⟨rfl, ee⟩ := q310
      obtain rfl := ee.symm
      refine ⟨_, fun _ hx => Or.inl hx, ?_⟩
      show oGo l Z a0 EL True pP eE sS mM _ bB tT cC _ _ _ _ _ _ _ _ [a2] h298 1 10 263 #[.val (.int i0), .val (.int i1), .val (.int i2), .val (.int i3), .val (.int i4), .val (.int (1 : Int32)), .val (.int (Int32.ofNat ld)), .val (.int (2 : Int32)), .val (.ref a2), .val (.int k0), .val (.int k1), .unset, .val (.int (Int32.ofNat v0)), .val (.int (Int32.ofNat v1)), .val (.int (Int32.ofNat v2)), .val (.int (Int32.ofNat (ld + zs1.length)))] [.int (Int32.ofNat (kcF v2))]
      rw [← hk2]
      have hq10 : ld + (qot [k0, k1]).length ≤ 10 := by rw [qot_len]; simp; omega
      have hpr : ∀ c ∈ ([k0, k1] : List Int32), ¬ c < 32 ∧ ¬ 126 < c := by intro c hc; simp only [List.mem_cons, List.not_mem_nil, or_false] at hc; rcases hc with rfl | rfl <;> assumption
      have HW : oWs (put W ld (qot [k0, k1])) ld (ld + (qot [k0, k1]).length) := put_ws hW hWl hq10 (by rw [qot_len]; omega) (qot_ends _).1 (qot_ends _).2
      have hcl : (put W ld (qot [k0, k1])).length = 10 := by rw [put_len (by rw [hWl]; exact hq10)]; exact hWl
      refine oGo.istore (pc' := 265) (Ls' := #[.val (.int i0), .val (.int i1), .val (.int i2), .val (.int i3), .val (.int i4), .val (.int (1 : Int32)), .val (.int (Int32.ofNat ld)), .val (.int (2 : Int32)), .val (.ref a2), .val (.int k0), .val (.int k1), .val (.int k2), .val (.int (Int32.ofNat v0)), .val (.int (Int32.ofNat v1)), .val (.int (Int32.ofNat v2)), .val (.int (Int32.ofNat (ld + zs1.length)))]) at_263 rfl rfl ?_
      refine oGo.goto (pc' := 362) at_265 (by decide) ?_
      refine oGo.new (pc' := 365) (k' := 2) (n' := 14) at_362 rfl (w9 hG) (w10 hG) (w11 hG) rfl rfl (by decide) (by decide) ?_
      intro h311 a312 qa312 la312 E313 X314 F315
      have f316 := F315 (Or.inr (w35 hG)) (ty := .byte) (by decide)
      have f317 := F315 (Or.inr (w37 hG)) (ty := (.array .byte)) (by decide)
      refine oGo.dup (pc' := 366) at_365 rfl rfl ?_
      refine oGo.aload (pc' := 368) at_366 rfl rfl rfl ?_
      have f318 := oArr.ext E313 A301
      refine oGo.invokespecial (pc' := 371) (k' := 3) (n' := 24) (a := a312) (argsL := [.ref a2]) (rest := [.ref a312]) at_368 rfl rfl (w12 hG) (w13 hG) (w11 hG) (w14 hG) (by decide) pd37 rfl rfl rfl (c_strI1 hG a312 a2 (put W ld (qot [k0, k1])) (by omega) (by omega) (own_put_bd hW (own_qot_bd hpr)) _ _ _ f318 X314 f317 f316) (by simp) (by decide) (Nat.le_of_ble_eq_true rfl) rfl rfl (by decide) (by decide) ?_
      intro v319 h320 sh320 q321
      obtain ⟨rfl, KX, tX, SX⟩ := q321
      have lxX := own_ltN SX.1.lt
      have ltX := own_ltN SX.2.2.2.1.lt
      refine ⟨_, fun _ hx => Or.inl hx, ?_⟩
      show oGo l Z a0 EL True pP eE sS mM _ bB tT cC _ _ _ _ _ _ _ _ [a312, a2] h320 3 24 371 #[.val (.int i0), .val (.int i1), .val (.int i2), .val (.int i3), .val (.int i4), .val (.int (1 : Int32)), .val (.int (Int32.ofNat ld)), .val (.int (2 : Int32)), .val (.ref a2), .val (.int k0), .val (.int k1), .val (.int k2), .val (.int (Int32.ofNat v0)), .val (.int (Int32.ofNat v1)), .val (.int (Int32.ofNat v2)), .val (.int (Int32.ofNat (ld + zs1.length)))] [.ref a312]
      refine oGo.invokestatic (pc' := 374) (k' := 19) (n' := 324) (argsL := [.ref a312]) (rest := []) at_371 rfl (w38 hG) (w39 hG) (w40 hG) (w41 hG) (by decide) pd38 rfl rfl rfl (c_parseQ hG a312 tX (put W ld (qot [k0, k1])) [k0, k1] ld (ld + (qot [k0, k1]).length) (by simp) (by simp) hpr HW (put_mid (by omega)) _ SX) (by simp) (by decide) (Nat.le_of_ble_eq_true rfl) rfl rfl (by decide) (by decide) ?_
      intro v322 h323 sh323 q324
      obtain ⟨KP, key, y, u, rfl, EP, GP, SP⟩ := q324
      refine ⟨_, fun _ hx => Or.inl hx, ?_⟩
      show oGo l Z a0 EL True pP eE sS mM _ bB tT cC _ _ _ _ _ _ _ _ [a312, a2] h323 19 324 374 #[.val (.int i0), .val (.int i1), .val (.int i2), .val (.int i3), .val (.int i4), .val (.int (1 : Int32)), .val (.int (Int32.ofNat ld)), .val (.int (2 : Int32)), .val (.ref a2), .val (.int k0), .val (.int k1), .val (.int k2), .val (.int (Int32.ofNat v0)), .val (.int (Int32.ofNat v1)), .val (.int (Int32.ofNat v2)), .val (.int (Int32.ofNat (ld + zs1.length)))] [.ref key]
      refine oGo.invokevirtual (pc' := 377) (k' := 19) (n' := 324) (a := key) (argsL := []) (rest := []) at_374 rfl (w182 hG) (w183 hG) (w185 hG) (w185 hG) rfl (w184 hG) (w40 hG) (w186 hG) (by decide) pd30 rfl rfl rfl EP (c_value hG key y _ GP) (by simp) (by decide) (Nat.le_of_ble_eq_true rfl) rfl rfl (by decide) (by decide) ?_
      intro v325 h326 sh326 q327
      obtain ⟨rfl, ee⟩ := q327
      obtain rfl := ee.symm
      refine ⟨_, fun _ hx => Or.inl hx, ?_⟩
      show oGo l Z a0 EL True pP eE sS mM _ bB tT cC _ _ _ _ _ _ _ _ [a312, a2] h323 19 324 377 #[.val (.int i0), .val (.int i1), .val (.int i2), .val (.int i3), .val (.int i4), .val (.int (1 : Int32)), .val (.int (Int32.ofNat ld)), .val (.int (2 : Int32)), .val (.ref a2), .val (.int k0), .val (.int k1), .val (.int k2), .val (.int (Int32.ofNat v0)), .val (.int (Int32.ofNat v1)), .val (.int (Int32.ofNat v2)), .val (.int (Int32.ofNat (ld + zs1.length)))] [.ref y]
      refine oGo.astore (pc' := 379) (Ls' := #[.val (.int i0), .val (.int i1), .val (.int i2), .val (.int i3), .val (.int i4), .val (.int (1 : Int32)), .val (.int (Int32.ofNat ld)), .val (.int (2 : Int32)), .val (.ref a2), .val (.int k0), .val (.int k1), .val (.int k2), .val (.ref y), .val (.int (Int32.ofNat v1)), .val (.int (Int32.ofNat v2)), .val (.int (Int32.ofNat (ld + zs1.length)))]) at_377 rfl rfl rfl ?_
      refine oGo.aload (pc' := 381) at_379 rfl rfl rfl ?_
      refine oGo.invokevirtual (pc' := 384) (k' := 19) (n' := 324) (a := y) (argsL := []) (rest := []) at_381 rfl (w187 hG) (w54 hG) (w56 hG) (w56 hG) rfl (w55 hG) (w11 hG) (w57 hG) (by decide) pd13 rfl rfl rfl SP.1 (c_length hG y u [k0, k1] _ SP) (by simp) (by decide) (Nat.le_of_ble_eq_true rfl) rfl rfl (by decide) (by decide) ?_
      intro v328 h329 sh329 q330
      obtain ⟨rfl, ee⟩ := q330
      obtain rfl := ee.symm
      refine ⟨_, fun _ hx => Or.inl hx, ?_⟩
      show oGo l Z a0 EL True pP eE sS mM _ bB tT cC _ _ _ _ _ _ _ _ [a312, a2] h323 19 324 384 #[.val (.int i0), .val (.int i1), .val (.int i2), .val (.int i3), .val (.int i4), .val (.int (1 : Int32)), .val (.int (Int32.ofNat ld)), .val (.int (2 : Int32)), .val (.ref a2), .val (.int k0), .val (.int k1), .val (.int k2), .val (.ref y), .val (.int (Int32.ofNat v1)), .val (.int (Int32.ofNat v2)), .val (.int (Int32.ofNat (ld + zs1.length)))] [.int (2 : Int32)]
      refine oGo.iload (pc' := 386) at_384 rfl rfl ?_
      refine oGo.icmp_eq (pc1 := 389) (pc2 := 391) at_386 rfl (by decide) (fun q331 => ?_) (fun q => absurd rfl q)
      refine oGo.aload (pc' := 393) at_391 rfl rfl rfl ?_
      refine oGo.iconst (pc' := 394) (v := 0) at_393 rfl (by decide) ?_
      refine oGo.invokevirtual (pc' := 397) (k' := 19) (n' := 324) (a := y) (argsL := [.int (0 : Int32)]) (rest := []) at_394 rfl (w188 hG) (w64 hG) (w66 hG) (w66 hG) rfl (w65 hG) (w11 hG) (w67 hG) (by decide) pd22 rfl rfl rfl SP.1 (c_charAt hG y u [k0, k1] 0 k0 rfl _ SP) (by simp) (by decide) (Nat.le_of_ble_eq_true rfl) rfl rfl (by decide) (by decide) ?_
      intro v332 h333 sh333 q334
      obtain ⟨rfl, ee⟩ := q334
      obtain rfl := ee.symm
      refine ⟨_, fun _ hx => Or.inl hx, ?_⟩
      show oGo l Z a0 EL True pP eE sS mM _ bB tT cC _ _ _ _ _ _ _ _ [a312, a2] h323 19 324 397 #[.val (.int i0), .val (.int i1), .val (.int i2), .val (.int i3), .val (.int i4), .val (.int (1 : Int32)), .val (.int (Int32.ofNat ld)), .val (.int (2 : Int32)), .val (.ref a2), .val (.int k0), .val (.int k1), .val (.int k2), .val (.ref y), .val (.int (Int32.ofNat v1)), .val (.int (Int32.ofNat v2)), .val (.int (Int32.ofNat (ld + zs1.length)))] [.int k0]
      refine oGo.iload (pc' := 399) at_397 rfl rfl ?_
      refine oGo.icmp_eq (pc1 := 402) (pc2 := 404) at_399 rfl (by decide) (fun q335 => ?_) (fun q => absurd rfl q)
      refine oGo.iload (pc' := 406) at_404 rfl rfl ?_
      refine oGo.iconst (pc' := 407) (v := 1) at_406 rfl (by decide) ?_
      refine oGo.icmp_le (pc1 := 410) (pc2 := 423) at_407 rfl (by decide) (fun q => by first | exact absurd q (by decide) | exact absurd (by decide) q) (fun q336 => ?_)
      refine oGo.aload (pc' := 412) at_410 rfl rfl rfl ?_
      refine oGo.iconst (pc' := 413) (v := 1) at_412 rfl (by decide) ?_
      refine oGo.invokevirtual (pc' := 416) (k' := 19) (n' := 324) (a := y) (argsL := [.int (1 : Int32)]) (rest := []) at_413 rfl (w188 hG) (w64 hG) (w66 hG) (w66 hG) rfl (w65 hG) (w11 hG) (w67 hG) (by decide) pd22 rfl rfl rfl SP.1 (c_charAt hG y u [k0, k1] 1 k1 rfl _ SP) (by simp) (by decide) (Nat.le_of_ble_eq_true rfl) rfl rfl (by decide) (by decide) ?_
      intro v337 h338 sh338 q339
      obtain ⟨rfl, ee⟩ := q339
      obtain rfl := ee.symm
      refine ⟨_, fun _ hx => Or.inl hx, ?_⟩
      show oGo l Z a0 EL True pP eE sS mM _ bB tT cC _ _ _ _ _ _ _ _ [a312, a2] h323 19 324 416 #[.val (.int i0), .val (.int i1), .val (.int i2), .val (.int i3), .val (.int i4), .val (.int (1 : Int32)), .val (.int (Int32.ofNat ld)), .val (.int (2 : Int32)), .val (.ref a2), .val (.int k0), .val (.int k1), .val (.int k2), .val (.ref y), .val (.int (Int32.ofNat v1)), .val (.int (Int32.ofNat v2)), .val (.int (Int32.ofNat (ld + zs1.length)))] [.int k1]
      refine oGo.iload (pc' := 418) at_416 rfl rfl ?_
      refine oGo.icmp_eq (pc1 := 421) (pc2 := 423) at_418 rfl (by decide) (fun q340 => ?_) (fun q => absurd rfl q)
      refine oGo.iload (pc' := 425) at_423 rfl rfl ?_
      refine oGo.iconst (pc' := 426) (v := 2) at_425 rfl (by decide) ?_
      refine oGo.icmp_le (pc1 := 429) (pc2 := 442) at_426 rfl (by decide) (fun q341 => ?_) (fun q => by first | exact absurd q (by decide) | exact absurd (by decide) q)
      refine oGo.iconst (pc' := 443) (v := 1) at_442 rfl (by decide) ?_
      exact oGo.nreturn at_443 rfl (by simp) rfl (by decide) (by decide) rfl (fun _ q => q.elim)
    · show oGo l Z a0 EL True pP eE sS mM _ bB tT cC _ _ _ _ _ _ _ _ [a2] h62 1 10 149 #[.val (.int i0), .val (.int i1), .val (.int i2), .val (.int i3), .val (.int i4), .val (.int (1 : Int32)), .val (.int (Int32.ofNat ld)), .val (.int (3 : Int32)), .val (.ref a2), .unset, .unset, .unset, .unset, .unset, .unset, .unset] [.int (1 : Int32)]
      refine oGo.if_eq (pc1 := 152) (pc2 := 268) at_149 rfl (by decide) (fun q => by first | exact absurd q (by decide) | exact absurd (by decide) q) (fun q342 => ?_)
      refine oGo.iload_n (pc' := 153) at_152 rfl rfl ?_
      refine oGo.ldc_int (pc' := 155) at_153 rfl (w5 hG) ?_
      refine oGo.iand (pc' := 156) at_155 rfl ?_
      refine oGo.bipush (pc' := 158) (v := 95) at_156 rfl (by decide) ?_
      refine oGo.irem (pc' := 159) at_158 rfl (by decide) ?_
      obtain ⟨v0, hv0, ev0⟩ := own_r95 i1
      rw [ev0]
      obtain ⟨k0, hk0⟩ : ∃ k, k = Int32.ofNat (kcF v0) := ⟨_, rfl⟩
      have pk0 := kc_ok v0 hv0
      have el0 := enc_le k0
      rw [← hk0] at pk0
      refine oGo.istore (pc' := 161) (Ls' := #[.val (.int i0), .val (.int i1), .val (.int i2), .val (.int i3), .val (.int i4), .val (.int (1 : Int32)), .val (.int (Int32.ofNat ld)), .val (.int (3 : Int32)), .val (.ref a2), .unset, .unset, .unset, .val (.int (Int32.ofNat v0)), .unset, .unset, .unset]) at_159 rfl rfl ?_
      refine oGo.iload_n (pc' := 162) at_161 rfl rfl ?_
      refine oGo.ldc_int (pc' := 164) at_162 rfl (w5 hG) ?_
      refine oGo.iand (pc' := 165) at_164 rfl ?_
      refine oGo.bipush (pc' := 167) (v := 95) at_165 rfl (by decide) ?_
      refine oGo.irem (pc' := 168) at_167 rfl (by decide) ?_
      obtain ⟨v1, hv1, ev1⟩ := own_r95 i2
      rw [ev1]
      obtain ⟨k1, hk1⟩ : ∃ k, k = Int32.ofNat (kcF v1) := ⟨_, rfl⟩
      have pk1 := kc_ok v1 hv1
      have el1 := enc_le k1
      rw [← hk1] at pk1
      refine oGo.istore (pc' := 170) (Ls' := #[.val (.int i0), .val (.int i1), .val (.int i2), .val (.int i3), .val (.int i4), .val (.int (1 : Int32)), .val (.int (Int32.ofNat ld)), .val (.int (3 : Int32)), .val (.ref a2), .unset, .unset, .unset, .val (.int (Int32.ofNat v0)), .val (.int (Int32.ofNat v1)), .unset, .unset]) at_168 rfl rfl ?_
      refine oGo.iload_n (pc' := 171) at_170 rfl rfl ?_
      refine oGo.ldc_int (pc' := 173) at_171 rfl (w5 hG) ?_
      refine oGo.iand (pc' := 174) at_173 rfl ?_
      refine oGo.bipush (pc' := 176) (v := 95) at_174 rfl (by decide) ?_
      refine oGo.irem (pc' := 177) at_176 rfl (by decide) ?_
      obtain ⟨v2, hv2, ev2⟩ := own_r95 i3
      rw [ev2]
      obtain ⟨k2, hk2⟩ : ∃ k, k = Int32.ofNat (kcF v2) := ⟨_, rfl⟩
      have pk2 := kc_ok v2 hv2
      have el2 := enc_le k2
      rw [← hk2] at pk2
      refine oGo.istore (pc' := 179) (Ls' := #[.val (.int i0), .val (.int i1), .val (.int i2), .val (.int i3), .val (.int i4), .val (.int (1 : Int32)), .val (.int (Int32.ofNat ld)), .val (.int (3 : Int32)), .val (.ref a2), .unset, .unset, .unset, .val (.int (Int32.ofNat v0)), .val (.int (Int32.ofNat v1)), .val (.int (Int32.ofNat v2)), .unset]) at_177 rfl rfl ?_
      refine oGo.aload (pc' := 181) at_179 rfl rfl rfl ?_
      refine oGo.iload (pc' := 183) at_181 rfl rfl ?_
      refine oGo.bipush (pc' := 185) (v := 34) at_183 rfl (by decide) ?_
      refine oGo.castore (pc' := 186) (i := ld) (w := (34 : Int32)) at_185 rfl AW rfl (by rw [List.length_map, put_len (by (first | omega | (simp only [List.length_append, List.length_cons, List.length_nil] <;> omega)))]; (first | omega | (simp only [List.length_append, List.length_cons, List.length_nil] <;> omega))) (by decide) (by simp) ?_
      intro h343 W344 sh343 A345
      rw [put_set _ (by (first | omega | (simp only [List.length_append, List.length_cons, List.length_nil] <;> omega))) (by (first | omega | (simp only [List.length_append, List.length_cons, List.length_nil] <;> omega)))] at A345
      have A346 : oArr Z h343 a2 .char (oI (put W ld [34])) := A345
      refine oGo.iload (pc' := 188) at_186 rfl rfl ?_
      refine oGo.iconst (pc' := 189) (v := 1) at_188 rfl (by decide) ?_
      refine oGo.iadd (pc' := 190) at_189 rfl ?_
      rw [own_addL ld 1 1 rfl]
      refine oGo.istore (pc' := 192) (Ls' := #[.val (.int i0), .val (.int i1), .val (.int i2), .val (.int i3), .val (.int i4), .val (.int (1 : Int32)), .val (.int (Int32.ofNat ld)), .val (.int (3 : Int32)), .val (.ref a2), .unset, .unset, .unset, .val (.int (Int32.ofNat v0)), .val (.int (Int32.ofNat v1)), .val (.int (Int32.ofNat v2)), .val (.int (Int32.ofNat (ld + 1)))]) at_190 rfl rfl ?_
      refine oGo.aload (pc' := 194) at_192 rfl rfl rfl ?_
      refine oGo.iload (pc' := 196) at_194 rfl rfl ?_
      refine oGo.iload (pc' := 198) at_196 rfl rfl ?_
      refine oGo.invokestatic (pc' := 201) (k' := 1) (n' := 10) (argsL := [.ref a2, .int (Int32.ofNat (ld + 1)), .int (Int32.ofNat v0)]) (rest := []) at_198 rfl (w189 hG) (w190 hG) (w3 hG) (w191 hG) (by decide) pd39 rfl rfl rfl (c_put hG a2 ld (ld + 1) v0 W [34] rfl (by rw [hWl]; omega) (by omega) hv0 _ A346) (by simp) (by decide) (Nat.le_of_ble_eq_true rfl) rfl rfl (by decide) (by decide) ?_
      intro v347 h348 sh348 q349
      obtain ⟨zs0, hzs0, rfl, KU0, AU0⟩ := q349
      rw [← hk0] at hzs0
      have hzl0 : zs0.length = 1 + (enc k0).length := by
        rw [hzs0]; simp only [List.length_append, List.length_cons, List.length_nil] <;> omega
      refine ⟨_, fun _ hx => Or.inl hx, ?_⟩
      show oGo l Z a0 EL True pP eE sS mM _ bB tT cC _ _ _ _ _ _ _ _ [a2] h348 1 10 201 #[.val (.int i0), .val (.int i1), .val (.int i2), .val (.int i3), .val (.int i4), .val (.int (1 : Int32)), .val (.int (Int32.ofNat ld)), .val (.int (3 : Int32)), .val (.ref a2), .unset, .unset, .unset, .val (.int (Int32.ofNat v0)), .val (.int (Int32.ofNat v1)), .val (.int (Int32.ofNat v2)), .val (.int (Int32.ofNat (ld + 1)))] [.int (Int32.ofNat (ld + zs0.length))]
      refine oGo.istore (pc' := 203) (Ls' := #[.val (.int i0), .val (.int i1), .val (.int i2), .val (.int i3), .val (.int i4), .val (.int (1 : Int32)), .val (.int (Int32.ofNat ld)), .val (.int (3 : Int32)), .val (.ref a2), .unset, .unset, .unset, .val (.int (Int32.ofNat v0)), .val (.int (Int32.ofNat v1)), .val (.int (Int32.ofNat v2)), .val (.int (Int32.ofNat (ld + zs0.length)))]) at_201 rfl rfl ?_
      refine oGo.iload (pc' := 205) at_203 rfl rfl ?_
      refine oGo.iconst (pc' := 206) (v := 1) at_205 rfl (by decide) ?_
      refine oGo.icmp_le (pc1 := 209) (pc2 := 220) at_206 rfl (by decide) (fun q => by first | exact absurd q (by decide) | exact absurd (by decide) q) (fun q350 => ?_)
      refine oGo.aload (pc' := 211) at_209 rfl rfl rfl ?_
      refine oGo.iload (pc' := 213) at_211 rfl rfl ?_
      refine oGo.iload (pc' := 215) at_213 rfl rfl ?_
      refine oGo.invokestatic (pc' := 218) (k' := 1) (n' := 10) (argsL := [.ref a2, .int (Int32.ofNat (ld + zs0.length)), .int (Int32.ofNat v1)]) (rest := []) at_215 rfl (w189 hG) (w190 hG) (w3 hG) (w191 hG) (by decide) pd39 rfl rfl rfl (c_put hG a2 ld (ld + zs0.length) v1 W zs0 rfl (by rw [hWl]; omega) (by omega) hv1 _ AU0) (by simp) (by decide) (Nat.le_of_ble_eq_true rfl) rfl rfl (by decide) (by decide) ?_
      intro v351 h352 sh352 q353
      obtain ⟨zs1, hzs1, rfl, KU1, AU1⟩ := q353
      rw [← hk1] at hzs1
      have hzl1 : zs1.length = 1 + (enc k0).length + (enc k1).length := by
        rw [hzs1]; simp only [List.length_append, List.length_cons, List.length_nil] <;> omega
      refine ⟨_, fun _ hx => Or.inl hx, ?_⟩
      show oGo l Z a0 EL True pP eE sS mM _ bB tT cC _ _ _ _ _ _ _ _ [a2] h352 1 10 218 #[.val (.int i0), .val (.int i1), .val (.int i2), .val (.int i3), .val (.int i4), .val (.int (1 : Int32)), .val (.int (Int32.ofNat ld)), .val (.int (3 : Int32)), .val (.ref a2), .unset, .unset, .unset, .val (.int (Int32.ofNat v0)), .val (.int (Int32.ofNat v1)), .val (.int (Int32.ofNat v2)), .val (.int (Int32.ofNat (ld + zs0.length)))] [.int (Int32.ofNat (ld + zs1.length))]
      refine oGo.istore (pc' := 220) (Ls' := #[.val (.int i0), .val (.int i1), .val (.int i2), .val (.int i3), .val (.int i4), .val (.int (1 : Int32)), .val (.int (Int32.ofNat ld)), .val (.int (3 : Int32)), .val (.ref a2), .unset, .unset, .unset, .val (.int (Int32.ofNat v0)), .val (.int (Int32.ofNat v1)), .val (.int (Int32.ofNat v2)), .val (.int (Int32.ofNat (ld + zs1.length)))]) at_218 rfl rfl ?_
      refine oGo.iload (pc' := 222) at_220 rfl rfl ?_
      refine oGo.iconst (pc' := 223) (v := 2) at_222 rfl (by decide) ?_
      refine oGo.icmp_le (pc1 := 226) (pc2 := 237) at_223 rfl (by decide) (fun q => by first | exact absurd q (by decide) | exact absurd (by decide) q) (fun q354 => ?_)
      refine oGo.aload (pc' := 228) at_226 rfl rfl rfl ?_
      refine oGo.iload (pc' := 230) at_228 rfl rfl ?_
      refine oGo.iload (pc' := 232) at_230 rfl rfl ?_
      refine oGo.invokestatic (pc' := 235) (k' := 1) (n' := 10) (argsL := [.ref a2, .int (Int32.ofNat (ld + zs1.length)), .int (Int32.ofNat v2)]) (rest := []) at_232 rfl (w189 hG) (w190 hG) (w3 hG) (w191 hG) (by decide) pd39 rfl rfl rfl (c_put hG a2 ld (ld + zs1.length) v2 W zs1 rfl (by rw [hWl]; omega) (by omega) hv2 _ AU1) (by simp) (by decide) (Nat.le_of_ble_eq_true rfl) rfl rfl (by decide) (by decide) ?_
      intro v355 h356 sh356 q357
      obtain ⟨zs2, hzs2, rfl, KU2, AU2⟩ := q357
      rw [← hk2] at hzs2
      have hzl2 : zs2.length = 1 + (enc k0).length + (enc k1).length + (enc k2).length := by
        rw [hzs2]; simp only [List.length_append, List.length_cons, List.length_nil] <;> omega
      refine ⟨_, fun _ hx => Or.inl hx, ?_⟩
      show oGo l Z a0 EL True pP eE sS mM _ bB tT cC _ _ _ _ _ _ _ _ [a2] h356 1 10 235 #[.val (.int i0), .val (.int i1), .val (.int i2), .val (.int i3), .val (.int i4), .val (.int (1 : Int32)), .val (.int (Int32.ofNat ld)), .val (.int (3 : Int32)), .val (.ref a2), .unset, .unset, .unset, .val (.int (Int32.ofNat v0)), .val (.int (Int32.ofNat v1)), .val (.int (Int32.ofNat v2)), .val (.int (Int32.ofNat (ld + zs1.length)))] [.int (Int32.ofNat (ld + zs2.length))]
      refine oGo.istore (pc' := 237) (Ls' := #[.val (.int i0), .val (.int i1), .val (.int i2), .val (.int i3), .val (.int i4), .val (.int (1 : Int32)), .val (.int (Int32.ofNat ld)), .val (.int (3 : Int32)), .val (.ref a2), .unset, .unset, .unset, .val (.int (Int32.ofNat v0)), .val (.int (Int32.ofNat v1)), .val (.int (Int32.ofNat v2)), .val (.int (Int32.ofNat (ld + zs2.length)))]) at_235 rfl rfl ?_
      refine oGo.aload (pc' := 239) at_237 rfl rfl rfl ?_
      refine oGo.iload (pc' := 241) at_239 rfl rfl ?_
      refine oGo.bipush (pc' := 243) (v := 34) at_241 rfl (by decide) ?_
      refine oGo.castore (pc' := 244) (i := ld + zs2.length) (w := (34 : Int32)) at_243 rfl AU2 rfl (by rw [List.length_map, put_len (by (first | omega | (simp only [List.length_append, List.length_cons, List.length_nil] <;> omega)))]; (first | omega | (simp only [List.length_append, List.length_cons, List.length_nil] <;> omega))) (by decide) (by simp) ?_
      intro h358 W359 sh358 A360
      rw [put_set _ (by (first | omega | (simp only [List.length_append, List.length_cons, List.length_nil] <;> omega))) (by (first | omega | (simp only [List.length_append, List.length_cons, List.length_nil] <;> omega)))] at A360
      have A361 : oArr Z h358 a2 .char (oI (put W ld (qot [k0, k1, k2]))) := by
        have e : (zs2 ++ [34] : List Int32) = qot [k0, k1, k2] := by rw [hzs2, hzs1, hzs0]; simp [qot]
        rw [← e]; exact A360
      refine oGo.iload (pc' := 246) at_244 rfl rfl ?_
      refine oGo.invokestatic (pc' := 249) (k' := 1) (n' := 10) (argsL := [.int (Int32.ofNat v0)]) (rest := []) at_246 rfl (w195 hG) (w196 hG) (w3 hG) (w197 hG) (by decide) pd22 rfl rfl rfl (c_key hG v0 hv0 _) (by simp) (by decide) (Nat.le_of_ble_eq_true rfl) rfl rfl (by decide) (by decide) ?_
      intro v362 h363 sh363 q364
      obtain ⟨rfl, ee⟩ := q364
      obtain rfl := ee.symm
      refine ⟨_, fun _ hx => Or.inl hx, ?_⟩
      show oGo l Z a0 EL True pP eE sS mM _ bB tT cC _ _ _ _ _ _ _ _ [a2] h358 1 10 249 #[.val (.int i0), .val (.int i1), .val (.int i2), .val (.int i3), .val (.int i4), .val (.int (1 : Int32)), .val (.int (Int32.ofNat ld)), .val (.int (3 : Int32)), .val (.ref a2), .unset, .unset, .unset, .val (.int (Int32.ofNat v0)), .val (.int (Int32.ofNat v1)), .val (.int (Int32.ofNat v2)), .val (.int (Int32.ofNat (ld + zs2.length)))] [.int (Int32.ofNat (kcF v0))]
      rw [← hk0]
      refine oGo.istore (pc' := 251) (Ls' := #[.val (.int i0), .val (.int i1), .val (.int i2), .val (.int i3), .val (.int i4), .val (.int (1 : Int32)), .val (.int (Int32.ofNat ld)), .val (.int (3 : Int32)), .val (.ref a2), .val (.int k0), .unset, .unset, .val (.int (Int32.ofNat v0)), .val (.int (Int32.ofNat v1)), .val (.int (Int32.ofNat v2)), .val (.int (Int32.ofNat (ld + zs2.length)))]) at_249 rfl rfl ?_
      refine oGo.iload (pc' := 253) at_251 rfl rfl ?_
      refine oGo.invokestatic (pc' := 256) (k' := 1) (n' := 10) (argsL := [.int (Int32.ofNat v1)]) (rest := []) at_253 rfl (w195 hG) (w196 hG) (w3 hG) (w197 hG) (by decide) pd22 rfl rfl rfl (c_key hG v1 hv1 _) (by simp) (by decide) (Nat.le_of_ble_eq_true rfl) rfl rfl (by decide) (by decide) ?_
      intro v365 h366 sh366 q367
      obtain ⟨rfl, ee⟩ := q367
      obtain rfl := ee.symm
      refine ⟨_, fun _ hx => Or.inl hx, ?_⟩
      show oGo l Z a0 EL True pP eE sS mM _ bB tT cC _ _ _ _ _ _ _ _ [a2] h358 1 10 256 #[.val (.int i0), .val (.int i1), .val (.int i2), .val (.int i3), .val (.int i4), .val (.int (1 : Int32)), .val (.int (Int32.ofNat ld)), .val (.int (3 : Int32)), .val (.ref a2), .val (.int k0), .unset, .unset, .val (.int (Int32.ofNat v0)), .val (.int (Int32.ofNat v1)), .val (.int (Int32.ofNat v2)), .val (.int (Int32.ofNat (ld + zs2.length)))] [.int (Int32.ofNat (kcF v1))]
      rw [← hk1]
      refine oGo.istore (pc' := 258) (Ls' := #[.val (.int i0), .val (.int i1), .val (.int i2), .val (.int i3), .val (.int i4), .val (.int (1 : Int32)), .val (.int (Int32.ofNat ld)), .val (.int (3 : Int32)), .val (.ref a2), .val (.int k0), .val (.int k1), .unset, .val (.int (Int32.ofNat v0)), .val (.int (Int32.ofNat v1)), .val (.int (Int32.ofNat v2)), .val (.int (Int32.ofNat (ld + zs2.length)))]) at_256 rfl rfl ?_
      refine oGo.iload (pc' := 260) at_258 rfl rfl ?_
      refine oGo.invokestatic (pc' := 263) (k' := 1) (n' := 10) (argsL := [.int (Int32.ofNat v2)]) (rest := []) at_260 rfl (w195 hG) (w196 hG) (w3 hG) (w197 hG) (by decide) pd22 rfl rfl rfl (c_key hG v2 hv2 _) (by simp) (by decide) (Nat.le_of_ble_eq_true rfl) rfl rfl (by decide) (by decide) ?_
      intro v368 h369 sh369 q370
      obtain ⟨rfl, ee⟩ := q370
      obtain rfl := ee.symm
      refine ⟨_, fun _ hx => Or.inl hx, ?_⟩
      show oGo l Z a0 EL True pP eE sS mM _ bB tT cC _ _ _ _ _ _ _ _ [a2] h358 1 10 263 #[.val (.int i0), .val (.int i1), .val (.int i2), .val (.int i3), .val (.int i4), .val (.int (1 : Int32)), .val (.int (Int32.ofNat ld)), .val (.int (3 : Int32)), .val (.ref a2), .val (.int k0), .val (.int k1), .unset, .val (.int (Int32.ofNat v0)), .val (.int (Int32.ofNat v1)), .val (.int (Int32.ofNat v2)), .val (.int (Int32.ofNat (ld + zs2.length)))] [.int (Int32.ofNat (kcF v2))]
      rw [← hk2]
      have hq10 : ld + (qot [k0, k1, k2]).length ≤ 10 := by rw [qot_len]; simp; omega
      have hpr : ∀ c ∈ ([k0, k1, k2] : List Int32), ¬ c < 32 ∧ ¬ 126 < c := by intro c hc; simp only [List.mem_cons, List.not_mem_nil, or_false] at hc; rcases hc with rfl | rfl | rfl <;> assumption
      have HW : oWs (put W ld (qot [k0, k1, k2])) ld (ld + (qot [k0, k1, k2]).length) := put_ws hW hWl hq10 (by rw [qot_len]; omega) (qot_ends _).1 (qot_ends _).2
      have hcl : (put W ld (qot [k0, k1, k2])).length = 10 := by rw [put_len (by rw [hWl]; exact hq10)]; exact hWl
      refine oGo.istore (pc' := 265) (Ls' := #[.val (.int i0), .val (.int i1), .val (.int i2), .val (.int i3), .val (.int i4), .val (.int (1 : Int32)), .val (.int (Int32.ofNat ld)), .val (.int (3 : Int32)), .val (.ref a2), .val (.int k0), .val (.int k1), .val (.int k2), .val (.int (Int32.ofNat v0)), .val (.int (Int32.ofNat v1)), .val (.int (Int32.ofNat v2)), .val (.int (Int32.ofNat (ld + zs2.length)))]) at_263 rfl rfl ?_
      refine oGo.goto (pc' := 362) at_265 (by decide) ?_
      refine oGo.new (pc' := 365) (k' := 2) (n' := 14) at_362 rfl (w9 hG) (w10 hG) (w11 hG) rfl rfl (by decide) (by decide) ?_
      intro h371 a372 qa372 la372 E373 X374 F375
      have f376 := F375 (Or.inr (w35 hG)) (ty := .byte) (by decide)
      have f377 := F375 (Or.inr (w37 hG)) (ty := (.array .byte)) (by decide)
      refine oGo.dup (pc' := 366) at_365 rfl rfl ?_
      refine oGo.aload (pc' := 368) at_366 rfl rfl rfl ?_
      have f378 := oArr.ext E373 A361
      refine oGo.invokespecial (pc' := 371) (k' := 3) (n' := 24) (a := a372) (argsL := [.ref a2]) (rest := [.ref a372]) at_368 rfl rfl (w12 hG) (w13 hG) (w11 hG) (w14 hG) (by decide) pd37 rfl rfl rfl (c_strI1 hG a372 a2 (put W ld (qot [k0, k1, k2])) (by omega) (by omega) (own_put_bd hW (own_qot_bd hpr)) _ _ _ f378 X374 f377 f376) (by simp) (by decide) (Nat.le_of_ble_eq_true rfl) rfl rfl (by decide) (by decide) ?_
      intro v379 h380 sh380 q381
      obtain ⟨rfl, KX, tX, SX⟩ := q381
      have lxX := own_ltN SX.1.lt
      have ltX := own_ltN SX.2.2.2.1.lt
      refine ⟨_, fun _ hx => Or.inl hx, ?_⟩
      show oGo l Z a0 EL True pP eE sS mM _ bB tT cC _ _ _ _ _ _ _ _ [a372, a2] h380 3 24 371 #[.val (.int i0), .val (.int i1), .val (.int i2), .val (.int i3), .val (.int i4), .val (.int (1 : Int32)), .val (.int (Int32.ofNat ld)), .val (.int (3 : Int32)), .val (.ref a2), .val (.int k0), .val (.int k1), .val (.int k2), .val (.int (Int32.ofNat v0)), .val (.int (Int32.ofNat v1)), .val (.int (Int32.ofNat v2)), .val (.int (Int32.ofNat (ld + zs2.length)))] [.ref a372]
      refine oGo.invokestatic (pc' := 374) (k' := 19) (n' := 324) (argsL := [.ref a372]) (rest := []) at_371 rfl (w38 hG) (w39 hG) (w40 hG) (w41 hG) (by decide) pd38 rfl rfl rfl (c_parseQ hG a372 tX (put W ld (qot [k0, k1, k2])) [k0, k1, k2] ld (ld + (qot [k0, k1, k2]).length) (by simp) (by simp) hpr HW (put_mid (by omega)) _ SX) (by simp) (by decide) (Nat.le_of_ble_eq_true rfl) rfl rfl (by decide) (by decide) ?_
      intro v382 h383 sh383 q384
      obtain ⟨KP, key, y, u, rfl, EP, GP, SP⟩ := q384
      refine ⟨_, fun _ hx => Or.inl hx, ?_⟩
      show oGo l Z a0 EL True pP eE sS mM _ bB tT cC _ _ _ _ _ _ _ _ [a372, a2] h383 19 324 374 #[.val (.int i0), .val (.int i1), .val (.int i2), .val (.int i3), .val (.int i4), .val (.int (1 : Int32)), .val (.int (Int32.ofNat ld)), .val (.int (3 : Int32)), .val (.ref a2), .val (.int k0), .val (.int k1), .val (.int k2), .val (.int (Int32.ofNat v0)), .val (.int (Int32.ofNat v1)), .val (.int (Int32.ofNat v2)), .val (.int (Int32.ofNat (ld + zs2.length)))] [.ref key]
      refine oGo.invokevirtual (pc' := 377) (k' := 19) (n' := 324) (a := key) (argsL := []) (rest := []) at_374 rfl (w182 hG) (w183 hG) (w185 hG) (w185 hG) rfl (w184 hG) (w40 hG) (w186 hG) (by decide) pd30 rfl rfl rfl EP (c_value hG key y _ GP) (by simp) (by decide) (Nat.le_of_ble_eq_true rfl) rfl rfl (by decide) (by decide) ?_
      intro v385 h386 sh386 q387
      obtain ⟨rfl, ee⟩ := q387
      obtain rfl := ee.symm
      refine ⟨_, fun _ hx => Or.inl hx, ?_⟩
      show oGo l Z a0 EL True pP eE sS mM _ bB tT cC _ _ _ _ _ _ _ _ [a372, a2] h383 19 324 377 #[.val (.int i0), .val (.int i1), .val (.int i2), .val (.int i3), .val (.int i4), .val (.int (1 : Int32)), .val (.int (Int32.ofNat ld)), .val (.int (3 : Int32)), .val (.ref a2), .val (.int k0), .val (.int k1), .val (.int k2), .val (.int (Int32.ofNat v0)), .val (.int (Int32.ofNat v1)), .val (.int (Int32.ofNat v2)), .val (.int (Int32.ofNat (ld + zs2.length)))] [.ref y]
      refine oGo.astore (pc' := 379) (Ls' := #[.val (.int i0), .val (.int i1), .val (.int i2), .val (.int i3), .val (.int i4), .val (.int (1 : Int32)), .val (.int (Int32.ofNat ld)), .val (.int (3 : Int32)), .val (.ref a2), .val (.int k0), .val (.int k1), .val (.int k2), .val (.ref y), .val (.int (Int32.ofNat v1)), .val (.int (Int32.ofNat v2)), .val (.int (Int32.ofNat (ld + zs2.length)))]) at_377 rfl rfl rfl ?_
      refine oGo.aload (pc' := 381) at_379 rfl rfl rfl ?_
      refine oGo.invokevirtual (pc' := 384) (k' := 19) (n' := 324) (a := y) (argsL := []) (rest := []) at_381 rfl (w187 hG) (w54 hG) (w56 hG) (w56 hG) rfl (w55 hG) (w11 hG) (w57 hG) (by decide) pd13 rfl rfl rfl SP.1 (c_length hG y u [k0, k1, k2] _ SP) (by simp) (by decide) (Nat.le_of_ble_eq_true rfl) rfl rfl (by decide) (by decide) ?_
      intro v388 h389 sh389 q390
      obtain ⟨rfl, ee⟩ := q390
      obtain rfl := ee.symm
      refine ⟨_, fun _ hx => Or.inl hx, ?_⟩
      show oGo l Z a0 EL True pP eE sS mM _ bB tT cC _ _ _ _ _ _ _ _ [a372, a2] h383 19 324 384 #[.val (.int i0), .val (.int i1), .val (.int i2), .val (.int i3), .val (.int i4), .val (.int (1 : Int32)), .val (.int (Int32.ofNat ld)), .val (.int (3 : Int32)), .val (.ref a2), .val (.int k0), .val (.int k1), .val (.int k2), .val (.ref y), .val (.int (Int32.ofNat v1)), .val (.int (Int32.ofNat v2)), .val (.int (Int32.ofNat (ld + zs2.length)))] [.int (3 : Int32)]
      refine oGo.iload (pc' := 386) at_384 rfl rfl ?_
      refine oGo.icmp_eq (pc1 := 389) (pc2 := 391) at_386 rfl (by decide) (fun q391 => ?_) (fun q => absurd rfl q)
      refine oGo.aload (pc' := 393) at_391 rfl rfl rfl ?_
      refine oGo.iconst (pc' := 394) (v := 0) at_393 rfl (by decide) ?_
      refine oGo.invokevirtual (pc' := 397) (k' := 19) (n' := 324) (a := y) (argsL := [.int (0 : Int32)]) (rest := []) at_394 rfl (w188 hG) (w64 hG) (w66 hG) (w66 hG) rfl (w65 hG) (w11 hG) (w67 hG) (by decide) pd22 rfl rfl rfl SP.1 (c_charAt hG y u [k0, k1, k2] 0 k0 rfl _ SP) (by simp) (by decide) (Nat.le_of_ble_eq_true rfl) rfl rfl (by decide) (by decide) ?_
      intro v392 h393 sh393 q394
      obtain ⟨rfl, ee⟩ := q394
      obtain rfl := ee.symm
      refine ⟨_, fun _ hx => Or.inl hx, ?_⟩
      show oGo l Z a0 EL True pP eE sS mM _ bB tT cC _ _ _ _ _ _ _ _ [a372, a2] h383 19 324 397 #[.val (.int i0), .val (.int i1), .val (.int i2), .val (.int i3), .val (.int i4), .val (.int (1 : Int32)), .val (.int (Int32.ofNat ld)), .val (.int (3 : Int32)), .val (.ref a2), .val (.int k0), .val (.int k1), .val (.int k2), .val (.ref y), .val (.int (Int32.ofNat v1)), .val (.int (Int32.ofNat v2)), .val (.int (Int32.ofNat (ld + zs2.length)))] [.int k0]
      refine oGo.iload (pc' := 399) at_397 rfl rfl ?_
      refine oGo.icmp_eq (pc1 := 402) (pc2 := 404) at_399 rfl (by decide) (fun q395 => ?_) (fun q => absurd rfl q)
      refine oGo.iload (pc' := 406) at_404 rfl rfl ?_
      refine oGo.iconst (pc' := 407) (v := 1) at_406 rfl (by decide) ?_
      refine oGo.icmp_le (pc1 := 410) (pc2 := 423) at_407 rfl (by decide) (fun q => by first | exact absurd q (by decide) | exact absurd (by decide) q) (fun q396 => ?_)
      refine oGo.aload (pc' := 412) at_410 rfl rfl rfl ?_
      refine oGo.iconst (pc' := 413) (v := 1) at_412 rfl (by decide) ?_
      refine oGo.invokevirtual (pc' := 416) (k' := 19) (n' := 324) (a := y) (argsL := [.int (1 : Int32)]) (rest := []) at_413 rfl (w188 hG) (w64 hG) (w66 hG) (w66 hG) rfl (w65 hG) (w11 hG) (w67 hG) (by decide) pd22 rfl rfl rfl SP.1 (c_charAt hG y u [k0, k1, k2] 1 k1 rfl _ SP) (by simp) (by decide) (Nat.le_of_ble_eq_true rfl) rfl rfl (by decide) (by decide) ?_
      intro v397 h398 sh398 q399
      obtain ⟨rfl, ee⟩ := q399
      obtain rfl := ee.symm
      refine ⟨_, fun _ hx => Or.inl hx, ?_⟩
      show oGo l Z a0 EL True pP eE sS mM _ bB tT cC _ _ _ _ _ _ _ _ [a372, a2] h383 19 324 416 #[.val (.int i0), .val (.int i1), .val (.int i2), .val (.int i3), .val (.int i4), .val (.int (1 : Int32)), .val (.int (Int32.ofNat ld)), .val (.int (3 : Int32)), .val (.ref a2), .val (.int k0), .val (.int k1), .val (.int k2), .val (.ref y), .val (.int (Int32.ofNat v1)), .val (.int (Int32.ofNat v2)), .val (.int (Int32.ofNat (ld + zs2.length)))] [.int k1]
      refine oGo.iload (pc' := 418) at_416 rfl rfl ?_
      refine oGo.icmp_eq (pc1 := 421) (pc2 := 423) at_418 rfl (by decide) (fun q400 => ?_) (fun q => absurd rfl q)
      refine oGo.iload (pc' := 425) at_423 rfl rfl ?_
      refine oGo.iconst (pc' := 426) (v := 2) at_425 rfl (by decide) ?_
      refine oGo.icmp_le (pc1 := 429) (pc2 := 442) at_426 rfl (by decide) (fun q => by first | exact absurd q (by decide) | exact absurd (by decide) q) (fun q401 => ?_)
      refine oGo.aload (pc' := 431) at_429 rfl rfl rfl ?_
      refine oGo.iconst (pc' := 432) (v := 2) at_431 rfl (by decide) ?_
      refine oGo.invokevirtual (pc' := 435) (k' := 19) (n' := 324) (a := y) (argsL := [.int (2 : Int32)]) (rest := []) at_432 rfl (w188 hG) (w64 hG) (w66 hG) (w66 hG) rfl (w65 hG) (w11 hG) (w67 hG) (by decide) pd22 rfl rfl rfl SP.1 (c_charAt hG y u [k0, k1, k2] 2 k2 rfl _ SP) (by simp) (by decide) (Nat.le_of_ble_eq_true rfl) rfl rfl (by decide) (by decide) ?_
      intro v402 h403 sh403 q404
      obtain ⟨rfl, ee⟩ := q404
      obtain rfl := ee.symm
      refine ⟨_, fun _ hx => Or.inl hx, ?_⟩
      show oGo l Z a0 EL True pP eE sS mM _ bB tT cC _ _ _ _ _ _ _ _ [a372, a2] h383 19 324 435 #[.val (.int i0), .val (.int i1), .val (.int i2), .val (.int i3), .val (.int i4), .val (.int (1 : Int32)), .val (.int (Int32.ofNat ld)), .val (.int (3 : Int32)), .val (.ref a2), .val (.int k0), .val (.int k1), .val (.int k2), .val (.ref y), .val (.int (Int32.ofNat v1)), .val (.int (Int32.ofNat v2)), .val (.int (Int32.ofNat (ld + zs2.length)))] [.int k2]
      refine oGo.iload (pc' := 437) at_435 rfl rfl ?_
      refine oGo.icmp_eq (pc1 := 440) (pc2 := 442) at_437 rfl (by decide) (fun q405 => ?_) (fun q => absurd rfl q)
      refine oGo.iconst (pc' := 443) (v := 1) at_442 rfl (by decide) ?_
      exact oGo.nreturn at_443 rfl (by simp) rfl (by decide) (by decide) rfl (fun _ q => q.elim)
theorem own_held {s : State} {o : String} {i : Nat} (h : Jvm.Pilot.@@N@@.Jvm.D.constHeld s o i) : Jvm.Lit.constHeld s o i := h
theorem own_compactW {a0 : Array Value} {s : State} (h : (Jvm.Cond.not (Jvm.Cond.eq (Jvm.Term.static "java/lang/String" "COMPACT_STRINGS" "Z") (Jvm.Term.int (0 : Int32)))).before a0 s = true) : Jvm.Lit.compactW.before a0 s = true := h
set_option maxRecDepth 65536 in
set_option maxHeartbeats 4000000 in
theorem comes_1 {Post : Tables → Env → Array Value → State → Outcome → State → Prop} (hpost : ∀ tb e args s v u, (limb_1_1.after args s (.returned v) u = true ∧ limb_1_2.after args s (.returned v) u = true) → D.FramedW s (.returned v) u (Jvm.fieldLocs frame_1_writes args s ++ Jvm.arrayLocs frame_1_arrays args s ++ Jvm.staticLocs frame_1_statics s) 40 3264 → Post tb e args s (.returned v) u) :
    ArmFor flags0 classFile x code maxLocals ret World_1 tables_1 room_1 Calls_1 rest_1 Pre_1 Post := by
  intro l hfl _ _ p e ha hc hk s m args below hf hA hF happ hP
  obtain ⟨hcalls, hrest, hpre⟩ := hP
  obtain ⟨-, -, -, hnamed, -, -, -, hat⟩ := (Spec.applies_iff hf).mp happ
  obtain ⟨hg, hn⟩ := and_e (Cond.before_iff.mp (show (Jvm.Cond.and given_1 narrow_1).before args s = true from hpre))
  obtain ⟨g0, g1⟩ := and_e hg
  obtain ⟨t0, r0⟩ := and_e g1
  obtain ⟨t1, r1⟩ := and_e r0
  obtain ⟨t2, r2⟩ := and_e r1
  obtain ⟨t3, r3⟩ := and_e r2
  obtain ⟨w0, w1, w2, w3, w4, rfl⟩ : ∃ w0 w1 w2 w3 w4 : Value, args = #[w0, w1, w2, w3, w4] := by
    have hs : args.size = 5 := by simpa [Cond.value, given_1] using g0
    obtain ⟨L⟩ := args
    match L, hs with
    | [w0, w1, w2, w3, w4], _ => exact ⟨w0, w1, w2, w3, w4, rfl⟩
  have hw := fun d (hd : d ∈ tables_1) => atoms_spec (ws := Jvm.Cond.code x code maxLocals ret :: tables_1) hat d (List.mem_cons_of_mem _ hd)
  obtain ⟨hsets, hown0⟩ := atoms_of _ (rest_1_c_eq ▸ (show rest_1_c.before _ s = true from hrest))
  obtain ⟨i0, ei0⟩ := is_v t0
  obtain rfl : w0 = (.int i0) := Option.some.inj ei0
  obtain ⟨i1, ei1⟩ := is_v t1
  obtain rfl : w1 = (.int i1) := Option.some.inj ei1
  obtain ⟨i2, ei2⟩ := is_v t2
  obtain rfl : w2 = (.int i2) := Option.some.inj ei2
  obtain ⟨i3, ei3⟩ := is_v t3
  obtain rfl : w3 = (.int i3) := Option.some.inj ei3
  obtain ⟨i4, ei4⟩ := is_v r3
  obtain rfl : w4 = (.int i4) := Option.some.inj ei4
  have hEW : EW s #[.int i0, .int i1, .int i2, .int i3, .int i4] consts_1 := (EW.cons (hw _ (List.mem_of_getElem? (i := 174) rfl)) (by decide) (EW.cons (hw _ (List.mem_of_getElem? (i := 42) rfl)) (by decide) (EW.cons (hw _ (List.mem_of_getElem? (i := 125) rfl)) (by decide) EW.nil)))
  have hG : oG #[.int i0, .int i1, .int i2, .int i3, .int i4] s consts_1 := ⟨hw, hEW, hsets, fun _ h => h⟩
  have hCH : CHv s consts_1 s.vm s.heap := CHv.start hEW (fun p hp => own_held (hcalls.1 p hp)) (own_compactW (hsets _ (List.mem_of_getElem? (i := 2) rfl))) (w27 hG) (w10 hG)
  obtain ⟨n, o, h1, h2, h3, v, L, rfl, ⟨rfl, -⟩, hN, -, -, -, hR⟩ := c_law (l := l) hG i0 i1 i2 i3 i4 s.heap p e ha hc hk s m _ below hf ((Spec.applies_iff_loose hf).mp happ).1 ⟨rfl, State.Warmed39.refl s, rfl, ext_refl _, hCH, (fun x hx => by simp at hx)⟩ trivial
  refine ⟨n, _, h1, h2, h3, hpost _ _ _ _ _ _ ⟨Cond.after_iff.mpr rfl, Cond.after_iff.mpr (eq_i res_at (Term.int_eval (1)) rfl)⟩ ⟨⟨_, rfl⟩, hR.2.1, hR.2.2.1, (hR.2.2.2.sift fun y hy => Or.inr (hN y hy)).mono (by decide) (by decide)⟩⟩
theorem main_1_1 : Claimed_1_1 := comes_1 fun _ _ _ _ _ _ h hF => ⟨h.1, hF⟩
theorem main_1_2 : Claimed_1_2 := comes_1 fun _ _ _ _ _ _ h hF => ⟨h.2, hF⟩
end Jvm.Pilot.@@N@@
namespace Jvm.Pilot.@@N@@
open Jvm Jvm.ClassFile Sem Op Lib Jvm.Free Jvm.Stand Jvm.Pilot.@@N@@.Jvm.D
/-! MADE BY PROGRAM (witnessworld.py) out of the Statement's table words and the real class files: 28 classes; the members and pool entries that the words name. The judged class is class 1, her method 1. -/
namespace start1
open Jvm.ClassFile
def u (s : String) : CpInfo := .utf8 (stringToUtf16 s)
/-- a pool by its gaps: so many unusable entries, then the entry; so many at the end -/
def gap : Nat → List CpInfo → List CpInfo
  | 0, r => r
  | n + 1, r => .unusable :: gap n r
def poolList (es : List (Nat × CpInfo)) (last : Nat) : List CpInfo := es.foldr (fun e r => gap e.1 (e.2 :: r)) (gap last [])
def pool (es : List (Nat × CpInfo)) (last : Nat) : Array CpInfo := ⟨poolList es last⟩
def fileOf (pool : Array CpInfo) (this : Nat) (attrs : Array Attribute := #[]) (ms : Array MethodInfo := #[]) (fl : Nat := 33) (sup : Nat := 0) (ifs : Array Nat := #[]) (fds : Array FieldInfo := #[]) : ClassFile where
  minorVersion := 0
  majorVersion := 65
  constantPool := pool
  accessFlags := fl
  thisClass := this
  superClass := sup
  interfaces := ifs
  fields := fds
  methods := ms
  attributes := attrs
def plain (name : String) (sup : Option ClassId) : Class where
  name := name
  kind := .ordinary
  loader := none
  accessFlags := 33
  super := sup
  interfaces := #[]
  cf := none
  fields := #[]
  methods := #[]
  instanceTypes := #[]
  staticTypes := #[]
  resolved := #[]
  callSites := []
  init := .initialized
  statics := none
  mirror := none

def pool0 : Array CpInfo := pool [(5, u "<init>"), (0, u "()V"), (1, .class_ 10), (1, u "java/lang/Object")] 113

def k0c0 : Code := { maxStack := 0, maxLocals := 1, code := object_method_1_code, exceptionTable := #[], attributes := #[] }
def k0m0 : Method := { name := "<init>", desc := "()V", sig := { parameters := [], returnType := none }, accessFlags := 1, code := some k0c0 }
/-- java/lang/Object -/
def k0 : Class := { plain "java/lang/Object" none with
  accessFlags := 33
  interfaces := #[]
  cf := some (fileOf pool0 8 #[] #[{ accessFlags := 1, nameIndex := 5, descriptorIndex := 6, attributes := #[] }] 33 0 #[] #[])
  fields := #[]
  methods := #[k0m0]
  instanceTypes := #[]
  staticTypes := #[]
  resolved := Array.replicate 124 none
  statics := none }

def pool1 : Array CpInfo := pool [(2, .class_ 4), (1, u "java/lang/Object"), (0, u "<init>"), (0, u "()V"), (0, .methodref 8 9), (0, .class_ 10), (0, .nameAndType 11 12), (0, u "com/example/gated_claim/gatedclaim/idempotency/IdempotencyKeyParsePinLaw"), (0, u "ws"), (0, u "(II)C"), (0, .integer 2147483647), (0, .methodref 8 15), (0, .nameAndType 16 17), (0, u "putUnit"), (0, u "([CII)I"), (0, .methodref 8 19), (0, .nameAndType 20 21), (0, u "keyChar"), (0, u "(I)C"), (0, .methodref 8 23), (0, .nameAndType 24 21), (0, u "bareChar"), (0, .class_ 26), (0, u "java/lang/String"), (0, .methodref 25 28), (0, .nameAndType 5 29), (0, u "([C)V"), (0, .methodref 31 32), (0, .class_ 33), (0, .nameAndType 34 35), (0, u "com/example/gated_claim/gatedclaim/idempotency/IdempotencyKey"), (0, u "parse"), (0, u "(Ljava/lang/String;)Lcom/example/gated_claim/gatedclaim/idempotency/IdempotencyKey;"), (0, .methodref 31 37), (0, .nameAndType 38 39), (0, u "value"), (0, u "()Ljava/lang/String;"), (0, .methodref 25 41), (0, .nameAndType 42 43), (0, u "length"), (0, u "()I"), (0, .methodref 25 45), (0, .nameAndType 46 21), (0, u "charAt"), (0, .methodref 8 48), (0, .nameAndType 49 21), (0, u "plainQuoted"), (2, u "law"), (0, u "(IIIII)Z")] 5

def k1m0 : Method := { name := "<init>", desc := "()V", sig := { parameters := [], returnType := none }, accessFlags := 1, code := none }
def k1c1 : Code := { maxStack := 4, maxLocals := 16, code := code, exceptionTable := #[], attributes := #[] }
def k1m1 : Method := { name := "law", desc := "(IIIII)Z", sig := { parameters := [.int, .int, .int, .int, .int], returnType := some .boolean }, accessFlags := 9, code := some k1c1 }
def k1c2 : Code := { maxStack := 2, maxLocals := 2, code := method_3_code, exceptionTable := #[], attributes := #[] }
def k1m2 : Method := { name := "ws", desc := "(II)C", sig := { parameters := [.int, .int], returnType := some .char }, accessFlags := 10, code := some k1c2 }
def k1c3 : Code := { maxStack := 2, maxLocals := 2, code := method_4_code, exceptionTable := #[], attributes := #[] }
def k1m3 : Method := { name := "plainQuoted", desc := "(I)C", sig := { parameters := [.int], returnType := some .char }, accessFlags := 10, code := some k1c3 }
def k1c4 : Code := { maxStack := 2, maxLocals := 1, code := method_5_code, exceptionTable := #[], attributes := #[] }
def k1m4 : Method := { name := "keyChar", desc := "(I)C", sig := { parameters := [.int], returnType := some .char }, accessFlags := 10, code := some k1c4 }
def k1c5 : Code := { maxStack := 3, maxLocals := 3, code := method_6_code, exceptionTable := #[], attributes := #[] }
def k1m5 : Method := { name := "putUnit", desc := "([CII)I", sig := { parameters := [(.array .char), .int, .int], returnType := some .int }, accessFlags := 10, code := some k1c5 }
def k1c6 : Code := { maxStack := 2, maxLocals := 2, code := method_7_code, exceptionTable := #[], attributes := #[] }
def k1m6 : Method := { name := "bareChar", desc := "(I)C", sig := { parameters := [.int], returnType := some .char }, accessFlags := 10, code := some k1c6 }
/-- com/example/gated_claim/gatedclaim/idempotency/IdempotencyKeyParsePinLaw -/
def k1 : Class := { plain "com/example/gated_claim/gatedclaim/idempotency/IdempotencyKeyParsePinLaw" (some 0) with
  accessFlags := 49
  interfaces := #[]
  cf := some (fileOf pool1 8 #[] #[{ accessFlags := 1, nameIndex := 5, descriptorIndex := 6, attributes := #[] }, { accessFlags := 9, nameIndex := 52, descriptorIndex := 53, attributes := #[] }, { accessFlags := 10, nameIndex := 11, descriptorIndex := 12, attributes := #[] }, { accessFlags := 10, nameIndex := 49, descriptorIndex := 21, attributes := #[] }, { accessFlags := 10, nameIndex := 20, descriptorIndex := 21, attributes := #[] }, { accessFlags := 10, nameIndex := 16, descriptorIndex := 17, attributes := #[] }, { accessFlags := 10, nameIndex := 24, descriptorIndex := 21, attributes := #[] }] 49 2 #[] #[])
  fields := #[]
  methods := #[k1m0, k1m1, k1m2, k1m3, k1m4, k1m5, k1m6]
  instanceTypes := #[]
  staticTypes := #[]
  resolved := Array.replicate 59 none
  statics := none }

def pool2 : Array CpInfo := pool [(1, .class_ 2), (0, u "java/io/Serializable"), (0, .class_ 4), (0, u "java/lang/Object")] 2

/-- java/io/Serializable -/
def k2 : Class := { plain "java/io/Serializable" (some 0) with
  accessFlags := 1537
  interfaces := #[]
  cf := some (fileOf pool2 1 #[] #[] 1537 3 #[] #[])
  fields := #[]
  methods := #[]
  instanceTypes := #[]
  staticTypes := #[]
  resolved := Array.replicate 7 none
  statics := none }

def pool3 : Array CpInfo := pool [(1, .class_ 2), (0, u "java/lang/Comparable"), (0, .class_ 4), (0, u "java/lang/Object")] 7

/-- java/lang/Comparable -/
def k3 : Class := { plain "java/lang/Comparable" (some 0) with
  accessFlags := 1537
  interfaces := #[]
  cf := some (fileOf pool3 1 #[] #[] 1537 3 #[] #[])
  fields := #[]
  methods := #[]
  instanceTypes := #[]
  staticTypes := #[]
  resolved := Array.replicate 12 none
  statics := none }

def pool4 : Array CpInfo := pool [(2, .class_ 4), (1, u "java/lang/CharSequence"), (42, .class_ 48), (0, u "java/lang/CharSequence$1CodePointIterator"), (10, .class_ 60), (0, u "java/lang/CharSequence$1CharIterator"), (5, .class_ 67), (0, u "java/lang/Object")] 63

/-- java/lang/CharSequence -/
def k4 : Class := { plain "java/lang/CharSequence" (some 0) with
  accessFlags := 1537
  interfaces := #[]
  cf := some (fileOf pool4 2 #[.nestMembers #[47, 59]] #[] 1537 66 #[] #[])
  fields := #[]
  methods := #[]
  instanceTypes := #[]
  staticTypes := #[]
  resolved := Array.replicate 131 none
  statics := none }

def pool5 : Array CpInfo := pool [(1, .class_ 2), (0, u "java/lang/constant/Constable"), (0, .class_ 4), (0, u "java/lang/Object")] 6

/-- java/lang/constant/Constable -/
def k5 : Class := { plain "java/lang/constant/Constable" (some 0) with
  accessFlags := 1537
  interfaces := #[]
  cf := some (fileOf pool5 1 #[] #[] 1537 3 #[] #[])
  fields := #[]
  methods := #[]
  instanceTypes := #[]
  staticTypes := #[]
  resolved := Array.replicate 11 none
  statics := none }

def pool6 : Array CpInfo := pool [(1, .class_ 2), (0, u "java/lang/constant/ConstantDesc"), (0, .class_ 4), (0, u "java/lang/Object")] 32

/-- java/lang/constant/ConstantDesc -/
def k6 : Class := { plain "java/lang/constant/ConstantDesc" (some 0) with
  accessFlags := 1537
  interfaces := #[]
  cf := some (fileOf pool6 1 #[] #[] 1537 3 #[] #[])
  fields := #[]
  methods := #[]
  instanceTypes := #[]
  staticTypes := #[]
  resolved := Array.replicate 37 none
  statics := none }

def pool7 : Array CpInfo := pool [(1, .methodref 2 3), (0, .class_ 4), (0, .nameAndType 5 6), (0, u "java/lang/Object"), (0, u "<init>"), (0, u "()V"), (2, .fieldref 10 11), (0, .class_ 12), (0, .nameAndType 13 14), (0, u "java/lang/String"), (0, u "value"), (0, u "[B"), (0, .fieldref 10 16), (0, .nameAndType 17 18), (0, u "coder"), (0, u "B"), (2, u "hash"), (0, u "I"), (2, u "hashIsZero"), (0, u "Z"), (0, .methodref 10 28), (0, .nameAndType 5 29), (0, u "([CIILjava/lang/Void;)V"), (8, .fieldref 10 39), (0, .nameAndType 40 26), (0, u "COMPACT_STRINGS"), (1, .class_ 44), (1, u "java/lang/StringUTF16"), (0, u "compress"), (1, .methodref 42 48), (0, .nameAndType 49 50), (0, u "coderFromArrayLen"), (0, u "([BI)B"), (3, .methodref 55 56), (0, .class_ 57), (0, .nameAndType 58 59), (0, u "java/util/Arrays"), (0, u "copyOfRange"), (0, u "([BII)[B"), (47, .class_ 109), (1, u "java/lang/StringLatin1"), (32, u "()Z"), (34, .methodref 42 178), (0, .nameAndType 45 179), (0, u "([CII)[B"), (31, u "([BB)V"), (122, u "()I"), (0, .methodref 10 336), (0, .nameAndType 17 337), (0, u "()B"), (2, u "()[B"), (22, u "([BI)C"), (12, u "([BI[BII)I"), (14, u "(II)V"), (35, u "(I)C"), (61, .methodref 10 490), (0, .nameAndType 5 491), (0, u "(Ljava/lang/AbstractStringBuilder;Ljava/lang/Void;)V"), (0, .methodref 10 493), (0, .nameAndType 494 142), (0, u "isLatin1"), (0, .methodref 107 496), (0, .nameAndType 497 363), (0, u "charAt"), (3, u "checkIndex"), (3, .methodref 10 506), (0, .nameAndType 507 334), (0, u "length"), (5, u "checkFromToIndex"), (7, .methodref 10 522), (0, .nameAndType 523 524), (0, u "checkBoundsBeginEnd"), (0, u "(III)V"), (24, .methodref 550 506), (0, .class_ 551), (0, u "java/lang/AbstractStringBuilder"), (0, .methodref 550 553), (0, .nameAndType 554 340), (0, u "getValue"), (4, .class_ 561), (1, u "jdk/internal/util/ArraysSupport"), (0, u "mismatch"), (12, .class_ 576), (0, u "java/lang/CharSequence"), (22, u "CASE_INSENSITIVE_ORDER"), (0, u "Ljava/util/Comparator;"), (6, .methodref 559 608), (0, .nameAndType 562 376), (15, .methodref 10 625), (0, .nameAndType 626 627), (0, u "startsWith"), (0, u "(Ljava/lang/String;I)Z"), (5, .methodref 10 634), (0, .nameAndType 635 636), (0, u "indexOf"), (0, u "(II)I"), (0, .methodref 107 638), (0, .nameAndType 635 639), (0, u "([BIII)I"), (43, u "substring"), (0, u "(II)Ljava/lang/String;"), (0, .methodref 107 686), (0, .nameAndType 687 688), (0, u "newString"), (0, u "([BII)Ljava/lang/String;"), (3, u "isEmpty"), (72, u "(I)I"), (244, u "([C)V"), (36, .methodref 550 493), (5, .fieldref 1054 1055), (0, .class_ 1056), (0, .nameAndType 1057 1058), (0, u "jdk/internal/util/Preconditions"), (0, u "SIOOBE_FORMATTER"), (0, u "Ljava/util/function/BiFunction;"), (0, .methodref 1054 1060), (0, .nameAndType 501 1061), (0, u "(IILjava/util/function/BiFunction;)I"), (0, .methodref 1054 1063), (0, .nameAndType 513 1064), (0, u "(IIILjava/util/function/BiFunction;)I"), (36, u "serialPersistentFields"), (0, u "[Ljava/io/ObjectStreamField;"), (0, .class_ 1104), (0, u "java/lang/String$CaseInsensitiveComparator"), (1, .class_ 1107), (0, u "java/io/Serializable"), (0, .class_ 1109), (0, u "java/lang/Comparable"), (0, .class_ 1111), (0, u "java/lang/constant/Constable"), (0, .class_ 1113), (0, u "java/lang/constant/ConstantDesc"), (2, u "serialVersionUID"), (0, u "J"), (3, u "REPL"), (0, u "C"), (2, u "LATIN1"), (1, u "UTF16"), (105, u "(Ljava/lang/StringBuilder;)V"), (23, u "(Ljava/lang/String;)Z")] 193

def k7m0 : Method := { name := "<init>", desc := "()V", sig := { parameters := [], returnType := none }, accessFlags := 1, code := none }
def k7c1 : Code := { maxStack := 5, maxLocals := 2, code := jdk_42_method_3_code, exceptionTable := #[], attributes := #[] }
def k7m1 : Method := { name := "<init>", desc := "([C)V", sig := { parameters := [(.array .char)], returnType := none }, accessFlags := 1, code := some k7c1 }
def k7c2 : Code := { maxStack := 3, maxLocals := 2, code := jdk_42_method_53_code, exceptionTable := #[], attributes := #[] }
def k7m2 : Method := { name := "<init>", desc := "(Ljava/lang/StringBuilder;)V", sig := { parameters := [(.object "java/lang/StringBuilder")], returnType := none }, accessFlags := 1, code := some k7c2 }
def k7c3 : Code := { maxStack := 2, maxLocals := 1, code := jdk_42_method_54_code, exceptionTable := #[], attributes := #[] }
def k7m3 : Method := { name := "length", desc := "()I", sig := { parameters := [], returnType := some .int }, accessFlags := 1, code := some k7c3 }
def k7c4 : Code := { maxStack := 1, maxLocals := 1, code := jdk_42_method_55_code, exceptionTable := #[], attributes := #[] }
def k7m4 : Method := { name := "isEmpty", desc := "()Z", sig := { parameters := [], returnType := some .boolean }, accessFlags := 1, code := some k7c4 }
def k7c5 : Code := { maxStack := 2, maxLocals := 2, code := jdk_42_method_56_code, exceptionTable := #[], attributes := #[] }
def k7m5 : Method := { name := "charAt", desc := "(I)C", sig := { parameters := [.int], returnType := some .char }, accessFlags := 1, code := some k7c5 }
def k7c6 : Code := { maxStack := 5, maxLocals := 8, code := jdk_42_method_75_code, exceptionTable := #[], attributes := #[] }
def k7m6 : Method := { name := "startsWith", desc := "(Ljava/lang/String;I)Z", sig := { parameters := [(.object "java/lang/String"), .int], returnType := some .boolean }, accessFlags := 1, code := some k7c6 }
def k7c7 : Code := { maxStack := 3, maxLocals := 2, code := jdk_42_method_76_code, exceptionTable := #[], attributes := #[] }
def k7m7 : Method := { name := "startsWith", desc := "(Ljava/lang/String;)Z", sig := { parameters := [(.object "java/lang/String")], returnType := some .boolean }, accessFlags := 1, code := some k7c7 }
def k7c8 : Code := { maxStack := 3, maxLocals := 2, code := jdk_42_method_79_code, exceptionTable := #[], attributes := #[] }
def k7m8 : Method := { name := "indexOf", desc := "(I)I", sig := { parameters := [.int], returnType := some .int }, accessFlags := 1, code := some k7c8 }
def k7c9 : Code := { maxStack := 4, maxLocals := 3, code := jdk_42_method_80_code, exceptionTable := #[], attributes := #[] }
def k7m9 : Method := { name := "indexOf", desc := "(II)I", sig := { parameters := [.int, .int], returnType := some .int }, accessFlags := 1, code := some k7c9 }
def k7c10 : Code := { maxStack := 3, maxLocals := 5, code := jdk_42_method_92_code, exceptionTable := #[], attributes := #[] }
def k7m10 : Method := { name := "substring", desc := "(II)Ljava/lang/String;", sig := { parameters := [.int, .int], returnType := some (.object "java/lang/String") }, accessFlags := 1, code := some k7c10 }
def k7c11 : Code := { maxStack := 4, maxLocals := 6, code := jdk_42_method_149_code, exceptionTable := #[], attributes := #[] }
def k7m11 : Method := { name := "<init>", desc := "([CIILjava/lang/Void;)V", sig := { parameters := [(.array .char), .int, .int, (.object "java/lang/Void")], returnType := none }, accessFlags := 2, code := some k7c11 }
def k7c12 : Code := { maxStack := 5, maxLocals := 5, code := jdk_42_method_150_code, exceptionTable := #[], attributes := #[] }
def k7m12 : Method := { name := "<init>", desc := "(Ljava/lang/AbstractStringBuilder;Ljava/lang/Void;)V", sig := { parameters := [(.object "java/lang/AbstractStringBuilder"), (.object "java/lang/Void")], returnType := none }, accessFlags := 0, code := some k7c12 }
def k7c13 : Code := { maxStack := 2, maxLocals := 3, code := jdk_42_method_151_code, exceptionTable := #[], attributes := #[] }
def k7m13 : Method := { name := "<init>", desc := "([BB)V", sig := { parameters := [(.array .byte), .byte], returnType := none }, accessFlags := 0, code := some k7c13 }
def k7c14 : Code := { maxStack := 1, maxLocals := 1, code := jdk_42_method_152_code, exceptionTable := #[], attributes := #[] }
def k7m14 : Method := { name := "coder", desc := "()B", sig := { parameters := [], returnType := some .byte }, accessFlags := 0, code := some k7c14 }
def k7c15 : Code := { maxStack := 1, maxLocals := 1, code := jdk_42_method_154_code, exceptionTable := #[], attributes := #[] }
def k7m15 : Method := { name := "isLatin1", desc := "()Z", sig := { parameters := [], returnType := some .boolean }, accessFlags := 0, code := some k7c15 }
def k7c16 : Code := { maxStack := 3, maxLocals := 2, code := jdk_42_method_155_code, exceptionTable := #[], attributes := #[] }
def k7m16 : Method := { name := "checkIndex", desc := "(II)V", sig := { parameters := [.int, .int], returnType := none }, accessFlags := 8, code := some k7c16 }
def k7c17 : Code := { maxStack := 4, maxLocals := 3, code := jdk_42_method_158_code, exceptionTable := #[], attributes := #[] }
def k7m17 : Method := { name := "checkBoundsBeginEnd", desc := "(III)V", sig := { parameters := [.int, .int, .int], returnType := none }, accessFlags := 8, code := some k7c17 }
/-- java/lang/String -/
def k7 : Class := { plain "java/lang/String" (some 0) with
  accessFlags := 49
  interfaces := #[2, 3, 4, 5, 6]
  cf := some (fileOf pool7 10 #[.nestMembers #[1103]] #[{ accessFlags := 1, nameIndex := 5, descriptorIndex := 6, attributes := #[] }, { accessFlags := 1, nameIndex := 5, descriptorIndex := 1010, attributes := #[] }, { accessFlags := 1, nameIndex := 5, descriptorIndex := 1233, attributes := #[] }, { accessFlags := 1, nameIndex := 507, descriptorIndex := 334, attributes := #[] }, { accessFlags := 1, nameIndex := 692, descriptorIndex := 142, attributes := #[] }, { accessFlags := 1, nameIndex := 497, descriptorIndex := 427, attributes := #[] }, { accessFlags := 1, nameIndex := 626, descriptorIndex := 627, attributes := #[] }, { accessFlags := 1, nameIndex := 626, descriptorIndex := 1257, attributes := #[] }, { accessFlags := 1, nameIndex := 635, descriptorIndex := 765, attributes := #[] }, { accessFlags := 1, nameIndex := 635, descriptorIndex := 636, attributes := #[] }, { accessFlags := 1, nameIndex := 683, descriptorIndex := 684, attributes := #[] }, { accessFlags := 2, nameIndex := 5, descriptorIndex := 29, attributes := #[] }, { accessFlags := 0, nameIndex := 5, descriptorIndex := 491, attributes := #[] }, { accessFlags := 0, nameIndex := 5, descriptorIndex := 211, attributes := #[] }, { accessFlags := 0, nameIndex := 17, descriptorIndex := 337, attributes := #[] }, { accessFlags := 0, nameIndex := 494, descriptorIndex := 142, attributes := #[] }, { accessFlags := 8, nameIndex := 501, descriptorIndex := 391, attributes := #[] }, { accessFlags := 8, nameIndex := 523, descriptorIndex := 524, attributes := #[] }] 49 2 #[1106, 1108, 575, 1110, 1112] #[{ accessFlags := 18, nameIndex := 13, descriptorIndex := 14, attributes := #[] }, { accessFlags := 18, nameIndex := 17, descriptorIndex := 18, attributes := #[] }, { accessFlags := 2, nameIndex := 21, descriptorIndex := 22, attributes := #[] }, { accessFlags := 2, nameIndex := 25, descriptorIndex := 26, attributes := #[] }, { accessFlags := 26, nameIndex := 1116, descriptorIndex := 1117, attributes := #[] }, { accessFlags := 24, nameIndex := 40, descriptorIndex := 26, attributes := #[] }, { accessFlags := 26, nameIndex := 1101, descriptorIndex := 1102, attributes := #[] }, { accessFlags := 26, nameIndex := 1121, descriptorIndex := 1122, attributes := #[] }, { accessFlags := 25, nameIndex := 599, descriptorIndex := 600, attributes := #[] }, { accessFlags := 24, nameIndex := 1125, descriptorIndex := 18, attributes := #[] }, { accessFlags := 24, nameIndex := 1127, descriptorIndex := 18, attributes := #[] }])
  fields := #[{ name := "value", type := (.array .byte), accessFlags := 18, slot := 0, constantValue := 0 }, { name := "coder", type := .byte, accessFlags := 18, slot := 1, constantValue := 0 }, { name := "hash", type := .int, accessFlags := 2, slot := 2, constantValue := 0 }, { name := "hashIsZero", type := .boolean, accessFlags := 2, slot := 3, constantValue := 0 }, { name := "serialVersionUID", type := .long, accessFlags := 26, slot := 0, constantValue := 0 }, { name := "COMPACT_STRINGS", type := .boolean, accessFlags := 24, slot := 1, constantValue := 0 }, { name := "serialPersistentFields", type := (.array (.object "java/io/ObjectStreamField")), accessFlags := 26, slot := 2, constantValue := 0 }, { name := "REPL", type := .char, accessFlags := 26, slot := 3, constantValue := 0 }, { name := "CASE_INSENSITIVE_ORDER", type := (.object "java/util/Comparator"), accessFlags := 25, slot := 4, constantValue := 0 }, { name := "LATIN1", type := .byte, accessFlags := 24, slot := 5, constantValue := 0 }, { name := "UTF16", type := .byte, accessFlags := 24, slot := 6, constantValue := 0 }]
  methods := #[k7m0, k7m1, k7m2, k7m3, k7m4, k7m5, k7m6, k7m7, k7m8, k7m9, k7m10, k7m11, k7m12, k7m13, k7m14, k7m15, k7m16, k7m17]
  instanceTypes := #[(.array .byte), .byte, .int, .boolean]
  staticTypes := #[.long, .boolean, (.array (.object "java/io/ObjectStreamField")), .char, (.object "java/util/Comparator"), .byte, .byte]
  resolved := Array.replicate 1451 none
  statics := some 0 }

def pool8 : Array CpInfo := pool [(6, .class_ 8), (1, u "java/lang/Object"), (0, u "<init>"), (0, u "()V"), (1, .class_ 14), (1, u "java/lang/StringUTF16"), (31, u "$assertionsDisabled"), (0, u "Z"), (13, u "HI_BYTE_SHIFT"), (0, u "I"), (2, u "LO_BYTE_SHIFT"), (49, .methodref 12 116), (0, .nameAndType 117 118), (0, u "compress"), (0, u "([CI[BII)I"), (3, u "([CII)[B"), (138, u "coderFromArrayLen"), (0, u "([BI)B"), (106, .class_ 371), (1, u "java/lang/StringUTF16$LinesSpliterator"), (58, u "MAX_LENGTH"), (196, .class_ 628), (0, u "java/lang/StringUTF16$CodePointsSpliterator"), (0, .class_ 630), (0, u "java/lang/StringUTF16$CharsSpliterator")] 4

def k8m0 : Method := { name := "<init>", desc := "()V", sig := { parameters := [], returnType := none }, accessFlags := 0, code := none }
def k8c1 : Code := { maxStack := 2, maxLocals := 2, code := jdk_52_method_15_code, exceptionTable := #[], attributes := #[] }
def k8m1 : Method := { name := "coderFromArrayLen", desc := "([BI)B", sig := { parameters := [(.array .byte), .int], returnType := some .byte }, accessFlags := 8, code := some k8c1 }
def k8c2 : Code := { maxStack := 5, maxLocals := 6, code := jdk_52_method_16_code, exceptionTable := #[], attributes := #[] }
def k8m2 : Method := { name := "compress", desc := "([CII)[B", sig := { parameters := [(.array .char), .int, .int], returnType := some (.array .byte) }, accessFlags := 9, code := some k8c2 }
def k8c3 : Code := { maxStack := 3, maxLocals := 7, code := jdk_52_method_21_code, exceptionTable := #[], attributes := #[] }
def k8m3 : Method := { name := "compress", desc := "([CI[BII)I", sig := { parameters := [(.array .char), .int, (.array .byte), .int, .int], returnType := some .int }, accessFlags := 9, code := some k8c3 }
/-- java/lang/StringUTF16 -/
def k8 : Class := { plain "java/lang/StringUTF16" (some 0) with
  accessFlags := 48
  interfaces := #[]
  cf := some (fileOf pool8 12 #[.nestMembers #[627, 629, 369]] #[{ accessFlags := 0, nameIndex := 9, descriptorIndex := 10, attributes := #[] }, { accessFlags := 8, nameIndex := 261, descriptorIndex := 262, attributes := #[] }, { accessFlags := 9, nameIndex := 117, descriptorIndex := 122, attributes := #[] }, { accessFlags := 9, nameIndex := 117, descriptorIndex := 118, attributes := #[] }] 48 6 #[] #[{ accessFlags := 26, nameIndex := 61, descriptorIndex := 62, attributes := #[] }, { accessFlags := 26, nameIndex := 65, descriptorIndex := 62, attributes := #[] }, { accessFlags := 24, nameIndex := 430, descriptorIndex := 62, attributes := #[] }, { accessFlags := 4120, nameIndex := 46, descriptorIndex := 47, attributes := #[] }])
  fields := #[{ name := "HI_BYTE_SHIFT", type := .int, accessFlags := 26, slot := 0, constantValue := 0 }, { name := "LO_BYTE_SHIFT", type := .int, accessFlags := 26, slot := 1, constantValue := 0 }, { name := "MAX_LENGTH", type := .int, accessFlags := 24, slot := 2, constantValue := 0 }, { name := "$assertionsDisabled", type := .boolean, accessFlags := 4120, slot := 3, constantValue := 0 }]
  methods := #[k8m0, k8m1, k8m2, k8m3]
  instanceTypes := #[]
  staticTypes := #[.int, .int, .int, .boolean]
  resolved := Array.replicate 635 none
  statics := none }

def pool9 : Array CpInfo := pool [(1, .methodref 2 3), (0, .class_ 4), (0, .nameAndType 5 6), (0, u "java/lang/Object"), (0, u "<init>"), (0, u "()V"), (0, .class_ 8), (0, u "java/lang/Record")] 13

def k9c0 : Code := { maxStack := 1, maxLocals := 1, code := jdk_30_method_1_code, exceptionTable := #[], attributes := #[] }
def k9m0 : Method := { name := "<init>", desc := "()V", sig := { parameters := [], returnType := none }, accessFlags := 4, code := some k9c0 }
/-- java/lang/Record -/
def k9 : Class := { plain "java/lang/Record" (some 0) with
  accessFlags := 1057
  interfaces := #[]
  cf := some (fileOf pool9 7 #[] #[{ accessFlags := 4, nameIndex := 5, descriptorIndex := 6, attributes := #[] }] 1057 2 #[] #[])
  fields := #[]
  methods := #[k9m0]
  instanceTypes := #[]
  staticTypes := #[]
  resolved := Array.replicate 22 none
  statics := none }

def pool10 : Array CpInfo := pool [(1, .methodref 2 3), (0, .class_ 4), (0, .nameAndType 5 6), (0, u "java/lang/Record"), (0, u "<init>"), (0, u "()V"), (0, .string 8), (0, u "value"), (0, .methodref 10 11), (0, .class_ 12), (0, .nameAndType 13 14), (0, u "java/util/Objects"), (0, u "requireNonNull"), (0, u "(Ljava/lang/Object;Ljava/lang/String;)Ljava/lang/Object;"), (0, .methodref 16 17), (0, .class_ 18), (0, .nameAndType 19 20), (0, u "java/lang/String"), (0, u "isEmpty"), (0, u "()Z"), (5, .nameAndType 5 27), (0, u "(Ljava/lang/String;)V"), (0, .methodref 16 29), (0, .nameAndType 30 31), (0, u "length"), (0, u "()I"), (0, .class_ 33), (0, u "com/example/gated_claim/gatedclaim/idempotency/IdempotencyKey"), (2, .methodref 16 37), (0, .nameAndType 38 39), (0, u "charAt"), (0, u "(I)C"), (4, .fieldref 32 45), (0, .nameAndType 8 46), (0, u "Ljava/lang/String;"), (0, .string 48), (0, u "fieldValue"), (0, .methodref 32 50), (0, .nameAndType 51 52), (0, u "stripOptionalWhitespace"), (0, u "(Ljava/lang/String;)Ljava/lang/String;"), (0, .string 54), (0, u "\""), (0, .methodref 16 56), (0, .nameAndType 57 58), (0, u "startsWith"), (0, u "(Ljava/lang/String;)Z"), (0, .methodref 32 60), (0, .nameAndType 61 52), (0, u "unquote"), (0, .methodref 32 26), (0, .methodref 16 64), (0, .nameAndType 65 66), (0, u "indexOf"), (0, u "(I)I"), (2, .class_ 70), (0, u "java/lang/StringBuilder"), (0, .methodref 69 72), (0, .nameAndType 5 73), (0, u "(I)V"), (2, .methodref 69 77), (0, .nameAndType 78 79), (0, u "toString"), (0, u "()Ljava/lang/String;"), (2, .methodref 69 83), (0, .nameAndType 84 85), (0, u "append"), (0, u "(C)Ljava/lang/StringBuilder;"), (2, .methodref 32 89), (0, .nameAndType 90 91), (0, u "isOptionalWhitespace"), (0, u "(C)Z"), (0, .methodref 16 93), (0, .nameAndType 94 95), (0, u "substring"), (0, u "(II)Ljava/lang/String;"), (11, u "MAX_LENGTH"), (0, u "I"), (6, u "parse"), (0, u "(Ljava/lang/String;)Lcom/example/gated_claim/gatedclaim/idempotency/IdempotencyKey;")] 27

def k10c0 : Code := { maxStack := 4, maxLocals := 4, code := prog_2_method_1_code, exceptionTable := #[], attributes := #[] }
def k10m0 : Method := { name := "<init>", desc := "(Ljava/lang/String;)V", sig := { parameters := [(.object "java/lang/String")], returnType := none }, accessFlags := 1, code := some k10c0 }
def k10c1 : Code := { maxStack := 3, maxLocals := 2, code := prog_2_method_2_code, exceptionTable := #[], attributes := #[] }
def k10m1 : Method := { name := "parse", desc := "(Ljava/lang/String;)Lcom/example/gated_claim/gatedclaim/idempotency/IdempotencyKey;", sig := { parameters := [(.object "java/lang/String")], returnType := some (.object "com/example/gated_claim/gatedclaim/idempotency/IdempotencyKey") }, accessFlags := 9, code := some k10c1 }
def k10c2 : Code := { maxStack := 3, maxLocals := 4, code := prog_2_method_3_code, exceptionTable := #[], attributes := #[] }
def k10m2 : Method := { name := "unquote", desc := "(Ljava/lang/String;)Ljava/lang/String;", sig := { parameters := [(.object "java/lang/String")], returnType := some (.object "java/lang/String") }, accessFlags := 10, code := some k10c2 }
def k10c3 : Code := { maxStack := 3, maxLocals := 3, code := prog_2_method_4_code, exceptionTable := #[], attributes := #[] }
def k10m3 : Method := { name := "stripOptionalWhitespace", desc := "(Ljava/lang/String;)Ljava/lang/String;", sig := { parameters := [(.object "java/lang/String")], returnType := some (.object "java/lang/String") }, accessFlags := 10, code := some k10c3 }
def k10c4 : Code := { maxStack := 2, maxLocals := 1, code := prog_2_method_5_code, exceptionTable := #[], attributes := #[] }
def k10m4 : Method := { name := "isOptionalWhitespace", desc := "(C)Z", sig := { parameters := [.char], returnType := some .boolean }, accessFlags := 10, code := some k10c4 }
def k10c5 : Code := { maxStack := 1, maxLocals := 1, code := prog_2_method_9_code, exceptionTable := #[], attributes := #[] }
def k10m5 : Method := { name := "value", desc := "()Ljava/lang/String;", sig := { parameters := [], returnType := some (.object "java/lang/String") }, accessFlags := 1, code := some k10c5 }
/-- com/example/gated_claim/gatedclaim/idempotency/IdempotencyKey -/
def k10 : Class := { plain "com/example/gated_claim/gatedclaim/idempotency/IdempotencyKey" (some 9) with
  accessFlags := 49
  interfaces := #[]
  cf := some (fileOf pool10 32 #[] #[{ accessFlags := 1, nameIndex := 5, descriptorIndex := 27, attributes := #[] }, { accessFlags := 9, nameIndex := 115, descriptorIndex := 116, attributes := #[] }, { accessFlags := 10, nameIndex := 61, descriptorIndex := 52, attributes := #[] }, { accessFlags := 10, nameIndex := 51, descriptorIndex := 52, attributes := #[] }, { accessFlags := 10, nameIndex := 90, descriptorIndex := 91, attributes := #[] }, { accessFlags := 1, nameIndex := 8, descriptorIndex := 79, attributes := #[] }] 49 2 #[] #[{ accessFlags := 18, nameIndex := 8, descriptorIndex := 46, attributes := #[] }, { accessFlags := 25, nameIndex := 107, descriptorIndex := 108, attributes := #[] }])
  fields := #[{ name := "value", type := (.object "java/lang/String"), accessFlags := 18, slot := 0, constantValue := 0 }, { name := "MAX_LENGTH", type := .int, accessFlags := 25, slot := 0, constantValue := 0 }]
  methods := #[k10m0, k10m1, k10m2, k10m3, k10m4, k10m5]
  instanceTypes := #[(.object "java/lang/String")]
  staticTypes := #[.int]
  resolved := Array.replicate 144 none
  statics := none }

def pool11 : Array CpInfo := pool [(2, .class_ 4), (1, u "java/lang/Object"), (0, u "<init>"), (0, u "()V"), (35, .class_ 44), (1, u "java/util/Objects"), (0, u "requireNonNull"), (48, u "(Ljava/lang/Object;Ljava/lang/String;)Ljava/lang/Object;")] 89

def k11m0 : Method := { name := "<init>", desc := "()V", sig := { parameters := [], returnType := none }, accessFlags := 2, code := none }
def k11c1 : Code := { maxStack := 3, maxLocals := 2, code := jdk_31_method_11_code, exceptionTable := #[], attributes := #[] }
def k11m1 : Method := { name := "requireNonNull", desc := "(Ljava/lang/Object;Ljava/lang/String;)Ljava/lang/Object;", sig := { parameters := [(.object "java/lang/Object"), (.object "java/lang/String")], returnType := some (.object "java/lang/Object") }, accessFlags := 9, code := some k11c1 }
/-- java/util/Objects -/
def k11 : Class := { plain "java/util/Objects" (some 0) with
  accessFlags := 49
  interfaces := #[]
  cf := some (fileOf pool11 42 #[] #[{ accessFlags := 2, nameIndex := 5, descriptorIndex := 6, attributes := #[] }, { accessFlags := 9, nameIndex := 45, descriptorIndex := 94, attributes := #[] }] 49 2 #[] #[])
  fields := #[]
  methods := #[k11m0, k11m1]
  instanceTypes := #[]
  staticTypes := #[]
  resolved := Array.replicate 184 none
  statics := none }

def pool12 : Array CpInfo := pool [(1, .class_ 2), (0, u "java/lang/String"), (1, .class_ 6), (1, u "java/lang/Object"), (0, u "<init>"), (0, u "()V"), (0, .methodref 1 10), (0, .nameAndType 11 12), (0, u "checkIndex"), (0, u "(II)V"), (1, .class_ 16), (1, u "java/lang/StringLatin1"), (21, .methodref 39 40), (0, .class_ 41), (0, .nameAndType 42 43), (0, u "java/lang/Math"), (0, u "min"), (0, u "(II)I"), (9, u "([BI)C"), (34, .methodref 14 89), (0, .nameAndType 90 91), (0, u "canEncode"), (0, u "(I)Z"), (0, .methodref 39 93), (0, .nameAndType 94 43), (0, u "max"), (0, .methodref 14 96), (0, .nameAndType 97 98), (0, u "indexOfChar"), (0, u "([BIII)I"), (2, u "indexOf"), (3, u "(C)Z"), (6, .methodref 1 113), (0, .nameAndType 7 114), (0, u "([BB)V"), (6, u "$assertionsDisabled"), (0, u "Z"), (8, .class_ 133), (1, u "java/util/Arrays"), (62, u "newString"), (0, u "([BII)Ljava/lang/String;"), (23, .class_ 223), (1, u "java/lang/StringLatin1$LinesSpliterator"), (8, .methodref 131 233), (0, .nameAndType 234 235), (0, u "copyOfRange"), (0, u "([BII)[B"), (16, u "charAt"), (137, .class_ 391), (0, u "java/lang/StringLatin1$CharsSpliterator")] 3

def k12m0 : Method := { name := "<init>", desc := "()V", sig := { parameters := [], returnType := none }, accessFlags := 0, code := none }
def k12c1 : Code := { maxStack := 2, maxLocals := 2, code := jdk_43_method_2_code, exceptionTable := #[], attributes := #[] }
def k12m1 : Method := { name := "charAt", desc := "([BI)C", sig := { parameters := [(.array .byte), .int], returnType := some .char }, accessFlags := 9, code := some k12c1 }
def k12c2 : Code := { maxStack := 2, maxLocals := 1, code := jdk_43_method_3_code, exceptionTable := #[], attributes := #[] }
def k12m2 : Method := { name := "canEncode", desc := "(C)Z", sig := { parameters := [.char], returnType := some .boolean }, accessFlags := 9, code := some k12c2 }
def k12c3 : Code := { maxStack := 2, maxLocals := 1, code := jdk_43_method_4_code, exceptionTable := #[], attributes := #[] }
def k12m3 : Method := { name := "canEncode", desc := "(I)Z", sig := { parameters := [.int], returnType := some .boolean }, accessFlags := 9, code := some k12c3 }
def k12c4 : Code := { maxStack := 4, maxLocals := 4, code := jdk_43_method_22_code, exceptionTable := #[], attributes := #[] }
def k12m4 : Method := { name := "indexOf", desc := "([BIII)I", sig := { parameters := [(.array .byte), .int, .int, .int], returnType := some .int }, accessFlags := 9, code := some k12c4 }
def k12c5 : Code := { maxStack := 2, maxLocals := 6, code := jdk_43_method_23_code, exceptionTable := #[], attributes := #[] }
def k12m5 : Method := { name := "indexOfChar", desc := "([BIII)I", sig := { parameters := [(.array .byte), .int, .int, .int], returnType := some .int }, accessFlags := 10, code := some k12c5 }
def k12c6 : Code := { maxStack := 6, maxLocals := 3, code := jdk_43_method_47_code, exceptionTable := #[], attributes := #[] }
def k12m6 : Method := { name := "newString", desc := "([BII)Ljava/lang/String;", sig := { parameters := [(.array .byte), .int, .int], returnType := some (.object "java/lang/String") }, accessFlags := 9, code := some k12c6 }
/-- java/lang/StringLatin1 -/
def k12 : Class := { plain "java/lang/StringLatin1" (some 0) with
  accessFlags := 48
  interfaces := #[]
  cf := some (fileOf pool12 14 #[.nestMembers #[390, 221]] #[{ accessFlags := 0, nameIndex := 7, descriptorIndex := 8, attributes := #[] }, { accessFlags := 9, nameIndex := 252, descriptorIndex := 53, attributes := #[] }, { accessFlags := 9, nameIndex := 90, descriptorIndex := 105, attributes := #[] }, { accessFlags := 9, nameIndex := 90, descriptorIndex := 91, attributes := #[] }, { accessFlags := 9, nameIndex := 101, descriptorIndex := 98, attributes := #[] }, { accessFlags := 10, nameIndex := 97, descriptorIndex := 98, attributes := #[] }, { accessFlags := 9, nameIndex := 196, descriptorIndex := 197, attributes := #[] }] 48 4 #[] #[{ accessFlags := 4120, nameIndex := 121, descriptorIndex := 122, attributes := #[] }])
  fields := #[{ name := "$assertionsDisabled", type := .boolean, accessFlags := 4120, slot := 0, constantValue := 0 }]
  methods := #[k12m0, k12m1, k12m2, k12m3, k12m4, k12m5, k12m6]
  instanceTypes := #[]
  staticTypes := #[.boolean]
  resolved := Array.replicate 395 none
  statics := none }

def pool13 : Array CpInfo := pool [(2, .class_ 4), (1, u "java/lang/Object"), (0, u "<init>"), (0, u "()V"), (17, .class_ 26), (1, u "jdk/internal/util/Preconditions"), (6, u "checkIndex"), (13, u "checkFromToIndex"), (7, .class_ 56), (0, u "jdk/internal/util/Preconditions$4"), (57, .class_ 115), (0, u "jdk/internal/util/Preconditions$1"), (7, u "SIOOBE_FORMATTER"), (0, u "Ljava/util/function/BiFunction;"), (0, .class_ 126), (0, u "jdk/internal/util/Preconditions$2"), (3, u "AIOOBE_FORMATTER"), (0, .class_ 132), (0, u "jdk/internal/util/Preconditions$3"), (3, u "IOOBE_FORMATTER"), (41, u "(IILjava/util/function/BiFunction;)I"), (4, u "(IIILjava/util/function/BiFunction;)I")] 10

def k13m0 : Method := { name := "<init>", desc := "()V", sig := { parameters := [], returnType := none }, accessFlags := 1, code := none }
def k13c1 : Code := { maxStack := 3, maxLocals := 3, code := jdk_41_method_11_code, exceptionTable := #[], attributes := #[] }
def k13m1 : Method := { name := "checkIndex", desc := "(IILjava/util/function/BiFunction;)I", sig := { parameters := [.int, .int, (.object "java/util/function/BiFunction")], returnType := some .int }, accessFlags := 9, code := some k13c1 }
def k13c2 : Code := { maxStack := 4, maxLocals := 4, code := jdk_41_method_12_code, exceptionTable := #[], attributes := #[] }
def k13m2 : Method := { name := "checkFromToIndex", desc := "(IIILjava/util/function/BiFunction;)I", sig := { parameters := [.int, .int, .int, (.object "java/util/function/BiFunction")], returnType := some .int }, accessFlags := 9, code := some k13c2 }
/-- jdk/internal/util/Preconditions -/
def k13 : Class := { plain "jdk/internal/util/Preconditions" (some 0) with
  accessFlags := 33
  interfaces := #[]
  cf := some (fileOf pool13 24 #[.nestMembers #[55, 131, 125, 114]] #[{ accessFlags := 1, nameIndex := 5, descriptorIndex := 6, attributes := #[] }, { accessFlags := 9, nameIndex := 33, descriptorIndex := 178, attributes := #[] }, { accessFlags := 9, nameIndex := 47, descriptorIndex := 183, attributes := #[] }] 33 2 #[] #[{ accessFlags := 25, nameIndex := 123, descriptorIndex := 124, attributes := #[] }, { accessFlags := 25, nameIndex := 130, descriptorIndex := 124, attributes := #[] }, { accessFlags := 25, nameIndex := 136, descriptorIndex := 124, attributes := #[] }])
  fields := #[{ name := "SIOOBE_FORMATTER", type := (.object "java/util/function/BiFunction"), accessFlags := 25, slot := 0, constantValue := 0 }, { name := "AIOOBE_FORMATTER", type := (.object "java/util/function/BiFunction"), accessFlags := 25, slot := 1, constantValue := 0 }, { name := "IOOBE_FORMATTER", type := (.object "java/util/function/BiFunction"), accessFlags := 25, slot := 2, constantValue := 0 }]
  methods := #[k13m0, k13m1, k13m2]
  instanceTypes := #[]
  staticTypes := #[(.object "java/util/function/BiFunction"), (.object "java/util/function/BiFunction"), (.object "java/util/function/BiFunction")]
  resolved := Array.replicate 194 none
  statics := some 1 }

def pool14 : Array CpInfo := pool [(2, .class_ 4), (1, u "java/lang/Object"), (0, u "<init>"), (0, u "()V"), (7, .class_ 16), (1, u "java/util/Arrays"), (57, .class_ 76), (1, u "java/util/Arrays$NaturalOrder"), (36, .class_ 115), (1, u "java/util/Arrays$LegacyMergeSort"), (1, u "Z"), (21, u "copyOfRange"), (10, .methodref 151 152), (0, .class_ 153), (0, .nameAndType 154 155), (0, u "java/lang/System"), (0, u "arraycopy"), (0, u "(Ljava/lang/Object;ILjava/lang/Object;II)V"), (148, .methodref 305 306), (0, .class_ 307), (0, .nameAndType 308 309), (0, u "java/lang/Math"), (0, u "min"), (0, u "(II)I"), (29, .methodref 14 340), (0, .nameAndType 341 342), (0, u "copyOfRangeByte"), (0, u "([BII)[B"), (0, .methodref 14 344), (0, .nameAndType 345 346), (0, u "checkLength"), (0, u "(II)V"), (28, .class_ 376), (0, u "java/util/Arrays$ArrayList"), (68, u "$assertionsDisabled"), (269, u "MIN_ARRAY_SORT_GRAN"), (0, u "I"), (2, u "INSERTIONSORT_THRESHOLD"), (255, .class_ 976), (0, u "java/util/Arrays$ArrayItr")] 52

def k14m0 : Method := { name := "<init>", desc := "()V", sig := { parameters := [], returnType := none }, accessFlags := 2, code := none }
def k14c1 : Code := { maxStack := 4, maxLocals := 2, code := jdk_65_method_131_code, exceptionTable := #[], attributes := #[] }
def k14m1 : Method := { name := "checkLength", desc := "(II)V", sig := { parameters := [.int, .int], returnType := none }, accessFlags := 10, code := some k14c1 }
def k14c2 : Code := { maxStack := 3, maxLocals := 3, code := jdk_65_method_132_code, exceptionTable := #[], attributes := #[] }
def k14m2 : Method := { name := "copyOfRange", desc := "([BII)[B", sig := { parameters := [(.array .byte), .int, .int], returnType := some (.array .byte) }, accessFlags := 9, code := some k14c2 }
def k14c3 : Code := { maxStack := 6, maxLocals := 5, code := jdk_65_method_133_code, exceptionTable := #[], attributes := #[] }
def k14m3 : Method := { name := "copyOfRangeByte", desc := "([BII)[B", sig := { parameters := [(.array .byte), .int, .int], returnType := some (.array .byte) }, accessFlags := 10, code := some k14c3 }
/-- java/util/Arrays -/
def k14 : Class := { plain "java/util/Arrays" (some 0) with
  accessFlags := 49
  interfaces := #[]
  cf := some (fileOf pool14 14 #[.nestMembers #[975, 375, 113, 74]] #[{ accessFlags := 2, nameIndex := 5, descriptorIndex := 6, attributes := #[] }, { accessFlags := 10, nameIndex := 345, descriptorIndex := 346, attributes := #[] }, { accessFlags := 9, nameIndex := 139, descriptorIndex := 342, attributes := #[] }, { accessFlags := 10, nameIndex := 341, descriptorIndex := 342, attributes := #[] }] 49 2 #[] #[{ accessFlags := 26, nameIndex := 715, descriptorIndex := 716, attributes := #[] }, { accessFlags := 26, nameIndex := 719, descriptorIndex := 716, attributes := #[] }, { accessFlags := 4120, nameIndex := 445, descriptorIndex := 117, attributes := #[] }])
  fields := #[{ name := "MIN_ARRAY_SORT_GRAN", type := .int, accessFlags := 26, slot := 0, constantValue := 0 }, { name := "INSERTIONSORT_THRESHOLD", type := .int, accessFlags := 26, slot := 1, constantValue := 0 }, { name := "$assertionsDisabled", type := .boolean, accessFlags := 4120, slot := 2, constantValue := 0 }]
  methods := #[k14m0, k14m1, k14m2, k14m3]
  instanceTypes := #[]
  staticTypes := #[.int, .int, .boolean]
  resolved := Array.replicate 1029 none
  statics := none }

def pool15 : Array CpInfo := pool [(1, .class_ 2), (0, u "java/lang/Math"), (1, .class_ 6), (1, u "java/lang/Object"), (0, u "<init>"), (0, u "()V"), (89, .class_ 100), (1, u "java/lang/Math$RandomNumberGeneratorHolder"), (71, u "negativeZeroFloatBits"), (0, u "J"), (2, u "negativeZeroDoubleBits"), (21, u "max"), (2, u "min"), (43, u "$assertionsDisabled"), (0, u "Z"), (88, u "(II)I"), (2, u "twoToTheDoubleScaleDown"), (0, u "D"), (4, u "twoToTheDoubleScaleUp"), (9, u "E"), (3, u "PI"), (2, u "TAU"), (2, u "DEGREES_TO_RADIANS"), (0, u "RADIANS_TO_DEGREES")] 94

def k15m0 : Method := { name := "<init>", desc := "()V", sig := { parameters := [], returnType := none }, accessFlags := 2, code := none }
def k15c1 : Code := { maxStack := 2, maxLocals := 2, code := jdk_29_method_65_code, exceptionTable := #[], attributes := #[] }
def k15m1 : Method := { name := "max", desc := "(II)I", sig := { parameters := [.int, .int], returnType := some .int }, accessFlags := 9, code := some k15c1 }
def k15c2 : Code := { maxStack := 2, maxLocals := 2, code := jdk_29_method_69_code, exceptionTable := #[], attributes := #[] }
def k15m2 : Method := { name := "min", desc := "(II)I", sig := { parameters := [.int, .int], returnType := some .int }, accessFlags := 9, code := some k15c2 }
/-- java/lang/Math -/
def k15 : Class := { plain "java/lang/Math" (some 0) with
  accessFlags := 49
  interfaces := #[]
  cf := some (fileOf pool15 1 #[.nestMembers #[98]] #[{ accessFlags := 2, nameIndex := 7, descriptorIndex := 8, attributes := #[] }, { accessFlags := 9, nameIndex := 198, descriptorIndex := 335, attributes := #[] }, { accessFlags := 9, nameIndex := 201, descriptorIndex := 335, attributes := #[] }] 49 4 #[] #[{ accessFlags := 25, nameIndex := 354, descriptorIndex := 339, attributes := #[] }, { accessFlags := 25, nameIndex := 358, descriptorIndex := 339, attributes := #[] }, { accessFlags := 25, nameIndex := 361, descriptorIndex := 339, attributes := #[] }, { accessFlags := 26, nameIndex := 364, descriptorIndex := 339, attributes := #[] }, { accessFlags := 26, nameIndex := 365, descriptorIndex := 339, attributes := #[] }, { accessFlags := 26, nameIndex := 172, descriptorIndex := 173, attributes := #[] }, { accessFlags := 26, nameIndex := 176, descriptorIndex := 173, attributes := #[] }, { accessFlags := 8, nameIndex := 344, descriptorIndex := 339, attributes := #[] }, { accessFlags := 8, nameIndex := 338, descriptorIndex := 339, attributes := #[] }, { accessFlags := 4120, nameIndex := 245, descriptorIndex := 246, attributes := #[] }])
  fields := #[{ name := "E", type := .double, accessFlags := 25, slot := 0, constantValue := 0 }, { name := "PI", type := .double, accessFlags := 25, slot := 1, constantValue := 0 }, { name := "TAU", type := .double, accessFlags := 25, slot := 2, constantValue := 0 }, { name := "DEGREES_TO_RADIANS", type := .double, accessFlags := 26, slot := 3, constantValue := 0 }, { name := "RADIANS_TO_DEGREES", type := .double, accessFlags := 26, slot := 4, constantValue := 0 }, { name := "negativeZeroFloatBits", type := .long, accessFlags := 26, slot := 5, constantValue := 0 }, { name := "negativeZeroDoubleBits", type := .long, accessFlags := 26, slot := 6, constantValue := 0 }, { name := "twoToTheDoubleScaleUp", type := .double, accessFlags := 8, slot := 7, constantValue := 0 }, { name := "twoToTheDoubleScaleDown", type := .double, accessFlags := 8, slot := 8, constantValue := 0 }, { name := "$assertionsDisabled", type := .boolean, accessFlags := 4120, slot := 9, constantValue := 0 }]
  methods := #[k15m0, k15m1, k15m2]
  instanceTypes := #[]
  staticTypes := #[.double, .double, .double, .double, .double, .long, .long, .double, .double, .boolean]
  resolved := Array.replicate 460 none
  statics := none }

def pool16 : Array CpInfo := pool [(2, .class_ 4), (1, u "java/lang/Object"), (0, u "<init>"), (0, u "()V"), (1, .class_ 10), (1, u "java/lang/System"), (0, u "allowSecurityManager"), (0, u "I"), (16, u "cons"), (0, u "Ljava/io/Console;"), (77, .class_ 110), (1, u "java/lang/System$CallersHolder"), (43, u "initialErrStream"), (0, u "Ljava/io/PrintStream;"), (19, u "security"), (0, u "Ljava/lang/SecurityManager;"), (31, .class_ 209), (0, u "java/lang/System$1"), (7, u "props"), (0, u "Ljava/util/Properties;"), (2, u "lineSeparator"), (0, u "Ljava/lang/String;"), (96, .class_ 321), (1, u "java/lang/System$LoggerFinder"), (5, .class_ 328), (0, u "java/lang/System$Logger"), (67, u "err"), (2, u "out"), (91, u "notSupportedJnuEncoding"), (15, u "in"), (17, u "initialIn"), (0, u "Ljava/io/InputStream;"), (35, u "bootLayer"), (0, u "Ljava/lang/ModuleLayer;"), (99, .class_ 664), (0, u "java/lang/System$2"), (9, u "NEVER"), (2, u "MAYBE"), (49, u "arraycopy"), (0, u "(Ljava/lang/Object;ILjava/lang/Object;II)V"), (72, .class_ 802), (0, u "java/lang/System$Logger$Level")] 31

def k16m0 : Method := { name := "<init>", desc := "()V", sig := { parameters := [], returnType := none }, accessFlags := 2, code := none }
def k16m1 : Method := { name := "arraycopy", desc := "(Ljava/lang/Object;ILjava/lang/Object;II)V", sig := { parameters := [(.object "java/lang/Object"), .int, (.object "java/lang/Object"), .int, .int], returnType := none }, accessFlags := 265, code := none }
/-- java/lang/System -/
def k16 : Class := { plain "java/lang/System" (some 0) with
  accessFlags := 49
  interfaces := #[]
  cf := some (fileOf pool16 8 #[.nestMembers #[319, 327, 801, 108, 663, 208]] #[{ accessFlags := 2, nameIndex := 5, descriptorIndex := 6, attributes := #[] }, { accessFlags := 265, nameIndex := 727, descriptorIndex := 728, attributes := #[] }] 49 2 #[] #[{ accessFlags := 25, nameIndex := 507, descriptorIndex := 526, attributes := #[] }, { accessFlags := 25, nameIndex := 399, descriptorIndex := 155, attributes := #[] }, { accessFlags := 25, nameIndex := 396, descriptorIndex := 155, attributes := #[] }, { accessFlags := 10, nameIndex := 525, descriptorIndex := 526, attributes := #[] }, { accessFlags := 26, nameIndex := 674, descriptorIndex := 12, attributes := #[] }, { accessFlags := 26, nameIndex := 677, descriptorIndex := 12, attributes := #[] }, { accessFlags := 10, nameIndex := 11, descriptorIndex := 12, attributes := #[] }, { accessFlags := 74, nameIndex := 175, descriptorIndex := 176, attributes := #[] }, { accessFlags := 10, nameIndex := 491, descriptorIndex := 222, attributes := #[] }, { accessFlags := 74, nameIndex := 29, descriptorIndex := 30, attributes := #[] }, { accessFlags := 74, nameIndex := 154, descriptorIndex := 155, attributes := #[] }, { accessFlags := 10, nameIndex := 217, descriptorIndex := 218, attributes := #[] }, { accessFlags := 10, nameIndex := 221, descriptorIndex := 222, attributes := #[] }, { accessFlags := 8, nameIndex := 562, descriptorIndex := 563, attributes := #[] }])
  fields := #[{ name := "in", type := (.object "java/io/InputStream"), accessFlags := 25, slot := 0, constantValue := 0 }, { name := "out", type := (.object "java/io/PrintStream"), accessFlags := 25, slot := 1, constantValue := 0 }, { name := "err", type := (.object "java/io/PrintStream"), accessFlags := 25, slot := 2, constantValue := 0 }, { name := "initialIn", type := (.object "java/io/InputStream"), accessFlags := 10, slot := 3, constantValue := 0 }, { name := "NEVER", type := .int, accessFlags := 26, slot := 4, constantValue := 0 }, { name := "MAYBE", type := .int, accessFlags := 26, slot := 5, constantValue := 0 }, { name := "allowSecurityManager", type := .int, accessFlags := 10, slot := 6, constantValue := 0 }, { name := "security", type := (.object "java/lang/SecurityManager"), accessFlags := 74, slot := 7, constantValue := 0 }, { name := "notSupportedJnuEncoding", type := (.object "java/lang/String"), accessFlags := 10, slot := 8, constantValue := 0 }, { name := "cons", type := (.object "java/io/Console"), accessFlags := 74, slot := 9, constantValue := 0 }, { name := "initialErrStream", type := (.object "java/io/PrintStream"), accessFlags := 74, slot := 10, constantValue := 0 }, { name := "props", type := (.object "java/util/Properties"), accessFlags := 10, slot := 11, constantValue := 0 }, { name := "lineSeparator", type := (.object "java/lang/String"), accessFlags := 10, slot := 12, constantValue := 0 }, { name := "bootLayer", type := (.object "java/lang/ModuleLayer"), accessFlags := 8, slot := 13, constantValue := 0 }]
  methods := #[k16m0, k16m1]
  instanceTypes := #[]
  staticTypes := #[(.object "java/io/InputStream"), (.object "java/io/PrintStream"), (.object "java/io/PrintStream"), (.object "java/io/InputStream"), .int, .int, .int, (.object "java/lang/SecurityManager"), (.object "java/lang/String"), (.object "java/io/Console"), (.object "java/io/PrintStream"), (.object "java/util/Properties"), (.object "java/lang/String"), (.object "java/lang/ModuleLayer")]
  resolved := Array.replicate 834 none
  statics := none }

def pool17 : Array CpInfo := pool [(9, u "<init>"), (6, .class_ 18), (1, u "java/lang/Object"), (0, u "()V"), (1, .class_ 23), (1, u "jdk/internal/util/ArraysSupport"), (0, u "LOG2_ARRAY_LONG_INDEX_SCALE"), (0, u "I"), (2, u "U"), (0, u "Ljdk/internal/misc/Unsafe;"), (8, u "BIG_ENDIAN"), (0, u "Z"), (8, u "LOG2_BYTE_BIT_SIZE"), (4, u "LOG2_ARRAY_INT_INDEX_SCALE"), (54, u "JLA"), (0, u "Ljdk/internal/access/JavaLangAccess;"), (11, u "LOG2_ARRAY_BOOLEAN_INDEX_SCALE"), (9, u "LOG2_ARRAY_BYTE_INDEX_SCALE"), (5, u "LOG2_ARRAY_CHAR_INDEX_SCALE"), (5, u "LOG2_ARRAY_SHORT_INDEX_SCALE"), (5, u "mismatch"), (12, u "LOG2_ARRAY_FLOAT_INDEX_SCALE"), (24, u "LOG2_ARRAY_DOUBLE_INDEX_SCALE"), (89, u "T_BOOLEAN"), (2, u "T_CHAR"), (1, u "T_FLOAT"), (1, u "T_DOUBLE"), (1, u "T_BYTE"), (1, u "T_SHORT"), (1, u "T_INT"), (1, u "T_LONG"), (1, u "SOFT_MAX_ARRAY_LENGTH"), (42, u "([BI[BII)I")] 40

def k17m0 : Method := { name := "<init>", desc := "()V", sig := { parameters := [], returnType := none }, accessFlags := 2, code := none }
def k17c1 : Code := { maxStack := 8, maxLocals := 8, code := jdk_48_method_14_code, exceptionTable := #[], attributes := #[] }
def k17m1 : Method := { name := "mismatch", desc := "([BI[BII)I", sig := { parameters := [(.array .byte), .int, (.array .byte), .int, .int], returnType := some .int }, accessFlags := 9, code := some k17c1 }
/-- jdk/internal/util/ArraysSupport -/
def k17 : Class := { plain "jdk/internal/util/ArraysSupport" (some 0) with
  accessFlags := 33
  interfaces := #[]
  cf := some (fileOf pool17 21 #[] #[{ accessFlags := 2, nameIndex := 9, descriptorIndex := 19, attributes := #[] }, { accessFlags := 9, nameIndex := 149, descriptorIndex := 337, attributes := #[] }] 33 16 #[] #[{ accessFlags := 24, nameIndex := 28, descriptorIndex := 29, attributes := #[] }, { accessFlags := 26, nameIndex := 38, descriptorIndex := 39, attributes := #[] }, { accessFlags := 25, nameIndex := 121, descriptorIndex := 25, attributes := #[] }, { accessFlags := 25, nameIndex := 131, descriptorIndex := 25, attributes := #[] }, { accessFlags := 25, nameIndex := 137, descriptorIndex := 25, attributes := #[] }, { accessFlags := 25, nameIndex := 143, descriptorIndex := 25, attributes := #[] }, { accessFlags := 25, nameIndex := 53, descriptorIndex := 25, attributes := #[] }, { accessFlags := 25, nameIndex := 24, descriptorIndex := 25, attributes := #[] }, { accessFlags := 25, nameIndex := 162, descriptorIndex := 25, attributes := #[] }, { accessFlags := 25, nameIndex := 187, descriptorIndex := 25, attributes := #[] }, { accessFlags := 26, nameIndex := 48, descriptorIndex := 25, attributes := #[] }, { accessFlags := 25, nameIndex := 277, descriptorIndex := 25, attributes := #[] }, { accessFlags := 25, nameIndex := 280, descriptorIndex := 25, attributes := #[] }, { accessFlags := 25, nameIndex := 282, descriptorIndex := 25, attributes := #[] }, { accessFlags := 25, nameIndex := 284, descriptorIndex := 25, attributes := #[] }, { accessFlags := 25, nameIndex := 286, descriptorIndex := 25, attributes := #[] }, { accessFlags := 25, nameIndex := 288, descriptorIndex := 25, attributes := #[] }, { accessFlags := 25, nameIndex := 290, descriptorIndex := 25, attributes := #[] }, { accessFlags := 25, nameIndex := 292, descriptorIndex := 25, attributes := #[] }, { accessFlags := 26, nameIndex := 108, descriptorIndex := 109, attributes := #[] }, { accessFlags := 25, nameIndex := 294, descriptorIndex := 25, attributes := #[] }])
  fields := #[{ name := "U", type := (.object "jdk/internal/misc/Unsafe"), accessFlags := 24, slot := 0, constantValue := 0 }, { name := "BIG_ENDIAN", type := .boolean, accessFlags := 26, slot := 1, constantValue := 0 }, { name := "LOG2_ARRAY_BOOLEAN_INDEX_SCALE", type := .int, accessFlags := 25, slot := 2, constantValue := 0 }, { name := "LOG2_ARRAY_BYTE_INDEX_SCALE", type := .int, accessFlags := 25, slot := 3, constantValue := 0 }, { name := "LOG2_ARRAY_CHAR_INDEX_SCALE", type := .int, accessFlags := 25, slot := 4, constantValue := 0 }, { name := "LOG2_ARRAY_SHORT_INDEX_SCALE", type := .int, accessFlags := 25, slot := 5, constantValue := 0 }, { name := "LOG2_ARRAY_INT_INDEX_SCALE", type := .int, accessFlags := 25, slot := 6, constantValue := 0 }, { name := "LOG2_ARRAY_LONG_INDEX_SCALE", type := .int, accessFlags := 25, slot := 7, constantValue := 0 }, { name := "LOG2_ARRAY_FLOAT_INDEX_SCALE", type := .int, accessFlags := 25, slot := 8, constantValue := 0 }, { name := "LOG2_ARRAY_DOUBLE_INDEX_SCALE", type := .int, accessFlags := 25, slot := 9, constantValue := 0 }, { name := "LOG2_BYTE_BIT_SIZE", type := .int, accessFlags := 26, slot := 10, constantValue := 0 }, { name := "T_BOOLEAN", type := .int, accessFlags := 25, slot := 11, constantValue := 0 }, { name := "T_CHAR", type := .int, accessFlags := 25, slot := 12, constantValue := 0 }, { name := "T_FLOAT", type := .int, accessFlags := 25, slot := 13, constantValue := 0 }, { name := "T_DOUBLE", type := .int, accessFlags := 25, slot := 14, constantValue := 0 }, { name := "T_BYTE", type := .int, accessFlags := 25, slot := 15, constantValue := 0 }, { name := "T_SHORT", type := .int, accessFlags := 25, slot := 16, constantValue := 0 }, { name := "T_INT", type := .int, accessFlags := 25, slot := 17, constantValue := 0 }, { name := "T_LONG", type := .int, accessFlags := 25, slot := 18, constantValue := 0 }, { name := "JLA", type := (.object "jdk/internal/access/JavaLangAccess"), accessFlags := 26, slot := 19, constantValue := 0 }, { name := "SOFT_MAX_ARRAY_LENGTH", type := .int, accessFlags := 25, slot := 20, constantValue := 0 }]
  methods := #[k17m0, k17m1]
  instanceTypes := #[]
  staticTypes := #[(.object "jdk/internal/misc/Unsafe"), .boolean, .int, .int, .int, .int, .int, .int, .int, .int, .int, .int, .int, .int, .int, .int, .int, .int, .int, (.object "jdk/internal/access/JavaLangAccess"), .int]
  resolved := Array.replicate 378 none
  statics := none }

def pool18 : Array CpInfo := pool [(1, .class_ 2), (0, u "java/lang/Appendable"), (0, .class_ 4), (0, u "java/lang/Object")] 9

/-- java/lang/Appendable -/
def k18 : Class := { plain "java/lang/Appendable" (some 0) with
  accessFlags := 1537
  interfaces := #[]
  cf := some (fileOf pool18 1 #[] #[] 1537 3 #[] #[])
  fields := #[]
  methods := #[]
  instanceTypes := #[]
  staticTypes := #[]
  resolved := Array.replicate 14 none
  statics := none }

def pool19 : Array CpInfo := pool [(1, .class_ 2), (0, u "java/lang/String"), (0, .methodref 4 5), (0, .class_ 6), (0, .nameAndType 7 8), (0, u "java/lang/Object"), (0, u "<init>"), (0, u "()V"), (1, .class_ 12), (1, u "java/lang/AbstractStringBuilder"), (0, u "EMPTYVALUE"), (0, u "[B"), (0, .fieldref 10 16), (0, .nameAndType 17 14), (0, u "value"), (0, .fieldref 1 19), (0, .nameAndType 20 21), (0, u "COMPACT_STRINGS"), (0, u "Z"), (0, .fieldref 10 23), (0, .nameAndType 24 25), (0, u "coder"), (0, u "B"), (8, u "length"), (0, u "()I"), (9, u "append"), (2, .class_ 49), (0, u "java/lang/CharSequence"), (25, u "maybeLatin1"), (3, .fieldref 10 80), (0, .nameAndType 81 82), (0, u "count"), (0, u "I"), (0, .methodref 10 84), (0, .nameAndType 85 86), (0, u "isLatin1"), (0, u "()Z"), (1, .class_ 90), (1, u "java/lang/StringLatin1"), (9, .methodref 10 101), (0, .nameAndType 102 103), (0, u "ensureCapacityInternal"), (0, u "(I)V"), (87, .methodref 88 192), (0, .nameAndType 193 194), (0, u "canEncode"), (0, u "(C)Z"), (97, u "(C)Ljava/lang/AbstractStringBuilder;"), (110, u "()[B"), (40, .class_ 445), (0, u "java/lang/Appendable"), (106, u "getValue")] 56

def k19m0 : Method := { name := "<init>", desc := "()V", sig := { parameters := [], returnType := none }, accessFlags := 0, code := none }
def k19c1 : Code := { maxStack := 2, maxLocals := 2, code := jdk_68_method_2_code, exceptionTable := #[], attributes := #[] }
def k19m1 : Method := { name := "<init>", desc := "(I)V", sig := { parameters := [.int], returnType := none }, accessFlags := 0, code := some k19c1 }
def k19c2 : Code := { maxStack := 1, maxLocals := 1, code := jdk_68_method_6_code, exceptionTable := #[], attributes := #[] }
def k19m2 : Method := { name := "length", desc := "()I", sig := { parameters := [], returnType := some .int }, accessFlags := 1, code := some k19c2 }
def k19c3 : Code := { maxStack := 4, maxLocals := 3, code := jdk_68_method_9_code, exceptionTable := #[], attributes := #[] }
def k19m3 : Method := { name := "ensureCapacityInternal", desc := "(I)V", sig := { parameters := [.int], returnType := none }, accessFlags := 2, code := some k19c3 }
def k19c4 : Code := { maxStack := 5, maxLocals := 2, code := jdk_68_method_31_code, exceptionTable := #[], attributes := #[] }
def k19m4 : Method := { name := "append", desc := "(C)Ljava/lang/AbstractStringBuilder;", sig := { parameters := [.char], returnType := some (.object "java/lang/AbstractStringBuilder") }, accessFlags := 1, code := some k19c4 }
def k19c5 : Code := { maxStack := 1, maxLocals := 1, code := jdk_68_method_64_code, exceptionTable := #[], attributes := #[] }
def k19m5 : Method := { name := "getValue", desc := "()[B", sig := { parameters := [], returnType := some (.array .byte) }, accessFlags := 16, code := some k19c5 }
def k19c6 : Code := { maxStack := 1, maxLocals := 1, code := jdk_68_method_68_code, exceptionTable := #[], attributes := #[] }
def k19m6 : Method := { name := "isLatin1", desc := "()Z", sig := { parameters := [], returnType := some .boolean }, accessFlags := 16, code := some k19c6 }
/-- java/lang/AbstractStringBuilder -/
def k19 : Class := { plain "java/lang/AbstractStringBuilder" (some 0) with
  accessFlags := 1056
  interfaces := #[18, 4]
  cf := some (fileOf pool19 10 #[] #[{ accessFlags := 0, nameIndex := 7, descriptorIndex := 8, attributes := #[] }, { accessFlags := 0, nameIndex := 7, descriptorIndex := 103, attributes := #[] }, { accessFlags := 1, nameIndex := 34, descriptorIndex := 35, attributes := #[] }, { accessFlags := 2, nameIndex := 102, descriptorIndex := 103, attributes := #[] }, { accessFlags := 1, nameIndex := 45, descriptorIndex := 292, attributes := #[] }, { accessFlags := 16, nameIndex := 552, descriptorIndex := 403, attributes := #[] }, { accessFlags := 16, nameIndex := 85, descriptorIndex := 86, attributes := #[] }] 1056 4 #[444, 48] #[{ accessFlags := 0, nameIndex := 17, descriptorIndex := 14, attributes := #[] }, { accessFlags := 0, nameIndex := 24, descriptorIndex := 25, attributes := #[] }, { accessFlags := 0, nameIndex := 75, descriptorIndex := 21, attributes := #[] }, { accessFlags := 0, nameIndex := 81, descriptorIndex := 82, attributes := #[] }, { accessFlags := 26, nameIndex := 13, descriptorIndex := 14, attributes := #[] }])
  fields := #[{ name := "value", type := (.array .byte), accessFlags := 0, slot := 0, constantValue := 0 }, { name := "coder", type := .byte, accessFlags := 0, slot := 1, constantValue := 0 }, { name := "maybeLatin1", type := .boolean, accessFlags := 0, slot := 2, constantValue := 0 }, { name := "count", type := .int, accessFlags := 0, slot := 3, constantValue := 0 }, { name := "EMPTYVALUE", type := (.array .byte), accessFlags := 26, slot := 0, constantValue := 0 }]
  methods := #[k19m0, k19m1, k19m2, k19m3, k19m4, k19m5, k19m6]
  instanceTypes := #[(.array .byte), .byte, .boolean, .int]
  staticTypes := #[(.array .byte)]
  resolved := Array.replicate 609 none
  statics := none }

def pool20 : Array CpInfo := pool [(1, .methodref 2 3), (0, .class_ 4), (0, .nameAndType 5 6), (0, u "java/lang/AbstractStringBuilder"), (0, u "<init>"), (0, u "(I)V"), (11, .class_ 20), (1, u "java/lang/String"), (3, .class_ 26), (1, u "java/lang/StringBuilder"), (0, u "append"), (22, .methodref 2 51), (0, .nameAndType 27 52), (0, u "(C)Ljava/lang/AbstractStringBuilder;"), (84, .methodref 18 138), (0, .nameAndType 5 139), (0, u "(Ljava/lang/StringBuilder;)V"), (5, u "()V"), (10, u "()I"), (129, u "(C)Ljava/lang/StringBuilder;"), (56, .methodref 2 344), (0, .nameAndType 345 156), (0, u "length"), (3, .class_ 350), (0, u "java/lang/Appendable"), (0, .class_ 352), (0, u "java/io/Serializable"), (0, .class_ 354), (0, u "java/lang/Comparable"), (0, .class_ 356), (0, u "java/lang/CharSequence"), (0, u "serialVersionUID"), (0, u "J"), (40, u "toString"), (0, u "()Ljava/lang/String;")] 21

def k20m0 : Method := { name := "<init>", desc := "()V", sig := { parameters := [], returnType := none }, accessFlags := 1, code := none }
def k20c1 : Code := { maxStack := 2, maxLocals := 2, code := jdk_67_method_2_code, exceptionTable := #[], attributes := #[] }
def k20m1 : Method := { name := "<init>", desc := "(I)V", sig := { parameters := [.int], returnType := none }, accessFlags := 1, code := some k20c1 }
def k20c2 : Code := { maxStack := 2, maxLocals := 2, code := jdk_67_method_14_code, exceptionTable := #[], attributes := #[] }
def k20m2 : Method := { name := "append", desc := "(C)Ljava/lang/StringBuilder;", sig := { parameters := [.char], returnType := some (.object "java/lang/StringBuilder") }, accessFlags := 1, code := some k20c2 }
def k20c3 : Code := { maxStack := 3, maxLocals := 1, code := jdk_67_method_42_code, exceptionTable := #[], attributes := #[] }
def k20m3 : Method := { name := "toString", desc := "()Ljava/lang/String;", sig := { parameters := [], returnType := some (.object "java/lang/String") }, accessFlags := 1, code := some k20c3 }
def k20c4 : Code := { maxStack := 1, maxLocals := 1, code := jdk_67_method_93_code, exceptionTable := #[], attributes := #[] }
def k20m4 : Method := { name := "length", desc := "()I", sig := { parameters := [], returnType := some .int }, accessFlags := 4161, code := some k20c4 }
/-- java/lang/StringBuilder -/
def k20 : Class := { plain "java/lang/StringBuilder" (some 19) with
  accessFlags := 49
  interfaces := #[18, 2, 3, 4]
  cf := some (fileOf pool20 24 #[] #[{ accessFlags := 1, nameIndex := 5, descriptorIndex := 145, attributes := #[] }, { accessFlags := 1, nameIndex := 5, descriptorIndex := 6, attributes := #[] }, { accessFlags := 1, nameIndex := 27, descriptorIndex := 286, attributes := #[] }, { accessFlags := 1, nameIndex := 399, descriptorIndex := 400, attributes := #[] }, { accessFlags := 4161, nameIndex := 345, descriptorIndex := 156, attributes := #[] }] 49 2 #[349, 351, 353, 355] #[{ accessFlags := 24, nameIndex := 357, descriptorIndex := 358, attributes := #[] }])
  fields := #[{ name := "serialVersionUID", type := .long, accessFlags := 24, slot := 0, constantValue := 0 }]
  methods := #[k20m0, k20m1, k20m2, k20m3, k20m4]
  instanceTypes := #[(.array .byte), .byte, .boolean, .int]
  staticTypes := #[.long]
  resolved := Array.replicate 422 none
  statics := none }

def pool21 : Array CpInfo := pool [(1, u "java/lang/Cloneable"), (0, .class_ 1), (0, u "java/lang/Object"), (0, .class_ 3)] 3

/-- java/lang/Cloneable -/
def k21 : Class := { plain "java/lang/Cloneable" (some 0) with
  accessFlags := 1537
  interfaces := #[]
  cf := some (fileOf pool21 2 #[] #[] 1537 4 #[] #[])
  fields := #[]
  methods := #[]
  instanceTypes := #[]
  staticTypes := #[]
  resolved := Array.replicate 8 none
  statics := none }

/-- the primitive byte -/
def k22 : Class := { plain "byte" none with kind := .primitive 'B', accessFlags := 0x411 }
/-- [B -/
def k23 : Class := { plain "[B" (some 0) with kind := .array 22 .byte, interfaces := #[21, 2], accessFlags := 1041 }

/-- the primitive char -/
def k24 : Class := { plain "char" none with kind := .primitive 'C', accessFlags := 0x411 }
/-- [C -/
def k25 : Class := { plain "[C" (some 0) with kind := .array 24 .char, interfaces := #[21, 2], accessFlags := 1041 }

/-- the primitive int -/
def k26 : Class := { plain "int" none with kind := .primitive 'I', accessFlags := 0x411 }
/-- [I -/
def k27 : Class := { plain "[I" (some 0) with kind := .array 26 .int, interfaces := #[21, 2], accessFlags := 1041 }

def heap : Heap := #[{ cls := 7, slots := #[.long 0, .int 1, .null, .int 0, .null, .int 0, .int 0], vm := .statics 7 },
  { cls := 13, slots := #[.null, .null, .null], vm := .statics 13 }]
def classes : Array Class := #[k0, k1, k2, k3, k4, k5, k6, k7, k8, k9, k10, k11, k12, k13, k14, k15, k16, k17, k18, k19, k20, k21, k22, k23, k24, k25, k26, k27]
def interned : List (Array UInt16 × Addr) := []
def slotsUsed : Nat := 10
def theMethod : MethodId := ⟨1, 1⟩
def args0 : Array Value := #[.int 1, .int 66, .int 67, .int 2, .int 80]
def aboutOver (below : List Frame) : State where
  vm := { classes := classes, interned := interned.toArray }
  heap := heap
  slotsUsed := slotsUsed
  threads := #[{ frames := .invoking theMethod args0 :: below }]
def below0 : List Frame := [.native { method := ⟨0, 0⟩, args := #[] }]
def about1 : State := aboutOver below0
def p0 : Program := .bare "" "" ""
def e0 : Env := launch0.env 0 0 0
theorem w_frames : about1.frames = Frame.invoking theMethod args0 :: below0 := rfl
set_option maxRecDepth 65536 in
theorem w_args : argsFit about1.vm theMethod args0 = true := by decide +kernel
set_option maxRecDepth 65536 in
theorem w_heap : heapFits about1 = true := by decide +kernel
set_option maxRecDepth 65536 in
theorem w_runnable : about1.curStatus? = some .runnable := by decide +kernel
set_option maxRecDepth 65536 in
theorem w_alone : about1.alone = true := by decide +kernel
set_option maxRecDepth 65536 in
theorem w_named : about1.methodNamed? x = some theMethod := by decide +kernel
set_option maxRecDepth 65536 in
theorem w_hears : about1.hears theMethod below0 = true := by decide +kernel
set_option maxRecDepth 65536 in
theorem w_ripe : about1.ripe theMethod args0 below0 = true := by decide +kernel
theorem w_running : about1.status = .running := rfl
set_option maxRecDepth 65536 in
theorem w_room : about1.hasRoom e0.platform room_1 = true :=
  launch0.hasRoom_least _ room_1 (by decide +kernel) (by decide +kernel) (by decide +kernel) (by decide +kernel) (by decide +kernel) (by decide +kernel)
theorem allAtoms_all (ts : List Jvm.Cond) (a : Array Jvm.Value) (st : Jvm.State) : (allAtoms ts).before a st = ts.all (fun c => c.before a st) := by
  induction ts with
  | nil => rfl
  | cons c t ih =>
    show (Jvm.Cond.and c (allAtoms t)).before a st = _
    rw [Jvm.Cond.before_and, ih, List.all_cons]
def words1 : List Jvm.Cond := Jvm.Cond.code x code maxLocals ret :: tables_1
/-- a 'code' word, met by the world's own term for the bytes: nothing is compared byte by byte -/
theorem code_word {y : MethodName} {bytes : ByteArray} {mx : Nat} {rt : Option FieldType} {a : Array Value} {s : State} {m : MethodId} {meth : Method} {c : Code} (h1 : s.methodNamed? y = some m) (h2 : s.vm.method? m = some meth) (h3 : meth.code = some c) (h4 : c.code = bytes)
    (h5 : (c.maxLocals == mx && c.exceptionTable.isEmpty && decide (c.maxStack ≤ mostOperands) && decide (meth.sig.returnType = rt) && !meth.locks && decide (parseMethodDescriptor y.desc = some meth.sig)) = true) : (Jvm.Cond.code y bytes mx rt).before a s = true := by
  simp only [Bool.and_eq_true, beq_iff_eq, Bool.not_eq_true', decide_eq_true_eq] at h5
  obtain ⟨⟨⟨⟨⟨g1, g2⟩, g3⟩, g4⟩, g5⟩, g6⟩ := h5
  simp [Cond.before, Cond.holds, Cond.value, h1, h2, h3, h4, g1, g2, g3, g4, g5, g6]
def isCode : Jvm.Cond → Bool
  | .code _ _ _ _ => true
  | _ => false
theorem all_split {L : List Jvm.Cond} {P : Jvm.Cond → Bool} (h1 : L.all (fun c => isCode c || P c) = true) (h2 : ∀ c ∈ L.filter isCode, P c = true) : L.all P = true := by
  refine List.all_eq_true.mpr fun c hc => ?_
  have h := List.all_eq_true.mp h1 c hc
  rcases Bool.eq_false_or_eq_true (isCode c) with hi | hi
  · exact h2 c (List.mem_filter.mpr ⟨hc, hi⟩)
  · simpa [hi] using h
set_option maxRecDepth 65536 in
theorem w_c0 : (Jvm.Cond.code x code maxLocals ret).before args0 about1 = true := code_word (m := ⟨1, 1⟩) (meth := k1m1) (c := k1c1) (by decide +kernel) rfl rfl rfl (by decide +kernel)
set_option maxRecDepth 65536 in
theorem w_c1 : (Jvm.Cond.code ({ cls := "com/example/gated_claim/gatedclaim/idempotency/IdempotencyKeyParsePinLaw", name := "ws", desc := "(II)C" } : Jvm.MethodName) method_3_code (2 : Nat) (Option.some Jvm.ClassFile.FieldType.char)).before args0 about1 = true := code_word (m := ⟨1, 2⟩) (meth := k1m2) (c := k1c2) (by decide +kernel) rfl rfl rfl (by decide +kernel)
set_option maxRecDepth 65536 in
theorem w_c2 : (Jvm.Cond.code ({ cls := "com/example/gated_claim/gatedclaim/idempotency/IdempotencyKeyParsePinLaw", name := "bareChar", desc := "(I)C" } : Jvm.MethodName) method_7_code (2 : Nat) (Option.some Jvm.ClassFile.FieldType.char)).before args0 about1 = true := code_word (m := ⟨1, 6⟩) (meth := k1m6) (c := k1c6) (by decide +kernel) rfl rfl rfl (by decide +kernel)
set_option maxRecDepth 65536 in
theorem w_c3 : (Jvm.Cond.code ({ cls := "java/lang/String", name := "<init>", desc := "([C)V" } : Jvm.MethodName) jdk_42_method_3_code (2 : Nat) (Option.none : Option Jvm.ClassFile.FieldType)).before args0 about1 = true := code_word (m := ⟨7, 1⟩) (meth := k7m1) (c := k7c1) (by decide +kernel) rfl rfl rfl (by decide +kernel)
set_option maxRecDepth 65536 in
theorem w_c4 : (Jvm.Cond.code ({ cls := "java/lang/String", name := "<init>", desc := "([CIILjava/lang/Void;)V" } : Jvm.MethodName) jdk_42_method_149_code (6 : Nat) (Option.none : Option Jvm.ClassFile.FieldType)).before args0 about1 = true := code_word (m := ⟨7, 11⟩) (meth := k7m11) (c := k7c11) (by decide +kernel) rfl rfl rfl (by decide +kernel)
set_option maxRecDepth 65536 in
theorem w_c5 : (Jvm.Cond.code ({ cls := "java/lang/Object", name := "<init>", desc := "()V" } : Jvm.MethodName) object_method_1_code (1 : Nat) (Option.none : Option Jvm.ClassFile.FieldType)).before args0 about1 = true := code_word (m := ⟨0, 0⟩) (meth := k0m0) (c := k0c0) (by decide +kernel) rfl rfl rfl (by decide +kernel)
set_option maxRecDepth 65536 in
theorem w_c6 : (Jvm.Cond.code ({ cls := "java/lang/StringUTF16", name := "compress", desc := "([CII)[B" } : Jvm.MethodName) jdk_52_method_16_code (6 : Nat) (Option.some (Jvm.ClassFile.FieldType.array Jvm.ClassFile.FieldType.byte))).before args0 about1 = true := code_word (m := ⟨8, 2⟩) (meth := k8m2) (c := k8c2) (by decide +kernel) rfl rfl rfl (by decide +kernel)
set_option maxRecDepth 65536 in
theorem w_c7 : (Jvm.Cond.code ({ cls := "java/lang/StringUTF16", name := "compress", desc := "([CI[BII)I" } : Jvm.MethodName) jdk_52_method_21_code (7 : Nat) (Option.some Jvm.ClassFile.FieldType.int)).before args0 about1 = true := code_word (m := ⟨8, 3⟩) (meth := k8m3) (c := k8c3) (by decide +kernel) rfl rfl rfl (by decide +kernel)
set_option maxRecDepth 65536 in
theorem w_c8 : (Jvm.Cond.code ({ cls := "java/lang/StringUTF16", name := "coderFromArrayLen", desc := "([BI)B" } : Jvm.MethodName) jdk_52_method_15_code (2 : Nat) (Option.some Jvm.ClassFile.FieldType.byte)).before args0 about1 = true := code_word (m := ⟨8, 1⟩) (meth := k8m1) (c := k8c1) (by decide +kernel) rfl rfl rfl (by decide +kernel)
set_option maxRecDepth 65536 in
theorem w_c9 : (Jvm.Cond.code ({ cls := "com/example/gated_claim/gatedclaim/idempotency/IdempotencyKey", name := "parse", desc := "(Ljava/lang/String;)Lcom/example/gated_claim/gatedclaim/idempotency/IdempotencyKey;" } : Jvm.MethodName) prog_2_method_2_code (2 : Nat) (Option.some (Jvm.ClassFile.FieldType.object "com/example/gated_claim/gatedclaim/idempotency/IdempotencyKey"))).before args0 about1 = true := code_word (m := ⟨10, 1⟩) (meth := k10m1) (c := k10c1) (by decide +kernel) rfl rfl rfl (by decide +kernel)
set_option maxRecDepth 65536 in
theorem w_c10 : (Jvm.Cond.code ({ cls := "java/util/Objects", name := "requireNonNull", desc := "(Ljava/lang/Object;Ljava/lang/String;)Ljava/lang/Object;" } : Jvm.MethodName) jdk_31_method_11_code (2 : Nat) (Option.some (Jvm.ClassFile.FieldType.object "java/lang/Object"))).before args0 about1 = true := code_word (m := ⟨11, 1⟩) (meth := k11m1) (c := k11c1) (by decide +kernel) rfl rfl rfl (by decide +kernel)
set_option maxRecDepth 65536 in
theorem w_c11 : (Jvm.Cond.code ({ cls := "com/example/gated_claim/gatedclaim/idempotency/IdempotencyKey", name := "stripOptionalWhitespace", desc := "(Ljava/lang/String;)Ljava/lang/String;" } : Jvm.MethodName) prog_2_method_4_code (3 : Nat) (Option.some (Jvm.ClassFile.FieldType.object "java/lang/String"))).before args0 about1 = true := code_word (m := ⟨10, 3⟩) (meth := k10m3) (c := k10c3) (by decide +kernel) rfl rfl rfl (by decide +kernel)
set_option maxRecDepth 65536 in
theorem w_c12 : (Jvm.Cond.code ({ cls := "java/lang/String", name := "length", desc := "()I" } : Jvm.MethodName) jdk_42_method_54_code (1 : Nat) (Option.some Jvm.ClassFile.FieldType.int)).before args0 about1 = true := code_word (m := ⟨7, 3⟩) (meth := k7m3) (c := k7c3) (by decide +kernel) rfl rfl rfl (by decide +kernel)
set_option maxRecDepth 65536 in
theorem w_c13 : (Jvm.Cond.code ({ cls := "java/lang/String", name := "coder", desc := "()B" } : Jvm.MethodName) jdk_42_method_152_code (1 : Nat) (Option.some Jvm.ClassFile.FieldType.byte)).before args0 about1 = true := code_word (m := ⟨7, 14⟩) (meth := k7m14) (c := k7c14) (by decide +kernel) rfl rfl rfl (by decide +kernel)
set_option maxRecDepth 65536 in
theorem w_c14 : (Jvm.Cond.code ({ cls := "java/lang/String", name := "charAt", desc := "(I)C" } : Jvm.MethodName) jdk_42_method_56_code (2 : Nat) (Option.some Jvm.ClassFile.FieldType.char)).before args0 about1 = true := code_word (m := ⟨7, 5⟩) (meth := k7m5) (c := k7c5) (by decide +kernel) rfl rfl rfl (by decide +kernel)
set_option maxRecDepth 65536 in
theorem w_c15 : (Jvm.Cond.code ({ cls := "java/lang/String", name := "isLatin1", desc := "()Z" } : Jvm.MethodName) jdk_42_method_154_code (1 : Nat) (Option.some Jvm.ClassFile.FieldType.boolean)).before args0 about1 = true := code_word (m := ⟨7, 15⟩) (meth := k7m15) (c := k7c15) (by decide +kernel) rfl rfl rfl (by decide +kernel)
set_option maxRecDepth 65536 in
theorem w_c16 : (Jvm.Cond.code ({ cls := "java/lang/StringLatin1", name := "charAt", desc := "([BI)C" } : Jvm.MethodName) jdk_43_method_2_code (2 : Nat) (Option.some Jvm.ClassFile.FieldType.char)).before args0 about1 = true := code_word (m := ⟨12, 1⟩) (meth := k12m1) (c := k12c1) (by decide +kernel) rfl rfl rfl (by decide +kernel)
set_option maxRecDepth 65536 in
theorem w_c17 : (Jvm.Cond.code ({ cls := "java/lang/String", name := "checkIndex", desc := "(II)V" } : Jvm.MethodName) jdk_42_method_155_code (2 : Nat) (Option.none : Option Jvm.ClassFile.FieldType)).before args0 about1 = true := code_word (m := ⟨7, 16⟩) (meth := k7m16) (c := k7c16) (by decide +kernel) rfl rfl rfl (by decide +kernel)
set_option maxRecDepth 65536 in
theorem w_c18 : (Jvm.Cond.code ({ cls := "jdk/internal/util/Preconditions", name := "checkIndex", desc := "(IILjava/util/function/BiFunction;)I" } : Jvm.MethodName) jdk_41_method_11_code (3 : Nat) (Option.some Jvm.ClassFile.FieldType.int)).before args0 about1 = true := code_word (m := ⟨13, 1⟩) (meth := k13m1) (c := k13c1) (by decide +kernel) rfl rfl rfl (by decide +kernel)
set_option maxRecDepth 65536 in
theorem w_c19 : (Jvm.Cond.code ({ cls := "com/example/gated_claim/gatedclaim/idempotency/IdempotencyKey", name := "isOptionalWhitespace", desc := "(C)Z" } : Jvm.MethodName) prog_2_method_5_code (1 : Nat) (Option.some Jvm.ClassFile.FieldType.boolean)).before args0 about1 = true := code_word (m := ⟨10, 4⟩) (meth := k10m4) (c := k10c4) (by decide +kernel) rfl rfl rfl (by decide +kernel)
set_option maxRecDepth 65536 in
theorem w_c20 : (Jvm.Cond.code ({ cls := "java/lang/String", name := "substring", desc := "(II)Ljava/lang/String;" } : Jvm.MethodName) jdk_42_method_92_code (5 : Nat) (Option.some (Jvm.ClassFile.FieldType.object "java/lang/String"))).before args0 about1 = true := code_word (m := ⟨7, 10⟩) (meth := k7m10) (c := k7c10) (by decide +kernel) rfl rfl rfl (by decide +kernel)
set_option maxRecDepth 65536 in
theorem w_c21 : (Jvm.Cond.code ({ cls := "java/lang/String", name := "checkBoundsBeginEnd", desc := "(III)V" } : Jvm.MethodName) jdk_42_method_158_code (3 : Nat) (Option.none : Option Jvm.ClassFile.FieldType)).before args0 about1 = true := code_word (m := ⟨7, 17⟩) (meth := k7m17) (c := k7c17) (by decide +kernel) rfl rfl rfl (by decide +kernel)
set_option maxRecDepth 65536 in
theorem w_c22 : (Jvm.Cond.code ({ cls := "jdk/internal/util/Preconditions", name := "checkFromToIndex", desc := "(IIILjava/util/function/BiFunction;)I" } : Jvm.MethodName) jdk_41_method_12_code (4 : Nat) (Option.some Jvm.ClassFile.FieldType.int)).before args0 about1 = true := code_word (m := ⟨13, 2⟩) (meth := k13m2) (c := k13c2) (by decide +kernel) rfl rfl rfl (by decide +kernel)
set_option maxRecDepth 65536 in
theorem w_c23 : (Jvm.Cond.code ({ cls := "java/lang/StringLatin1", name := "newString", desc := "([BII)Ljava/lang/String;" } : Jvm.MethodName) jdk_43_method_47_code (3 : Nat) (Option.some (Jvm.ClassFile.FieldType.object "java/lang/String"))).before args0 about1 = true := code_word (m := ⟨12, 6⟩) (meth := k12m6) (c := k12c6) (by decide +kernel) rfl rfl rfl (by decide +kernel)
set_option maxRecDepth 65536 in
theorem w_c24 : (Jvm.Cond.code ({ cls := "java/util/Arrays", name := "copyOfRange", desc := "([BII)[B" } : Jvm.MethodName) jdk_65_method_132_code (3 : Nat) (Option.some (Jvm.ClassFile.FieldType.array Jvm.ClassFile.FieldType.byte))).before args0 about1 = true := code_word (m := ⟨14, 2⟩) (meth := k14m2) (c := k14c2) (by decide +kernel) rfl rfl rfl (by decide +kernel)
set_option maxRecDepth 65536 in
theorem w_c25 : (Jvm.Cond.code ({ cls := "java/util/Arrays", name := "copyOfRangeByte", desc := "([BII)[B" } : Jvm.MethodName) jdk_65_method_133_code (5 : Nat) (Option.some (Jvm.ClassFile.FieldType.array Jvm.ClassFile.FieldType.byte))).before args0 about1 = true := code_word (m := ⟨14, 3⟩) (meth := k14m3) (c := k14c3) (by decide +kernel) rfl rfl rfl (by decide +kernel)
set_option maxRecDepth 65536 in
theorem w_c26 : (Jvm.Cond.code ({ cls := "java/util/Arrays", name := "checkLength", desc := "(II)V" } : Jvm.MethodName) jdk_65_method_131_code (2 : Nat) (Option.none : Option Jvm.ClassFile.FieldType)).before args0 about1 = true := code_word (m := ⟨14, 1⟩) (meth := k14m1) (c := k14c1) (by decide +kernel) rfl rfl rfl (by decide +kernel)
set_option maxRecDepth 65536 in
theorem w_c27 : (Jvm.Cond.code ({ cls := "java/lang/Math", name := "min", desc := "(II)I" } : Jvm.MethodName) jdk_29_method_69_code (2 : Nat) (Option.some Jvm.ClassFile.FieldType.int)).before args0 about1 = true := code_word (m := ⟨15, 2⟩) (meth := k15m2) (c := k15c2) (by decide +kernel) rfl rfl rfl (by decide +kernel)
set_option maxRecDepth 65536 in
theorem w_c28 : (Jvm.Cond.code ({ cls := "java/lang/String", name := "<init>", desc := "([BB)V" } : Jvm.MethodName) jdk_42_method_151_code (3 : Nat) (Option.none : Option Jvm.ClassFile.FieldType)).before args0 about1 = true := code_word (m := ⟨7, 13⟩) (meth := k7m13) (c := k7c13) (by decide +kernel) rfl rfl rfl (by decide +kernel)
set_option maxRecDepth 65536 in
theorem w_c29 : (Jvm.Cond.code ({ cls := "java/lang/String", name := "startsWith", desc := "(Ljava/lang/String;)Z" } : Jvm.MethodName) jdk_42_method_76_code (2 : Nat) (Option.some Jvm.ClassFile.FieldType.boolean)).before args0 about1 = true := code_word (m := ⟨7, 7⟩) (meth := k7m7) (c := k7c7) (by decide +kernel) rfl rfl rfl (by decide +kernel)
set_option maxRecDepth 65536 in
theorem w_c30 : (Jvm.Cond.code ({ cls := "java/lang/String", name := "startsWith", desc := "(Ljava/lang/String;I)Z" } : Jvm.MethodName) jdk_42_method_75_code (8 : Nat) (Option.some Jvm.ClassFile.FieldType.boolean)).before args0 about1 = true := code_word (m := ⟨7, 6⟩) (meth := k7m6) (c := k7c6) (by decide +kernel) rfl rfl rfl (by decide +kernel)
set_option maxRecDepth 65536 in
theorem w_c31 : (Jvm.Cond.code ({ cls := "jdk/internal/util/ArraysSupport", name := "mismatch", desc := "([BI[BII)I" } : Jvm.MethodName) jdk_48_method_14_code (8 : Nat) (Option.some Jvm.ClassFile.FieldType.int)).before args0 about1 = true := code_word (m := ⟨17, 1⟩) (meth := k17m1) (c := k17c1) (by decide +kernel) rfl rfl rfl (by decide +kernel)
set_option maxRecDepth 65536 in
theorem w_c32 : (Jvm.Cond.code ({ cls := "java/lang/String", name := "indexOf", desc := "(I)I" } : Jvm.MethodName) jdk_42_method_79_code (2 : Nat) (Option.some Jvm.ClassFile.FieldType.int)).before args0 about1 = true := code_word (m := ⟨7, 8⟩) (meth := k7m8) (c := k7c8) (by decide +kernel) rfl rfl rfl (by decide +kernel)
set_option maxRecDepth 65536 in
theorem w_c33 : (Jvm.Cond.code ({ cls := "java/lang/String", name := "indexOf", desc := "(II)I" } : Jvm.MethodName) jdk_42_method_80_code (3 : Nat) (Option.some Jvm.ClassFile.FieldType.int)).before args0 about1 = true := code_word (m := ⟨7, 9⟩) (meth := k7m9) (c := k7c9) (by decide +kernel) rfl rfl rfl (by decide +kernel)
set_option maxRecDepth 65536 in
theorem w_c34 : (Jvm.Cond.code ({ cls := "java/lang/StringLatin1", name := "indexOf", desc := "([BIII)I" } : Jvm.MethodName) jdk_43_method_22_code (4 : Nat) (Option.some Jvm.ClassFile.FieldType.int)).before args0 about1 = true := code_word (m := ⟨12, 4⟩) (meth := k12m4) (c := k12c4) (by decide +kernel) rfl rfl rfl (by decide +kernel)
set_option maxRecDepth 65536 in
theorem w_c35 : (Jvm.Cond.code ({ cls := "java/lang/StringLatin1", name := "canEncode", desc := "(I)Z" } : Jvm.MethodName) jdk_43_method_4_code (1 : Nat) (Option.some Jvm.ClassFile.FieldType.boolean)).before args0 about1 = true := code_word (m := ⟨12, 3⟩) (meth := k12m3) (c := k12c3) (by decide +kernel) rfl rfl rfl (by decide +kernel)
set_option maxRecDepth 65536 in
theorem w_c36 : (Jvm.Cond.code ({ cls := "java/lang/Math", name := "max", desc := "(II)I" } : Jvm.MethodName) jdk_29_method_65_code (2 : Nat) (Option.some Jvm.ClassFile.FieldType.int)).before args0 about1 = true := code_word (m := ⟨15, 1⟩) (meth := k15m1) (c := k15c1) (by decide +kernel) rfl rfl rfl (by decide +kernel)
set_option maxRecDepth 65536 in
theorem w_c37 : (Jvm.Cond.code ({ cls := "java/lang/StringLatin1", name := "indexOfChar", desc := "([BIII)I" } : Jvm.MethodName) jdk_43_method_23_code (6 : Nat) (Option.some Jvm.ClassFile.FieldType.int)).before args0 about1 = true := code_word (m := ⟨12, 5⟩) (meth := k12m5) (c := k12c5) (by decide +kernel) rfl rfl rfl (by decide +kernel)
set_option maxRecDepth 65536 in
theorem w_c38 : (Jvm.Cond.code ({ cls := "com/example/gated_claim/gatedclaim/idempotency/IdempotencyKey", name := "<init>", desc := "(Ljava/lang/String;)V" } : Jvm.MethodName) prog_2_method_1_code (4 : Nat) (Option.none : Option Jvm.ClassFile.FieldType)).before args0 about1 = true := code_word (m := ⟨10, 0⟩) (meth := k10m0) (c := k10c0) (by decide +kernel) rfl rfl rfl (by decide +kernel)
set_option maxRecDepth 65536 in
theorem w_c39 : (Jvm.Cond.code ({ cls := "java/lang/Record", name := "<init>", desc := "()V" } : Jvm.MethodName) jdk_30_method_1_code (1 : Nat) (Option.none : Option Jvm.ClassFile.FieldType)).before args0 about1 = true := code_word (m := ⟨9, 0⟩) (meth := k9m0) (c := k9c0) (by decide +kernel) rfl rfl rfl (by decide +kernel)
set_option maxRecDepth 65536 in
theorem w_c40 : (Jvm.Cond.code ({ cls := "java/lang/String", name := "isEmpty", desc := "()Z" } : Jvm.MethodName) jdk_42_method_55_code (1 : Nat) (Option.some Jvm.ClassFile.FieldType.boolean)).before args0 about1 = true := code_word (m := ⟨7, 4⟩) (meth := k7m4) (c := k7c4) (by decide +kernel) rfl rfl rfl (by decide +kernel)
set_option maxRecDepth 65536 in
theorem w_c41 : (Jvm.Cond.code ({ cls := "com/example/gated_claim/gatedclaim/idempotency/IdempotencyKey", name := "value", desc := "()Ljava/lang/String;" } : Jvm.MethodName) prog_2_method_9_code (1 : Nat) (Option.some (Jvm.ClassFile.FieldType.object "java/lang/String"))).before args0 about1 = true := code_word (m := ⟨10, 5⟩) (meth := k10m5) (c := k10c5) (by decide +kernel) rfl rfl rfl (by decide +kernel)
set_option maxRecDepth 65536 in
theorem w_c42 : (Jvm.Cond.code ({ cls := "com/example/gated_claim/gatedclaim/idempotency/IdempotencyKeyParsePinLaw", name := "putUnit", desc := "([CII)I" } : Jvm.MethodName) method_6_code (3 : Nat) (Option.some Jvm.ClassFile.FieldType.int)).before args0 about1 = true := code_word (m := ⟨1, 5⟩) (meth := k1m5) (c := k1c5) (by decide +kernel) rfl rfl rfl (by decide +kernel)
set_option maxRecDepth 65536 in
theorem w_c43 : (Jvm.Cond.code ({ cls := "com/example/gated_claim/gatedclaim/idempotency/IdempotencyKeyParsePinLaw", name := "plainQuoted", desc := "(I)C" } : Jvm.MethodName) method_4_code (2 : Nat) (Option.some Jvm.ClassFile.FieldType.char)).before args0 about1 = true := code_word (m := ⟨1, 3⟩) (meth := k1m3) (c := k1c3) (by decide +kernel) rfl rfl rfl (by decide +kernel)
set_option maxRecDepth 65536 in
theorem w_c44 : (Jvm.Cond.code ({ cls := "com/example/gated_claim/gatedclaim/idempotency/IdempotencyKeyParsePinLaw", name := "keyChar", desc := "(I)C" } : Jvm.MethodName) method_5_code (1 : Nat) (Option.some Jvm.ClassFile.FieldType.char)).before args0 about1 = true := code_word (m := ⟨1, 4⟩) (meth := k1m4) (c := k1c4) (by decide +kernel) rfl rfl rfl (by decide +kernel)
set_option maxRecDepth 65536 in
theorem w_c45 : (Jvm.Cond.code ({ cls := "com/example/gated_claim/gatedclaim/idempotency/IdempotencyKey", name := "unquote", desc := "(Ljava/lang/String;)Ljava/lang/String;" } : Jvm.MethodName) prog_2_method_3_code (4 : Nat) (Option.some (Jvm.ClassFile.FieldType.object "java/lang/String"))).before args0 about1 = true := code_word (m := ⟨10, 2⟩) (meth := k10m2) (c := k10c2) (by decide +kernel) rfl rfl rfl (by decide +kernel)
set_option maxRecDepth 65536 in
theorem w_c46 : (Jvm.Cond.code ({ cls := "java/lang/StringBuilder", name := "<init>", desc := "(I)V" } : Jvm.MethodName) jdk_67_method_2_code (2 : Nat) (Option.none : Option Jvm.ClassFile.FieldType)).before args0 about1 = true := code_word (m := ⟨20, 1⟩) (meth := k20m1) (c := k20c1) (by decide +kernel) rfl rfl rfl (by decide +kernel)
set_option maxRecDepth 65536 in
theorem w_c47 : (Jvm.Cond.code ({ cls := "java/lang/AbstractStringBuilder", name := "<init>", desc := "(I)V" } : Jvm.MethodName) jdk_68_method_2_code (2 : Nat) (Option.none : Option Jvm.ClassFile.FieldType)).before args0 about1 = true := code_word (m := ⟨19, 1⟩) (meth := k19m1) (c := k19c1) (by decide +kernel) rfl rfl rfl (by decide +kernel)
set_option maxRecDepth 65536 in
theorem w_c48 : (Jvm.Cond.code ({ cls := "java/lang/StringBuilder", name := "append", desc := "(C)Ljava/lang/StringBuilder;" } : Jvm.MethodName) jdk_67_method_14_code (2 : Nat) (Option.some (Jvm.ClassFile.FieldType.object "java/lang/StringBuilder"))).before args0 about1 = true := code_word (m := ⟨20, 2⟩) (meth := k20m2) (c := k20c2) (by decide +kernel) rfl rfl rfl (by decide +kernel)
set_option maxRecDepth 65536 in
theorem w_c49 : (Jvm.Cond.code ({ cls := "java/lang/AbstractStringBuilder", name := "append", desc := "(C)Ljava/lang/AbstractStringBuilder;" } : Jvm.MethodName) jdk_68_method_31_code (2 : Nat) (Option.some (Jvm.ClassFile.FieldType.object "java/lang/AbstractStringBuilder"))).before args0 about1 = true := code_word (m := ⟨19, 4⟩) (meth := k19m4) (c := k19c4) (by decide +kernel) rfl rfl rfl (by decide +kernel)
set_option maxRecDepth 65536 in
theorem w_c50 : (Jvm.Cond.code ({ cls := "java/lang/AbstractStringBuilder", name := "ensureCapacityInternal", desc := "(I)V" } : Jvm.MethodName) jdk_68_method_9_code (3 : Nat) (Option.none : Option Jvm.ClassFile.FieldType)).before args0 about1 = true := code_word (m := ⟨19, 3⟩) (meth := k19m3) (c := k19c3) (by decide +kernel) rfl rfl rfl (by decide +kernel)
set_option maxRecDepth 65536 in
theorem w_c51 : (Jvm.Cond.code ({ cls := "java/lang/AbstractStringBuilder", name := "isLatin1", desc := "()Z" } : Jvm.MethodName) jdk_68_method_68_code (1 : Nat) (Option.some Jvm.ClassFile.FieldType.boolean)).before args0 about1 = true := code_word (m := ⟨19, 6⟩) (meth := k19m6) (c := k19c6) (by decide +kernel) rfl rfl rfl (by decide +kernel)
set_option maxRecDepth 65536 in
theorem w_c52 : (Jvm.Cond.code ({ cls := "java/lang/StringLatin1", name := "canEncode", desc := "(C)Z" } : Jvm.MethodName) jdk_43_method_3_code (1 : Nat) (Option.some Jvm.ClassFile.FieldType.boolean)).before args0 about1 = true := code_word (m := ⟨12, 2⟩) (meth := k12m2) (c := k12c2) (by decide +kernel) rfl rfl rfl (by decide +kernel)
set_option maxRecDepth 65536 in
theorem w_c53 : (Jvm.Cond.code ({ cls := "java/lang/StringBuilder", name := "toString", desc := "()Ljava/lang/String;" } : Jvm.MethodName) jdk_67_method_42_code (1 : Nat) (Option.some (Jvm.ClassFile.FieldType.object "java/lang/String"))).before args0 about1 = true := code_word (m := ⟨20, 3⟩) (meth := k20m3) (c := k20c3) (by decide +kernel) rfl rfl rfl (by decide +kernel)
set_option maxRecDepth 65536 in
theorem w_c54 : (Jvm.Cond.code ({ cls := "java/lang/String", name := "<init>", desc := "(Ljava/lang/StringBuilder;)V" } : Jvm.MethodName) jdk_42_method_53_code (2 : Nat) (Option.none : Option Jvm.ClassFile.FieldType)).before args0 about1 = true := code_word (m := ⟨7, 2⟩) (meth := k7m2) (c := k7c2) (by decide +kernel) rfl rfl rfl (by decide +kernel)
set_option maxRecDepth 65536 in
theorem w_c55 : (Jvm.Cond.code ({ cls := "java/lang/String", name := "<init>", desc := "(Ljava/lang/AbstractStringBuilder;Ljava/lang/Void;)V" } : Jvm.MethodName) jdk_42_method_150_code (5 : Nat) (Option.none : Option Jvm.ClassFile.FieldType)).before args0 about1 = true := code_word (m := ⟨7, 12⟩) (meth := k7m12) (c := k7c12) (by decide +kernel) rfl rfl rfl (by decide +kernel)
set_option maxRecDepth 65536 in
theorem w_c56 : (Jvm.Cond.code ({ cls := "java/lang/AbstractStringBuilder", name := "getValue", desc := "()[B" } : Jvm.MethodName) jdk_68_method_64_code (1 : Nat) (Option.some (Jvm.ClassFile.FieldType.array Jvm.ClassFile.FieldType.byte))).before args0 about1 = true := code_word (m := ⟨19, 5⟩) (meth := k19m5) (c := k19c5) (by decide +kernel) rfl rfl rfl (by decide +kernel)
set_option maxRecDepth 65536 in
theorem w_c57 : (Jvm.Cond.code ({ cls := "java/lang/StringBuilder", name := "length", desc := "()I" } : Jvm.MethodName) jdk_67_method_93_code (1 : Nat) (Option.some Jvm.ClassFile.FieldType.int)).before args0 about1 = true := code_word (m := ⟨20, 4⟩) (meth := k20m4) (c := k20c4) (by decide +kernel) rfl rfl rfl (by decide +kernel)
set_option maxRecDepth 65536 in
theorem w_c58 : (Jvm.Cond.code ({ cls := "java/lang/AbstractStringBuilder", name := "length", desc := "()I" } : Jvm.MethodName) jdk_68_method_6_code (1 : Nat) (Option.some Jvm.ClassFile.FieldType.int)).before args0 about1 = true := code_word (m := ⟨19, 2⟩) (meth := k19m2) (c := k19c2) (by decide +kernel) rfl rfl rfl (by decide +kernel)
def codes1 : List Jvm.Cond := [Jvm.Cond.code x code maxLocals ret, Jvm.Cond.code ({ cls := "com/example/gated_claim/gatedclaim/idempotency/IdempotencyKeyParsePinLaw", name := "ws", desc := "(II)C" } : Jvm.MethodName) method_3_code (2 : Nat) (Option.some Jvm.ClassFile.FieldType.char), Jvm.Cond.code ({ cls := "com/example/gated_claim/gatedclaim/idempotency/IdempotencyKeyParsePinLaw", name := "bareChar", desc := "(I)C" } : Jvm.MethodName) method_7_code (2 : Nat) (Option.some Jvm.ClassFile.FieldType.char), Jvm.Cond.code ({ cls := "java/lang/String", name := "<init>", desc := "([C)V" } : Jvm.MethodName) jdk_42_method_3_code (2 : Nat) (Option.none : Option Jvm.ClassFile.FieldType), Jvm.Cond.code ({ cls := "java/lang/String", name := "<init>", desc := "([CIILjava/lang/Void;)V" } : Jvm.MethodName) jdk_42_method_149_code (6 : Nat) (Option.none : Option Jvm.ClassFile.FieldType), Jvm.Cond.code ({ cls := "java/lang/Object", name := "<init>", desc := "()V" } : Jvm.MethodName) object_method_1_code (1 : Nat) (Option.none : Option Jvm.ClassFile.FieldType), Jvm.Cond.code ({ cls := "java/lang/StringUTF16", name := "compress", desc := "([CII)[B" } : Jvm.MethodName) jdk_52_method_16_code (6 : Nat) (Option.some (Jvm.ClassFile.FieldType.array Jvm.ClassFile.FieldType.byte)), Jvm.Cond.code ({ cls := "java/lang/StringUTF16", name := "compress", desc := "([CI[BII)I" } : Jvm.MethodName) jdk_52_method_21_code (7 : Nat) (Option.some Jvm.ClassFile.FieldType.int), Jvm.Cond.code ({ cls := "java/lang/StringUTF16", name := "coderFromArrayLen", desc := "([BI)B" } : Jvm.MethodName) jdk_52_method_15_code (2 : Nat) (Option.some Jvm.ClassFile.FieldType.byte), Jvm.Cond.code ({ cls := "com/example/gated_claim/gatedclaim/idempotency/IdempotencyKey", name := "parse", desc := "(Ljava/lang/String;)Lcom/example/gated_claim/gatedclaim/idempotency/IdempotencyKey;" } : Jvm.MethodName) prog_2_method_2_code (2 : Nat) (Option.some (Jvm.ClassFile.FieldType.object "com/example/gated_claim/gatedclaim/idempotency/IdempotencyKey")), Jvm.Cond.code ({ cls := "java/util/Objects", name := "requireNonNull", desc := "(Ljava/lang/Object;Ljava/lang/String;)Ljava/lang/Object;" } : Jvm.MethodName) jdk_31_method_11_code (2 : Nat) (Option.some (Jvm.ClassFile.FieldType.object "java/lang/Object")), Jvm.Cond.code ({ cls := "com/example/gated_claim/gatedclaim/idempotency/IdempotencyKey", name := "stripOptionalWhitespace", desc := "(Ljava/lang/String;)Ljava/lang/String;" } : Jvm.MethodName) prog_2_method_4_code (3 : Nat) (Option.some (Jvm.ClassFile.FieldType.object "java/lang/String")), Jvm.Cond.code ({ cls := "java/lang/String", name := "length", desc := "()I" } : Jvm.MethodName) jdk_42_method_54_code (1 : Nat) (Option.some Jvm.ClassFile.FieldType.int), Jvm.Cond.code ({ cls := "java/lang/String", name := "coder", desc := "()B" } : Jvm.MethodName) jdk_42_method_152_code (1 : Nat) (Option.some Jvm.ClassFile.FieldType.byte), Jvm.Cond.code ({ cls := "java/lang/String", name := "charAt", desc := "(I)C" } : Jvm.MethodName) jdk_42_method_56_code (2 : Nat) (Option.some Jvm.ClassFile.FieldType.char), Jvm.Cond.code ({ cls := "java/lang/String", name := "isLatin1", desc := "()Z" } : Jvm.MethodName) jdk_42_method_154_code (1 : Nat) (Option.some Jvm.ClassFile.FieldType.boolean), Jvm.Cond.code ({ cls := "java/lang/StringLatin1", name := "charAt", desc := "([BI)C" } : Jvm.MethodName) jdk_43_method_2_code (2 : Nat) (Option.some Jvm.ClassFile.FieldType.char), Jvm.Cond.code ({ cls := "java/lang/String", name := "checkIndex", desc := "(II)V" } : Jvm.MethodName) jdk_42_method_155_code (2 : Nat) (Option.none : Option Jvm.ClassFile.FieldType), Jvm.Cond.code ({ cls := "jdk/internal/util/Preconditions", name := "checkIndex", desc := "(IILjava/util/function/BiFunction;)I" } : Jvm.MethodName) jdk_41_method_11_code (3 : Nat) (Option.some Jvm.ClassFile.FieldType.int), Jvm.Cond.code ({ cls := "com/example/gated_claim/gatedclaim/idempotency/IdempotencyKey", name := "isOptionalWhitespace", desc := "(C)Z" } : Jvm.MethodName) prog_2_method_5_code (1 : Nat) (Option.some Jvm.ClassFile.FieldType.boolean), Jvm.Cond.code ({ cls := "java/lang/String", name := "substring", desc := "(II)Ljava/lang/String;" } : Jvm.MethodName) jdk_42_method_92_code (5 : Nat) (Option.some (Jvm.ClassFile.FieldType.object "java/lang/String")), Jvm.Cond.code ({ cls := "java/lang/String", name := "checkBoundsBeginEnd", desc := "(III)V" } : Jvm.MethodName) jdk_42_method_158_code (3 : Nat) (Option.none : Option Jvm.ClassFile.FieldType), Jvm.Cond.code ({ cls := "jdk/internal/util/Preconditions", name := "checkFromToIndex", desc := "(IIILjava/util/function/BiFunction;)I" } : Jvm.MethodName) jdk_41_method_12_code (4 : Nat) (Option.some Jvm.ClassFile.FieldType.int), Jvm.Cond.code ({ cls := "java/lang/StringLatin1", name := "newString", desc := "([BII)Ljava/lang/String;" } : Jvm.MethodName) jdk_43_method_47_code (3 : Nat) (Option.some (Jvm.ClassFile.FieldType.object "java/lang/String")), Jvm.Cond.code ({ cls := "java/util/Arrays", name := "copyOfRange", desc := "([BII)[B" } : Jvm.MethodName) jdk_65_method_132_code (3 : Nat) (Option.some (Jvm.ClassFile.FieldType.array Jvm.ClassFile.FieldType.byte)), Jvm.Cond.code ({ cls := "java/util/Arrays", name := "copyOfRangeByte", desc := "([BII)[B" } : Jvm.MethodName) jdk_65_method_133_code (5 : Nat) (Option.some (Jvm.ClassFile.FieldType.array Jvm.ClassFile.FieldType.byte)), Jvm.Cond.code ({ cls := "java/util/Arrays", name := "checkLength", desc := "(II)V" } : Jvm.MethodName) jdk_65_method_131_code (2 : Nat) (Option.none : Option Jvm.ClassFile.FieldType), Jvm.Cond.code ({ cls := "java/lang/Math", name := "min", desc := "(II)I" } : Jvm.MethodName) jdk_29_method_69_code (2 : Nat) (Option.some Jvm.ClassFile.FieldType.int), Jvm.Cond.code ({ cls := "java/lang/String", name := "<init>", desc := "([BB)V" } : Jvm.MethodName) jdk_42_method_151_code (3 : Nat) (Option.none : Option Jvm.ClassFile.FieldType), Jvm.Cond.code ({ cls := "java/lang/String", name := "startsWith", desc := "(Ljava/lang/String;)Z" } : Jvm.MethodName) jdk_42_method_76_code (2 : Nat) (Option.some Jvm.ClassFile.FieldType.boolean), Jvm.Cond.code ({ cls := "java/lang/String", name := "startsWith", desc := "(Ljava/lang/String;I)Z" } : Jvm.MethodName) jdk_42_method_75_code (8 : Nat) (Option.some Jvm.ClassFile.FieldType.boolean), Jvm.Cond.code ({ cls := "jdk/internal/util/ArraysSupport", name := "mismatch", desc := "([BI[BII)I" } : Jvm.MethodName) jdk_48_method_14_code (8 : Nat) (Option.some Jvm.ClassFile.FieldType.int), Jvm.Cond.code ({ cls := "java/lang/String", name := "indexOf", desc := "(I)I" } : Jvm.MethodName) jdk_42_method_79_code (2 : Nat) (Option.some Jvm.ClassFile.FieldType.int), Jvm.Cond.code ({ cls := "java/lang/String", name := "indexOf", desc := "(II)I" } : Jvm.MethodName) jdk_42_method_80_code (3 : Nat) (Option.some Jvm.ClassFile.FieldType.int), Jvm.Cond.code ({ cls := "java/lang/StringLatin1", name := "indexOf", desc := "([BIII)I" } : Jvm.MethodName) jdk_43_method_22_code (4 : Nat) (Option.some Jvm.ClassFile.FieldType.int), Jvm.Cond.code ({ cls := "java/lang/StringLatin1", name := "canEncode", desc := "(I)Z" } : Jvm.MethodName) jdk_43_method_4_code (1 : Nat) (Option.some Jvm.ClassFile.FieldType.boolean), Jvm.Cond.code ({ cls := "java/lang/Math", name := "max", desc := "(II)I" } : Jvm.MethodName) jdk_29_method_65_code (2 : Nat) (Option.some Jvm.ClassFile.FieldType.int), Jvm.Cond.code ({ cls := "java/lang/StringLatin1", name := "indexOfChar", desc := "([BIII)I" } : Jvm.MethodName) jdk_43_method_23_code (6 : Nat) (Option.some Jvm.ClassFile.FieldType.int), Jvm.Cond.code ({ cls := "com/example/gated_claim/gatedclaim/idempotency/IdempotencyKey", name := "<init>", desc := "(Ljava/lang/String;)V" } : Jvm.MethodName) prog_2_method_1_code (4 : Nat) (Option.none : Option Jvm.ClassFile.FieldType), Jvm.Cond.code ({ cls := "java/lang/Record", name := "<init>", desc := "()V" } : Jvm.MethodName) jdk_30_method_1_code (1 : Nat) (Option.none : Option Jvm.ClassFile.FieldType), Jvm.Cond.code ({ cls := "java/lang/String", name := "isEmpty", desc := "()Z" } : Jvm.MethodName) jdk_42_method_55_code (1 : Nat) (Option.some Jvm.ClassFile.FieldType.boolean), Jvm.Cond.code ({ cls := "com/example/gated_claim/gatedclaim/idempotency/IdempotencyKey", name := "value", desc := "()Ljava/lang/String;" } : Jvm.MethodName) prog_2_method_9_code (1 : Nat) (Option.some (Jvm.ClassFile.FieldType.object "java/lang/String")), Jvm.Cond.code ({ cls := "com/example/gated_claim/gatedclaim/idempotency/IdempotencyKeyParsePinLaw", name := "putUnit", desc := "([CII)I" } : Jvm.MethodName) method_6_code (3 : Nat) (Option.some Jvm.ClassFile.FieldType.int), Jvm.Cond.code ({ cls := "com/example/gated_claim/gatedclaim/idempotency/IdempotencyKeyParsePinLaw", name := "plainQuoted", desc := "(I)C" } : Jvm.MethodName) method_4_code (2 : Nat) (Option.some Jvm.ClassFile.FieldType.char), Jvm.Cond.code ({ cls := "com/example/gated_claim/gatedclaim/idempotency/IdempotencyKeyParsePinLaw", name := "keyChar", desc := "(I)C" } : Jvm.MethodName) method_5_code (1 : Nat) (Option.some Jvm.ClassFile.FieldType.char), Jvm.Cond.code ({ cls := "com/example/gated_claim/gatedclaim/idempotency/IdempotencyKey", name := "unquote", desc := "(Ljava/lang/String;)Ljava/lang/String;" } : Jvm.MethodName) prog_2_method_3_code (4 : Nat) (Option.some (Jvm.ClassFile.FieldType.object "java/lang/String")), Jvm.Cond.code ({ cls := "java/lang/StringBuilder", name := "<init>", desc := "(I)V" } : Jvm.MethodName) jdk_67_method_2_code (2 : Nat) (Option.none : Option Jvm.ClassFile.FieldType), Jvm.Cond.code ({ cls := "java/lang/AbstractStringBuilder", name := "<init>", desc := "(I)V" } : Jvm.MethodName) jdk_68_method_2_code (2 : Nat) (Option.none : Option Jvm.ClassFile.FieldType), Jvm.Cond.code ({ cls := "java/lang/StringBuilder", name := "append", desc := "(C)Ljava/lang/StringBuilder;" } : Jvm.MethodName) jdk_67_method_14_code (2 : Nat) (Option.some (Jvm.ClassFile.FieldType.object "java/lang/StringBuilder")), Jvm.Cond.code ({ cls := "java/lang/AbstractStringBuilder", name := "append", desc := "(C)Ljava/lang/AbstractStringBuilder;" } : Jvm.MethodName) jdk_68_method_31_code (2 : Nat) (Option.some (Jvm.ClassFile.FieldType.object "java/lang/AbstractStringBuilder")), Jvm.Cond.code ({ cls := "java/lang/AbstractStringBuilder", name := "ensureCapacityInternal", desc := "(I)V" } : Jvm.MethodName) jdk_68_method_9_code (3 : Nat) (Option.none : Option Jvm.ClassFile.FieldType), Jvm.Cond.code ({ cls := "java/lang/AbstractStringBuilder", name := "isLatin1", desc := "()Z" } : Jvm.MethodName) jdk_68_method_68_code (1 : Nat) (Option.some Jvm.ClassFile.FieldType.boolean), Jvm.Cond.code ({ cls := "java/lang/StringLatin1", name := "canEncode", desc := "(C)Z" } : Jvm.MethodName) jdk_43_method_3_code (1 : Nat) (Option.some Jvm.ClassFile.FieldType.boolean), Jvm.Cond.code ({ cls := "java/lang/StringBuilder", name := "toString", desc := "()Ljava/lang/String;" } : Jvm.MethodName) jdk_67_method_42_code (1 : Nat) (Option.some (Jvm.ClassFile.FieldType.object "java/lang/String")), Jvm.Cond.code ({ cls := "java/lang/String", name := "<init>", desc := "(Ljava/lang/StringBuilder;)V" } : Jvm.MethodName) jdk_42_method_53_code (2 : Nat) (Option.none : Option Jvm.ClassFile.FieldType), Jvm.Cond.code ({ cls := "java/lang/String", name := "<init>", desc := "(Ljava/lang/AbstractStringBuilder;Ljava/lang/Void;)V" } : Jvm.MethodName) jdk_42_method_150_code (5 : Nat) (Option.none : Option Jvm.ClassFile.FieldType), Jvm.Cond.code ({ cls := "java/lang/AbstractStringBuilder", name := "getValue", desc := "()[B" } : Jvm.MethodName) jdk_68_method_64_code (1 : Nat) (Option.some (Jvm.ClassFile.FieldType.array Jvm.ClassFile.FieldType.byte)), Jvm.Cond.code ({ cls := "java/lang/StringBuilder", name := "length", desc := "()I" } : Jvm.MethodName) jdk_67_method_93_code (1 : Nat) (Option.some Jvm.ClassFile.FieldType.int), Jvm.Cond.code ({ cls := "java/lang/AbstractStringBuilder", name := "length", desc := "()I" } : Jvm.MethodName) jdk_68_method_6_code (1 : Nat) (Option.some Jvm.ClassFile.FieldType.int)]
set_option maxRecDepth 65536 in
theorem codes_eq : words1.filter isCode = codes1 := rfl
theorem w_codes : ∀ c ∈ words1.filter isCode, c.before args0 about1 = true := by
  rw [codes_eq]
  intro c hc
  simp only [codes1, List.mem_cons, List.not_mem_nil, or_false] at hc
  rcases hc with rfl | rfl | rfl | rfl | rfl | rfl | rfl | rfl | rfl | rfl | rfl | rfl | rfl | rfl | rfl | rfl | rfl | rfl | rfl | rfl | rfl | rfl | rfl | rfl | rfl | rfl | rfl | rfl | rfl | rfl | rfl | rfl | rfl | rfl | rfl | rfl | rfl | rfl | rfl | rfl | rfl | rfl | rfl | rfl | rfl | rfl | rfl | rfl | rfl | rfl | rfl | rfl | rfl | rfl | rfl | rfl | rfl | rfl | rfl
  · exact w_c0
  · exact w_c1
  · exact w_c2
  · exact w_c3
  · exact w_c4
  · exact w_c5
  · exact w_c6
  · exact w_c7
  · exact w_c8
  · exact w_c9
  · exact w_c10
  · exact w_c11
  · exact w_c12
  · exact w_c13
  · exact w_c14
  · exact w_c15
  · exact w_c16
  · exact w_c17
  · exact w_c18
  · exact w_c19
  · exact w_c20
  · exact w_c21
  · exact w_c22
  · exact w_c23
  · exact w_c24
  · exact w_c25
  · exact w_c26
  · exact w_c27
  · exact w_c28
  · exact w_c29
  · exact w_c30
  · exact w_c31
  · exact w_c32
  · exact w_c33
  · exact w_c34
  · exact w_c35
  · exact w_c36
  · exact w_c37
  · exact w_c38
  · exact w_c39
  · exact w_c40
  · exact w_c41
  · exact w_c42
  · exact w_c43
  · exact w_c44
  · exact w_c45
  · exact w_c46
  · exact w_c47
  · exact w_c48
  · exact w_c49
  · exact w_c50
  · exact w_c51
  · exact w_c52
  · exact w_c53
  · exact w_c54
  · exact w_c55
  · exact w_c56
  · exact w_c57
  · exact w_c58
set_option maxRecDepth 65536 in
theorem w_t1 : (words1.take 24).all (fun c => isCode c || c.before args0 about1) = true := by decide +kernel
set_option maxRecDepth 65536 in
theorem w_t2 : ((words1.drop 24).take 24).all (fun c => isCode c || c.before args0 about1) = true := by decide +kernel
set_option maxRecDepth 65536 in
theorem w_t3 : (((words1.drop 24).drop 24).take 24).all (fun c => isCode c || c.before args0 about1) = true := by decide +kernel
set_option maxRecDepth 65536 in
theorem w_t4 : ((((words1.drop 24).drop 24).drop 24).take 24).all (fun c => isCode c || c.before args0 about1) = true := by decide +kernel
set_option maxRecDepth 65536 in
theorem w_t5 : (((((words1.drop 24).drop 24).drop 24).drop 24).take 24).all (fun c => isCode c || c.before args0 about1) = true := by decide +kernel
set_option maxRecDepth 65536 in
theorem w_t6 : ((((((words1.drop 24).drop 24).drop 24).drop 24).drop 24).take 24).all (fun c => isCode c || c.before args0 about1) = true := by decide +kernel
set_option maxRecDepth 65536 in
theorem w_t7 : (((((((words1.drop 24).drop 24).drop 24).drop 24).drop 24).drop 24).take 24).all (fun c => isCode c || c.before args0 about1) = true := by decide +kernel
set_option maxRecDepth 65536 in
theorem w_t8 : ((((((((words1.drop 24).drop 24).drop 24).drop 24).drop 24).drop 24).drop 24).take 24).all (fun c => isCode c || c.before args0 about1) = true := by decide +kernel
set_option maxRecDepth 65536 in
theorem w_t9 : (((((((((words1.drop 24).drop 24).drop 24).drop 24).drop 24).drop 24).drop 24).drop 24).take 24).all (fun c => isCode c || c.before args0 about1) = true := by decide +kernel
set_option maxRecDepth 65536 in
theorem w_t10 : ((((((((((words1.drop 24).drop 24).drop 24).drop 24).drop 24).drop 24).drop 24).drop 24).drop 24).take 24).all (fun c => isCode c || c.before args0 about1) = true := by decide +kernel
set_option maxRecDepth 65536 in
theorem w_t11 : (((((((((((words1.drop 24).drop 24).drop 24).drop 24).drop 24).drop 24).drop 24).drop 24).drop 24).drop 24).take 24).all (fun c => isCode c || c.before args0 about1) = true := by decide +kernel
set_option maxRecDepth 65536 in
theorem w_t12 : (((((((((((words1.drop 24).drop 24).drop 24).drop 24).drop 24).drop 24).drop 24).drop 24).drop 24).drop 24).drop 24).all (fun c => isCode c || c.before args0 about1) = true := by decide +kernel
theorem w_tables : (allAtoms (Jvm.Cond.code x code maxLocals ret :: tables_1)).before args0 about1 = true := by
  rw [allAtoms_all]
  show words1.all (fun c => c.before args0 about1) = true
  refine all_split ?_ w_codes
  rw [← List.take_append_drop 24 words1, List.all_append, w_t1, ← List.take_append_drop 24 (words1.drop 24), List.all_append, w_t2, ← List.take_append_drop 24 ((words1.drop 24).drop 24), List.all_append, w_t3, ← List.take_append_drop 24 (((words1.drop 24).drop 24).drop 24), List.all_append, w_t4, ← List.take_append_drop 24 ((((words1.drop 24).drop 24).drop 24).drop 24), List.all_append, w_t5, ← List.take_append_drop 24 (((((words1.drop 24).drop 24).drop 24).drop 24).drop 24), List.all_append, w_t6, ← List.take_append_drop 24 ((((((words1.drop 24).drop 24).drop 24).drop 24).drop 24).drop 24), List.all_append, w_t7, ← List.take_append_drop 24 (((((((words1.drop 24).drop 24).drop 24).drop 24).drop 24).drop 24).drop 24), List.all_append, w_t8, ← List.take_append_drop 24 ((((((((words1.drop 24).drop 24).drop 24).drop 24).drop 24).drop 24).drop 24).drop 24), List.all_append, w_t9, ← List.take_append_drop 24 (((((((((words1.drop 24).drop 24).drop 24).drop 24).drop 24).drop 24).drop 24).drop 24).drop 24), List.all_append, w_t10, ← List.take_append_drop 24 ((((((((((words1.drop 24).drop 24).drop 24).drop 24).drop 24).drop 24).drop 24).drop 24).drop 24).drop 24), List.all_append, w_t11, w_t12]
  rfl
set_option maxRecDepth 65536 in
theorem w_rest : rest_1_c.before args0 about1 = true := by decide +kernel
set_option maxRecDepth 65536 in
theorem w_case : (Jvm.Cond.and given_1 narrow_1).before args0 about1 = true := by decide +kernel
set_option maxRecDepth 65536 in
theorem w_consts : constsHeld consts_1 about1 := Jvm.Lit.constsHeldB_iff.mp (by decide +kernel)
theorem w_applies : (headSpec (Jvm.Cond.code x code maxLocals ret :: tables_1) room_1).applies x e0.platform about1 = true :=
  (Spec.applies_iff w_frames).mpr ⟨w_running, w_runnable, w_alone, w_named, w_hears, w_ripe, w_room, w_tables⟩
theorem atStart : AtStart classFile x code maxLocals ret World_1 tables_1 room_1 Calls_1 rest_1 Pre_1 launch0 p0 e0 about1 theMethod args0 below0 :=
  ⟨lists_1, trivial, launch0.admits_env _ _ _, launch0.least_env, fairChoices_fair.cas, fairChoices_fair.clock, w_frames, w_args, w_heap, w_applies, ⟨w_consts, trivial⟩, w_rest, w_case⟩
end start1
theorem witness_1 : WitnessClaimed_1 := ⟨start1.p0, start1.e0, start1.about1, start1.theMethod, start1.args0, start1.below0, start1.atStart⟩
end Jvm.Pilot.@@N@@
