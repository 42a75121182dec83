import JvmDerived
import JvmDerived.Pilot.@@N@@Statement
import JvmDerived.Pilot.@@N@@Code
set_option linter.unusedVariables false
set_option linter.unusedSimpArgs false
namespace Jvm.Pilot.@@N@@
open Jvm Jvm.ClassFile Sem Op Lib Jvm.Free Jvm.Stand Jvm.LawKit Jvm.RoadKit Bundle Jvm.Pilot.@@N@@.Jvm.D
/-! ## A small program logic over 'Stand': oGo says that from here the method comes to its end and Q holds there. -/
def oDok (Z : State) (EL : List (String × Nat)) (vm : Vm) (h : Heap) (D : List Addr) : Prop := ∀ x ∈ D, Z.heap.size ≤ x ∧ x < h.size ∧ Safe Z EL vm h x
def oInv (l : Launch) (Z : State) (a0 : Array Value) (EL : List (String × Nat)) (wd : Prop) (p : Program) (e : Env) (s : State) (m : MethodId) (args : Array Value) (below : List Frame) (meth : Method) (c : Code) (R : Room) (own : String) (bytes : ByteArray) (mx : Nat) (rt : Option FieldType) (nm : String)
    (D : List Addr) (h : Heap) (k n : Nat) (T : State) (locs : List Loc) (vm0 : Vm) (k0 : Nat) : Prop :=
  (p.tables.exec = Jvm.exec ∧ c.code = bytes ∧ c.maxLocals = mx ∧ meth.sig.returnType = rt ∧ meth.locks = false ∧ meth.name = nm ∧ EW Z a0 EL) ∧
  T.heap = h ∧ Ext Z.heap h ∧ Fr Z.heap.size locs ∧ Stand p l e R (s.setVm vm0) m args below meth c T locs k n ∧ s.Since vm0 k0 ∧ k0 ≤ h.size ∧ Z.Warmed39 vm0 ∧ vm0.findClass own = some m.cls ∧ CHr Z EL s.vm s.heap vm0 h ∧ (wd ∨ s.WarmedH vm0) ∧ oDok Z EL vm0 h D
def oRes (Z : State) (EL : List (String × Nat)) (wd : Prop) (p : Program) (e : Env) (s : State) (below : List Frame) (R : Room) (Q : Option Value → Heap → Prop) (O : Option Value → Heap → Addr → Prop) (t : State) : Prop :=
  ∃ (V : State) (v : Option Value) (L : List Loc), Steps p.tables e below t V ∧ V.status = .running ∧ Ended V below (.returned v) ∧ (Q v V.heap ∧ ∀ x, O v V.heap x → Z.heap.size ≤ x ∧ x < V.heap.size ∧ Safe Z EL V.vm V.heap x) ∧ Fr Z.heap.size L ∧ Ext Z.heap V.heap ∧ CHr Z EL s.vm s.heap V.vm V.heap ∧ (wd ∨ s.WarmedH V.vm) ∧ ReturnedEndW s (.returned v) V L R.cells R.slots
def oGo (l : Launch) (Z : State) (a0 : Array Value) (EL : List (String × Nat)) (wd : Prop) (p : Program) (e : Env) (s : State) (m : MethodId) (args : Array Value) (below : List Frame) (meth : Method) (c : Code) (R : Room) (own : String) (bytes : ByteArray) (mx : Nat) (rt : Option FieldType) (nm : String)
    (Q : Option Value → Heap → Prop) (O : Option Value → Heap → Addr → Prop) (D : List Addr) (h : Heap) (k n : Nat) (pc : Nat) (Ls : Array Slot) (st : List Value) : Prop :=
  ∀ T locs vm0 k0, oInv l Z a0 EL wd p e s m args below meth c R own bytes mx rt nm D h k n T locs vm0 k0 → oRes Z EL wd p e s below R Q O (T.setTop (mkF m pc Ls st))
def oCtr (ws : List Jvm.Cond) (l : Launch) (Z : State) (a0 : Array Value) (EL : List (String × Nat)) (wd : Prop) (y : MethodName) (bytes : ByteArray) (mx : Nat) (rt : Option FieldType) (rm : Room) (as' : Array Value) (D : List Addr) (h : Heap) (Q : Option Value → Heap → Prop) (O : Option Value → Heap → Addr → Prop) : Prop :=
  MetFree l y (head1 (Cond.code y bytes mx rt :: ws) rm) (fun a U => a = as' ∧ Z.Warmed39 U.vm ∧ U.heap = h ∧ Ext Z.heap h ∧ CHv Z EL U.vm h ∧ oDok Z EL U.vm h D) (fun _ _ _ _ _ => True)
    (fun _ U o U' => ∃ v L, o = .returned v ∧ (Q v U'.heap ∧ ∀ x, O v U'.heap x → Z.heap.size ≤ x ∧ x < U'.heap.size ∧ Safe Z EL U'.vm U'.heap x) ∧ Fr Z.heap.size L ∧ Ext Z.heap U'.heap ∧ CHr Z EL U.vm U.heap U'.vm U'.heap ∧ (wd ∨ U.WarmedH U'.vm) ∧ ReturnedEndW U o U' L rm.cells rm.slots)
abbrev oRet : Option Value → Heap → Addr → Prop := fun v _ x => v = some (.ref x)
abbrev oNo : Option Value → Heap → Addr → Prop := fun _ _ _ => False
section Logic
variable {l : Launch} {Z : State} {a0 : Array Value} {EL : List (String × Nat)} {wd : Prop} {p : Program} {e : Env} {s : State} {m : MethodId} {args : Array Value} {below : List Frame} {meth : Method} {c : Code} {R : Room} {own : String} {bytes : ByteArray} {mx : Nat} {rt : Option FieldType} {nm : String}
  {Q : Option Value → Heap → Prop} {O : Option Value → Heap → Addr → Prop} {D : List Addr} {h : Heap} {k n : Nat} {pc pc' pc1 pc2 : Nat} {Ls Ls' : Array Slot} {st st' : List Value}
theorem oDok.ext {vm : Vm} {h' : Heap} (E : Ext h h') (H : CHv Z EL vm h) (q : oDok Z EL vm h D) : oDok Z EL vm h' D := fun x hx => ⟨(q x hx).1, Nat.lt_of_lt_of_le (q x hx).2.1 E.1, (q x hx).2.2.ext E H⟩
theorem oDok.wr {vm : Vm} {h' : Heap} {a : Addr} {sl : Nat} {v : Value} (W : Wr h h' a sl v) (S : Safe Z EL vm h a) (H : CHv Z EL vm h) (q : oDok Z EL vm h D) : oDok Z EL vm h' D := fun x hx => ⟨(q x hx).1, by rw [W.size]; exact (q x hx).2.1, Safe.wr W S H (q x hx).2.2⟩
theorem oDok.chr {vm vm1 : Vm} {h' : Heap} (A : CHr Z EL vm h vm1 h') (q : oDok Z EL vm h D) : oDok Z EL vm1 h' D := fun x hx => ⟨(q x hx).1, Nat.lt_of_lt_of_le (q x hx).2.1 A.2.1, A.safe (q x hx).2.1 (q x hx).2.2⟩
theorem oDok.sub {vm : Vm} {D' : List Addr} (q : oDok Z EL vm h D) (hs : ∀ x ∈ D', x ∈ D) : oDok Z EL vm h D' := fun x hx => q x (hs x hx)
theorem ext_refl (h : Heap) : Ext h h := ⟨Nat.le_refl _, fun _ _ q => q⟩
theorem ext_trans {h h' h2 : Heap} (A : Ext h h') (B : Ext h' h2) : Ext h h2 := ⟨Nat.le_trans A.1 B.1, fun a c q => B.2 a c (A.2 a c q)⟩
theorem ext_wr {h0 h h' : Heap} {a : Addr} {sl : Nat} {v : Value} (E : Ext h0 h) (W : Wr h h' a sl v) (q : h0.size ≤ a) : Ext h0 h' := by
  refine ⟨by rw [W.size]; exact E.1, fun b cb hb => ?_⟩
  obtain ⟨cb', h1, -, -, -, h5, -⟩ := wr_at W (E.2 b cb hb)
  rw [← h5 (fun e1 => by subst e1; exact absurd (Array.getElem?_eq_some_iff.mp hb).1 (Nat.not_lt.mpr q))]; exact h1
/-- entering -/
theorem oCtr.enter {ws : List Jvm.Cond} {y : MethodName} {rm : Room} {as' : Array Value} (pn : plainFor y = true) (hEW : EW Z a0 EL) (ef : ∀ m, entryFrame m as' mx = mkF m 0 Ls [])
    (g : ∀ (p : Program) (e : Env) (s : State) (m : MethodId) (below : List Frame) (meth : Method) (c : Code), oGo l Z a0 EL wd p e s m as' below meth c rm y.cls bytes mx rt y.name Q O D h 0 0 0 Ls []) : oCtr ws l Z a0 EL wd y bytes mx rt rm as' D h Q O := by
  refine MetFree.of_bodySF pn hisR ?_
  intro p e s m args below meth c s₁ Bd hml0 hP hK
  obtain ⟨rfl, hZ, hh, hE, hC, hD⟩ := hP
  have X0 : Stand p l e rm s m args below meth c s₁ [] 0 0 := Stand.of_body Bd
  have e0 : s₁.heap = h := by rw [← hh, Bd.state]; rfl
  have hown : s.vm.findClass y.cls = some m.cls := findClass_of_methodNamed Bd.named
  have hnm := (name_of_methodNamed Bd.named Bd.method).1
  obtain ⟨V, v, L, h1, h2, h3, h4, h5, h6, h7, h8, h9⟩ := g p e s m below meth c s₁ [] s.vm s.heap.size ⟨⟨Bd.exec, Bd.bytes, hml0, Bd.returns, Bd.notSynchronized, hnm, hEW⟩, e0, hE, Fr.nil _, X0, (State.WarmedH.refl s).since _, by rw [hh]; exact Nat.le_refl _, hZ, hown, by rw [hh]; exact CHr.refl hC, Or.inr (State.WarmedH.refl s), hD⟩
  exact ⟨V, .returned v, by rw [ef]; exact h1, h2, h3, v, L, rfl, h4, h5, h6, h7, h8, h9⟩
/-- steps that touch neither heap nor tables -/
theorem oGo.pure (H : ∀ T : State, At T m c below → c.code = bytes → p.tables.exec = Jvm.exec → ∀ t, Steps p.tables e below (T.setTop (mkF m pc' Ls' st')) t → Steps p.tables e below (T.setTop (mkF m pc Ls st)) t)
    (g : oGo l Z a0 EL wd p e s m args below meth c R own bytes mx rt nm Q O D h k n pc' Ls' st') : oGo l Z a0 EL wd p e s m args below meth c R own bytes mx rt nm Q O D h k n pc Ls st := by
  intro T locs vm0 k0 I
  obtain ⟨V, v, L, hs, r⟩ := g T locs vm0 k0 I
  obtain ⟨⟨hx, hb, -⟩, -, -, -, X, -⟩ := I
  exact ⟨V, v, L, H T X.here hb hx V hs, r⟩
def oSl (o : Slot) : Prop := o = .unset ∨ ∃ w : Value, o = .val w ∧ w.category = 1
theorem oGo.aload {i : Nat} {v : Value} (hd : decode bytes pc = .ok (.aload i, 2)) (hp : pc + 2 = pc') (hl : Ls[i]? = some (.val v)) (hv : v.isRef = true) (g : oGo l Z a0 EL wd p e s m args below meth c R own bytes mx rt nm Q O D h k n pc' Ls (v :: st)) : oGo l Z a0 EL wd p e s m args below meth c R own bytes mx rt nm Q O D h k n pc Ls (st) := by
  subst hp; exact oGo.pure (fun T hA hb hx t hr => XS.aload hA hx rfl (by rw [hb]; exact hd) hl hv hr) g
theorem oGo.aload_n {i : Fin 4} {v : Value} (hd : decode bytes pc = .ok (.aload_n i, 1)) (hp : pc + 1 = pc') (hl : Ls[i.val]? = some (.val v)) (hv : v.isRef = true) (g : oGo l Z a0 EL wd p e s m args below meth c R own bytes mx rt nm Q O D h k n pc' Ls (v :: st)) : oGo l Z a0 EL wd p e s m args below meth c R own bytes mx rt nm Q O D h k n pc Ls (st) := by
  subst hp; exact oGo.pure (fun T hA hb hx t hr => XS.aloadN hA hx rfl (by rw [hb]; exact hd) hl hv hr) g
theorem oGo.iload {i : Nat} {v : Int32} (hd : decode bytes pc = .ok (.iload i, 2)) (hp : pc + 2 = pc') (hl : Ls[i]? = some (.val (.int v))) (g : oGo l Z a0 EL wd p e s m args below meth c R own bytes mx rt nm Q O D h k n pc' Ls (.int v :: st)) : oGo l Z a0 EL wd p e s m args below meth c R own bytes mx rt nm Q O D h k n pc Ls (st) := by
  subst hp; exact oGo.pure (fun T hA hb hx t hr => XS.iload hA hx rfl (by rw [hb]; exact hd) hl hr) g
theorem oGo.iload_n {i : Fin 4} {v : Int32} (hd : decode bytes pc = .ok (.iload_n i, 1)) (hp : pc + 1 = pc') (hl : Ls[i.val]? = some (.val (.int v))) (g : oGo l Z a0 EL wd p e s m args below meth c R own bytes mx rt nm Q O D h k n pc' Ls (.int v :: st)) : oGo l Z a0 EL wd p e s m args below meth c R own bytes mx rt nm Q O D h k n pc Ls (st) := by
  subst hp; exact oGo.pure (fun T hA hb hx t hr => XS.iloadN hA hx rfl (by rw [hb]; exact hd) hl hr) g
theorem oGo.istore {i : Nat} {v : Int32} (hd : decode bytes pc = .ok (.istore i, 2)) (hp : pc + 2 = pc') (hl : storeLocals Ls i (.int v) = some Ls') (g : oGo l Z a0 EL wd p e s m args below meth c R own bytes mx rt nm Q O D h k n pc' Ls' (st)) : oGo l Z a0 EL wd p e s m args below meth c R own bytes mx rt nm Q O D h k n pc Ls (.int v :: st) := by
  subst hp; exact oGo.pure (fun T hA hb hx t hr => XS.istore hA hx rfl (by rw [hb]; exact hd) rfl hl hr) g
theorem oGo.istore_n {i : Fin 4} {v : Int32} (hd : decode bytes pc = .ok (.istore_n i, 1)) (hp : pc + 1 = pc') (hl : storeLocals Ls i.val (.int v) = some Ls') (g : oGo l Z a0 EL wd p e s m args below meth c R own bytes mx rt nm Q O D h k n pc' Ls' (st)) : oGo l Z a0 EL wd p e s m args below meth c R own bytes mx rt nm Q O D h k n pc Ls (.int v :: st) := by
  subst hp; exact oGo.pure (fun T hA hb hx t hr => XS.istoreN hA hx rfl (by rw [hb]; exact hd) rfl hl hr) g
theorem oGo.lload {i : Nat} {v : Int64} (hd : decode bytes pc = .ok (.lload i, 2)) (hp : pc + 2 = pc') (hl : Ls[i]? = some (.val (.long v))) (g : oGo l Z a0 EL wd p e s m args below meth c R own bytes mx rt nm Q O D h k n pc' Ls (.long v :: st)) : oGo l Z a0 EL wd p e s m args below meth c R own bytes mx rt nm Q O D h k n pc Ls (st) := by
  subst hp; exact oGo.pure (fun T hA hb hx t hr => XT.lload hA hx rfl (by rw [hb]; exact hd) hl hr) g
theorem oGo.lload_n {i : Fin 4} {v : Int64} (hd : decode bytes pc = .ok (.lload_n i, 1)) (hp : pc + 1 = pc') (hl : Ls[i.val]? = some (.val (.long v))) (g : oGo l Z a0 EL wd p e s m args below meth c R own bytes mx rt nm Q O D h k n pc' Ls (.long v :: st)) : oGo l Z a0 EL wd p e s m args below meth c R own bytes mx rt nm Q O D h k n pc Ls (st) := by
  subst hp; exact oGo.pure (fun T hA hb hx t hr => XT.lloadN hA hx rfl (by rw [hb]; exact hd) hl hr) g
theorem oGo.lstore {i : Nat} {v : Int64} (hd : decode bytes pc = .ok (.lstore i, 2)) (hp : pc + 2 = pc') (hl : storeLocals Ls i (.long v) = some Ls') (g : oGo l Z a0 EL wd p e s m args below meth c R own bytes mx rt nm Q O D h k n pc' Ls' (st)) : oGo l Z a0 EL wd p e s m args below meth c R own bytes mx rt nm Q O D h k n pc Ls (.long v :: st) := by
  subst hp; exact oGo.pure (fun T hA hb hx t hr => XT.lstore hA hx rfl (by rw [hb]; exact hd) rfl hl hr) g
theorem oGo.lstore_n {i : Fin 4} {v : Int64} (hd : decode bytes pc = .ok (.lstore_n i, 1)) (hp : pc + 1 = pc') (hl : storeLocals Ls i.val (.long v) = some Ls') (g : oGo l Z a0 EL wd p e s m args below meth c R own bytes mx rt nm Q O D h k n pc' Ls' (st)) : oGo l Z a0 EL wd p e s m args below meth c R own bytes mx rt nm Q O D h k n pc Ls (.long v :: st) := by
  subst hp; exact oGo.pure (fun T hA hb hx t hr => XT.lstoreN hA hx rfl (by rw [hb]; exact hd) rfl hl hr) g
theorem oGo.astore {i : Nat} {v : Value} (hd : decode bytes pc = .ok (.astore i, 2)) (hp : pc + 2 = pc') (hv : v.isRef = true) (hl : storeLocals Ls i v = some Ls') (g : oGo l Z a0 EL wd p e s m args below meth c R own bytes mx rt nm Q O D h k n pc' Ls' (st)) : oGo l Z a0 EL wd p e s m args below meth c R own bytes mx rt nm Q O D h k n pc Ls (v :: st) := by
  subst hp; exact oGo.pure (fun T hA hb hx t hr => XS.astore hA hx rfl (by rw [hb]; exact hd) rfl hv hl hr) g
theorem oGo.astore_n {i : Fin 4} {v : Value} (hd : decode bytes pc = .ok (.astore_n i, 1)) (hp : pc + 1 = pc') (hv : v.isRef = true) (hl : storeLocals Ls i.val v = some Ls') (g : oGo l Z a0 EL wd p e s m args below meth c R own bytes mx rt nm Q O D h k n pc' Ls' (st)) : oGo l Z a0 EL wd p e s m args below meth c R own bytes mx rt nm Q O D h k n pc Ls (v :: st) := by
  subst hp; exact oGo.pure (fun T hA hb hx t hr => XS.astoreN hA hx rfl (by rw [hb]; exact hd) rfl hv hl hr) g
theorem oGo.istoreS {i : Nat} {v : Int32} {o : Slot} (hd : decode bytes pc = .ok (.istore i, 2)) (hp : pc + 2 = pc') (ho : oSl o) (hold : Ls[i]? = some o) (hl : Ls.setIfInBounds i (.val (.int v)) = Ls') (g : oGo l Z a0 EL wd p e s m args below meth c R own bytes mx rt nm Q O D h k n pc' Ls' st) : oGo l Z a0 EL wd p e s m args below meth c R own bytes mx rt nm Q O D h k n pc Ls (.int v :: st) := by
  subst hp hl; exact oGo.pure (fun T hA hb hx t hr => XS.istore hA hx rfl (by rw [hb]; exact hd) rfl (XS.store1 hold ho rfl) hr) g
theorem oGo.istore_nS {i : Fin 4} {v : Int32} {o : Slot} (hd : decode bytes pc = .ok (.istore_n i, 1)) (hp : pc + 1 = pc') (ho : oSl o) (hold : Ls[i.val]? = some o) (hl : Ls.setIfInBounds i.val (.val (.int v)) = Ls') (g : oGo l Z a0 EL wd p e s m args below meth c R own bytes mx rt nm Q O D h k n pc' Ls' st) : oGo l Z a0 EL wd p e s m args below meth c R own bytes mx rt nm Q O D h k n pc Ls (.int v :: st) := by
  subst hp hl; exact oGo.pure (fun T hA hb hx t hr => XS.istoreN hA hx rfl (by rw [hb]; exact hd) rfl (XS.store1 hold ho rfl) hr) g
theorem oGo.astoreS {i : Nat} {v : Value} {o : Slot} (hd : decode bytes pc = .ok (.astore i, 2)) (hp : pc + 2 = pc') (hv : v.isRef = true) (hc : v.category = 1) (ho : oSl o) (hold : Ls[i]? = some o) (hl : Ls.setIfInBounds i (.val (v)) = Ls') (g : oGo l Z a0 EL wd p e s m args below meth c R own bytes mx rt nm Q O D h k n pc' Ls' st) : oGo l Z a0 EL wd p e s m args below meth c R own bytes mx rt nm Q O D h k n pc Ls (v :: st) := by
  subst hp hl; exact oGo.pure (fun T hA hb hx t hr => XS.astore hA hx rfl (by rw [hb]; exact hd) rfl hv (XS.store1 hold ho hc) hr) g
theorem oGo.astore_nS {i : Fin 4} {v : Value} {o : Slot} (hd : decode bytes pc = .ok (.astore_n i, 1)) (hp : pc + 1 = pc') (hv : v.isRef = true) (hc : v.category = 1) (ho : oSl o) (hold : Ls[i.val]? = some o) (hl : Ls.setIfInBounds i.val (.val (v)) = Ls') (g : oGo l Z a0 EL wd p e s m args below meth c R own bytes mx rt nm Q O D h k n pc' Ls' st) : oGo l Z a0 EL wd p e s m args below meth c R own bytes mx rt nm Q O D h k n pc Ls (v :: st) := by
  subst hp hl; exact oGo.pure (fun T hA hb hx t hr => XS.astoreN hA hx rfl (by rw [hb]; exact hd) rfl hv (XS.store1 hold ho hc) hr) g
theorem oGo.iconst {i : Int} {v : Int32} (hd : decode bytes pc = .ok (.iconst i, 1)) (hp : pc + 1 = pc') (hv : Int32.ofInt i = v) (g : oGo l Z a0 EL wd p e s m args below meth c R own bytes mx rt nm Q O D h k n pc' Ls (.int v :: st)) : oGo l Z a0 EL wd p e s m args below meth c R own bytes mx rt nm Q O D h k n pc Ls (st) := by
  subst hp; subst hv; exact oGo.pure (fun T hA hb hx t hr => XS.iconst hA hx rfl (by rw [hb]; exact hd)  hr) g
theorem oGo.bipush {i : Int} {v : Int32} (hd : decode bytes pc = .ok (.bipush i, 2)) (hp : pc + 2 = pc') (hv : (Int8.ofInt i).toInt32 = v) (g : oGo l Z a0 EL wd p e s m args below meth c R own bytes mx rt nm Q O D h k n pc' Ls (.int v :: st)) : oGo l Z a0 EL wd p e s m args below meth c R own bytes mx rt nm Q O D h k n pc Ls (st) := by
  subst hp; subst hv; exact oGo.pure (fun T hA hb hx t hr => XS.bipush hA hx rfl (by rw [hb]; exact hd)  hr) g
theorem oGo.sipush {i : Int} {v : Int32} (hd : decode bytes pc = .ok (.sipush i, 3)) (hp : pc + 3 = pc') (hv : (Int16.ofInt i).toInt32 = v) (g : oGo l Z a0 EL wd p e s m args below meth c R own bytes mx rt nm Q O D h k n pc' Ls (.int v :: st)) : oGo l Z a0 EL wd p e s m args below meth c R own bytes mx rt nm Q O D h k n pc Ls (st) := by
  subst hp; subst hv; exact oGo.pure (fun T hA hb hx t hr => XS.sipush hA hx rfl (by rw [hb]; exact hd)  hr) g
theorem oGo.lconst {i : Fin 2} {v : Int64} (hd : decode bytes pc = .ok (.lconst i, 1)) (hp : pc + 1 = pc') (hv : Int64.ofNat i = v) (g : oGo l Z a0 EL wd p e s m args below meth c R own bytes mx rt nm Q O D h k n pc' Ls (.long v :: st)) : oGo l Z a0 EL wd p e s m args below meth c R own bytes mx rt nm Q O D h k n pc Ls (st) := by
  subst hp; subst hv; exact oGo.pure (fun T hA hb hx t hr => XT.lconst hA hx rfl (by rw [hb]; exact hd)  hr) g
theorem oGo.aconst_null  (hd : decode bytes pc = .ok (.aconst_null, 1)) (hp : pc + 1 = pc') (g : oGo l Z a0 EL wd p e s m args below meth c R own bytes mx rt nm Q O D h k n pc' Ls (.null :: st)) : oGo l Z a0 EL wd p e s m args below meth c R own bytes mx rt nm Q O D h k n pc Ls (st) := by
  subst hp; exact oGo.pure (fun T hA hb hx t hr => XS.aconstNull hA hx rfl (by rw [hb]; exact hd)  hr) g
theorem oGo.iadd {x y : Int32} (hd : decode bytes pc = .ok (.iadd, 1)) (hp : pc + 1 = pc') (g : oGo l Z a0 EL wd p e s m args below meth c R own bytes mx rt nm Q O D h k n pc' Ls (.int (x + y) :: st)) : oGo l Z a0 EL wd p e s m args below meth c R own bytes mx rt nm Q O D h k n pc Ls (.int y :: .int x :: st) := by
  subst hp; exact oGo.pure (fun T hA hb hx t hr => XS.iadd hA hx rfl (by rw [hb]; exact hd) rfl hr) g
theorem oGo.ladd {x y : Int64} (hd : decode bytes pc = .ok (.ladd, 1)) (hp : pc + 1 = pc') (g : oGo l Z a0 EL wd p e s m args below meth c R own bytes mx rt nm Q O D h k n pc' Ls (.long (x + y) :: st)) : oGo l Z a0 EL wd p e s m args below meth c R own bytes mx rt nm Q O D h k n pc Ls (.long y :: .long x :: st) := by
  subst hp; exact oGo.pure (fun T hA hb hx t hr => XT.ladd hA hx rfl (by rw [hb]; exact hd) rfl hr) g
theorem oGo.isub {x y : Int32} (hd : decode bytes pc = .ok (.isub, 1)) (hp : pc + 1 = pc') (g : oGo l Z a0 EL wd p e s m args below meth c R own bytes mx rt nm Q O D h k n pc' Ls (.int (x - y) :: st)) : oGo l Z a0 EL wd p e s m args below meth c R own bytes mx rt nm Q O D h k n pc Ls (.int y :: .int x :: st) := by
  subst hp; exact oGo.pure (fun T hA hb hx t hr => XS.isub hA hx rfl (by rw [hb]; exact hd) rfl hr) g
theorem oGo.lsub {x y : Int64} (hd : decode bytes pc = .ok (.lsub, 1)) (hp : pc + 1 = pc') (g : oGo l Z a0 EL wd p e s m args below meth c R own bytes mx rt nm Q O D h k n pc' Ls (.long (x - y) :: st)) : oGo l Z a0 EL wd p e s m args below meth c R own bytes mx rt nm Q O D h k n pc Ls (.long y :: .long x :: st) := by
  subst hp; exact oGo.pure (fun T hA hb hx t hr => XT.lsub hA hx rfl (by rw [hb]; exact hd) rfl hr) g
theorem oGo.imul {x y : Int32} (hd : decode bytes pc = .ok (.imul, 1)) (hp : pc + 1 = pc') (g : oGo l Z a0 EL wd p e s m args below meth c R own bytes mx rt nm Q O D h k n pc' Ls (.int (x * y) :: st)) : oGo l Z a0 EL wd p e s m args below meth c R own bytes mx rt nm Q O D h k n pc Ls (.int y :: .int x :: st) := by
  subst hp; exact oGo.pure (fun T hA hb hx t hr => XS.imul hA hx rfl (by rw [hb]; exact hd) rfl hr) g
theorem oGo.lmul {x y : Int64} (hd : decode bytes pc = .ok (.lmul, 1)) (hp : pc + 1 = pc') (g : oGo l Z a0 EL wd p e s m args below meth c R own bytes mx rt nm Q O D h k n pc' Ls (.long (x * y) :: st)) : oGo l Z a0 EL wd p e s m args below meth c R own bytes mx rt nm Q O D h k n pc Ls (.long y :: .long x :: st) := by
  subst hp; exact oGo.pure (fun T hA hb hx t hr => XT.lmul hA hx rfl (by rw [hb]; exact hd) rfl hr) g
theorem oGo.iand {x y : Int32} (hd : decode bytes pc = .ok (.iand, 1)) (hp : pc + 1 = pc') (g : oGo l Z a0 EL wd p e s m args below meth c R own bytes mx rt nm Q O D h k n pc' Ls (.int (x &&& y) :: st)) : oGo l Z a0 EL wd p e s m args below meth c R own bytes mx rt nm Q O D h k n pc Ls (.int y :: .int x :: st) := by
  subst hp; exact oGo.pure (fun T hA hb hx t hr => XS.iand hA hx rfl (by rw [hb]; exact hd) rfl hr) g
theorem oGo.land {x y : Int64} (hd : decode bytes pc = .ok (.land, 1)) (hp : pc + 1 = pc') (g : oGo l Z a0 EL wd p e s m args below meth c R own bytes mx rt nm Q O D h k n pc' Ls (.long (x &&& y) :: st)) : oGo l Z a0 EL wd p e s m args below meth c R own bytes mx rt nm Q O D h k n pc Ls (.long y :: .long x :: st) := by
  subst hp; exact oGo.pure (fun T hA hb hx t hr => XT.land hA hx rfl (by rw [hb]; exact hd) rfl hr) g
theorem oGo.ior {x y : Int32} (hd : decode bytes pc = .ok (.ior, 1)) (hp : pc + 1 = pc') (g : oGo l Z a0 EL wd p e s m args below meth c R own bytes mx rt nm Q O D h k n pc' Ls (.int (x ||| y) :: st)) : oGo l Z a0 EL wd p e s m args below meth c R own bytes mx rt nm Q O D h k n pc Ls (.int y :: .int x :: st) := by
  subst hp; exact oGo.pure (fun T hA hb hx t hr => XT.ior hA hx rfl (by rw [hb]; exact hd) rfl hr) g
theorem oGo.lor {x y : Int64} (hd : decode bytes pc = .ok (.lor, 1)) (hp : pc + 1 = pc') (g : oGo l Z a0 EL wd p e s m args below meth c R own bytes mx rt nm Q O D h k n pc' Ls (.long (x ||| y) :: st)) : oGo l Z a0 EL wd p e s m args below meth c R own bytes mx rt nm Q O D h k n pc Ls (.long y :: .long x :: st) := by
  subst hp; exact oGo.pure (fun T hA hb hx t hr => XT.lor hA hx rfl (by rw [hb]; exact hd) rfl hr) g
theorem oGo.ixor {x y : Int32} (hd : decode bytes pc = .ok (.ixor, 1)) (hp : pc + 1 = pc') (g : oGo l Z a0 EL wd p e s m args below meth c R own bytes mx rt nm Q O D h k n pc' Ls (.int (x ^^^ y) :: st)) : oGo l Z a0 EL wd p e s m args below meth c R own bytes mx rt nm Q O D h k n pc Ls (.int y :: .int x :: st) := by
  subst hp; exact oGo.pure (fun T hA hb hx t hr => XT.ixor hA hx rfl (by rw [hb]; exact hd) rfl hr) g
theorem oGo.lxor {x y : Int64} (hd : decode bytes pc = .ok (.lxor, 1)) (hp : pc + 1 = pc') (g : oGo l Z a0 EL wd p e s m args below meth c R own bytes mx rt nm Q O D h k n pc' Ls (.long (x ^^^ y) :: st)) : oGo l Z a0 EL wd p e s m args below meth c R own bytes mx rt nm Q O D h k n pc Ls (.long y :: .long x :: st) := by
  subst hp; exact oGo.pure (fun T hA hb hx t hr => XT.lxor hA hx rfl (by rw [hb]; exact hd) rfl hr) g
theorem oGo.ishl {x y : Int32} (hd : decode bytes pc = .ok (.ishl, 1)) (hp : pc + 1 = pc') (g : oGo l Z a0 EL wd p e s m args below meth c R own bytes mx rt nm Q O D h k n pc' Ls (.int (x <<< (y &&& 31)) :: st)) : oGo l Z a0 EL wd p e s m args below meth c R own bytes mx rt nm Q O D h k n pc Ls (.int y :: .int x :: st) := by
  subst hp; exact oGo.pure (fun T hA hb hx t hr => XT.ishl hA hx rfl (by rw [hb]; exact hd) rfl hr) g
theorem oGo.ishr {x y : Int32} (hd : decode bytes pc = .ok (.ishr, 1)) (hp : pc + 1 = pc') (g : oGo l Z a0 EL wd p e s m args below meth c R own bytes mx rt nm Q O D h k n pc' Ls (.int (x >>> (y &&& 31)) :: st)) : oGo l Z a0 EL wd p e s m args below meth c R own bytes mx rt nm Q O D h k n pc Ls (.int y :: .int x :: st) := by
  subst hp; exact oGo.pure (fun T hA hb hx t hr => XT.ishr hA hx rfl (by rw [hb]; exact hd) rfl hr) g
theorem oGo.iushr {x y : Int32} (hd : decode bytes pc = .ok (.iushr, 1)) (hp : pc + 1 = pc') (g : oGo l Z a0 EL wd p e s m args below meth c R own bytes mx rt nm Q O D h k n pc' Ls (.int (XT.ushr x y) :: st)) : oGo l Z a0 EL wd p e s m args below meth c R own bytes mx rt nm Q O D h k n pc Ls (.int y :: .int x :: st) := by
  subst hp; exact oGo.pure (fun T hA hb hx t hr => XT.iushr hA hx rfl (by rw [hb]; exact hd) rfl hr) g
theorem oGo.idiv {x y : Int32} (hd : decode bytes pc = .ok (.idiv, 1)) (hp : pc + 1 = pc') (hy : y ≠ 0) (g : oGo l Z a0 EL wd p e s m args below meth c R own bytes mx rt nm Q O D h k n pc' Ls (.int (x / y) :: st)) : oGo l Z a0 EL wd p e s m args below meth c R own bytes mx rt nm Q O D h k n pc Ls (.int y :: .int x :: st) := by
  subst hp; exact oGo.pure (fun T hA hb hx t hr => XS.idiv hA hx rfl (by rw [hb]; exact hd) rfl hy hr) g
theorem oGo.ldiv {x y : Int64} (hd : decode bytes pc = .ok (.ldiv, 1)) (hp : pc + 1 = pc') (hy : y ≠ 0) (g : oGo l Z a0 EL wd p e s m args below meth c R own bytes mx rt nm Q O D h k n pc' Ls (.long (x / y) :: st)) : oGo l Z a0 EL wd p e s m args below meth c R own bytes mx rt nm Q O D h k n pc Ls (.long y :: .long x :: st) := by
  subst hp; exact oGo.pure (fun T hA hb hx t hr => XT.ldiv hA hx rfl (by rw [hb]; exact hd) rfl hy hr) g
theorem oGo.irem {x y : Int32} (hd : decode bytes pc = .ok (.irem, 1)) (hp : pc + 1 = pc') (hy : y ≠ 0) (g : oGo l Z a0 EL wd p e s m args below meth c R own bytes mx rt nm Q O D h k n pc' Ls (.int (x % y) :: st)) : oGo l Z a0 EL wd p e s m args below meth c R own bytes mx rt nm Q O D h k n pc Ls (.int y :: .int x :: st) := by
  subst hp; rw [← irem_eq_mod] at g; exact oGo.pure (fun T hA hb hx t hr => XS.irem hA hx rfl (by rw [hb]; exact hd) rfl hy hr) g
theorem oGo.lrem {x y : Int64} (hd : decode bytes pc = .ok (.lrem, 1)) (hp : pc + 1 = pc') (hy : y ≠ 0) (g : oGo l Z a0 EL wd p e s m args below meth c R own bytes mx rt nm Q O D h k n pc' Ls (.long (x - x / y * y) :: st)) : oGo l Z a0 EL wd p e s m args below meth c R own bytes mx rt nm Q O D h k n pc Ls (.long y :: .long x :: st) := by
  subst hp; exact oGo.pure (fun T hA hb hx t hr => XT.lrem hA hx rfl (by rw [hb]; exact hd) rfl hy hr) g
theorem oGo.ineg {x : Int32} (hd : decode bytes pc = .ok (.ineg, 1)) (hp : pc + 1 = pc') (g : oGo l Z a0 EL wd p e s m args below meth c R own bytes mx rt nm Q O D h k n pc' Ls (.int (-x) :: st)) : oGo l Z a0 EL wd p e s m args below meth c R own bytes mx rt nm Q O D h k n pc Ls (.int x :: st) := by
  subst hp; exact oGo.pure (fun T hA hb hx t hr => XS.ineg hA hx rfl (by rw [hb]; exact hd) rfl hr) g
theorem oGo.lneg {x : Int64} (hd : decode bytes pc = .ok (.lneg, 1)) (hp : pc + 1 = pc') (g : oGo l Z a0 EL wd p e s m args below meth c R own bytes mx rt nm Q O D h k n pc' Ls (.long (-x) :: st)) : oGo l Z a0 EL wd p e s m args below meth c R own bytes mx rt nm Q O D h k n pc Ls (.long x :: st) := by
  subst hp; exact oGo.pure (fun T hA hb hx t hr => XT.lneg hA hx rfl (by rw [hb]; exact hd) rfl hr) g
theorem oGo.i2l {x : Int32} (hd : decode bytes pc = .ok (.i2l, 1)) (hp : pc + 1 = pc') (g : oGo l Z a0 EL wd p e s m args below meth c R own bytes mx rt nm Q O D h k n pc' Ls (.long x.toInt64 :: st)) : oGo l Z a0 EL wd p e s m args below meth c R own bytes mx rt nm Q O D h k n pc Ls (.int x :: st) := by
  subst hp; exact oGo.pure (fun T hA hb hx t hr => XT.i2l hA hx rfl (by rw [hb]; exact hd) rfl hr) g
theorem oGo.l2i {x : Int64} (hd : decode bytes pc = .ok (.l2i, 1)) (hp : pc + 1 = pc') (g : oGo l Z a0 EL wd p e s m args below meth c R own bytes mx rt nm Q O D h k n pc' Ls (.int x.toInt32 :: st)) : oGo l Z a0 EL wd p e s m args below meth c R own bytes mx rt nm Q O D h k n pc Ls (.long x :: st) := by
  subst hp; exact oGo.pure (fun T hA hb hx t hr => XT.l2i hA hx rfl (by rw [hb]; exact hd) rfl hr) g
theorem oGo.i2b {x : Int32} (hd : decode bytes pc = .ok (.i2b, 1)) (hp : pc + 1 = pc') (g : oGo l Z a0 EL wd p e s m args below meth c R own bytes mx rt nm Q O D h k n pc' Ls (.int x.toInt8.toInt32 :: st)) : oGo l Z a0 EL wd p e s m args below meth c R own bytes mx rt nm Q O D h k n pc Ls (.int x :: st) := by
  subst hp; exact oGo.pure (fun T hA hb hx t hr => XT.i2b hA hx rfl (by rw [hb]; exact hd) rfl hr) g
theorem oGo.i2c {x : Int32} (hd : decode bytes pc = .ok (.i2c, 1)) (hp : pc + 1 = pc') (g : oGo l Z a0 EL wd p e s m args below meth c R own bytes mx rt nm Q O D h k n pc' Ls (.int x.toUInt32.toUInt16.toUInt32.toInt32 :: st)) : oGo l Z a0 EL wd p e s m args below meth c R own bytes mx rt nm Q O D h k n pc Ls (.int x :: st) := by
  subst hp; exact oGo.pure (fun T hA hb hx t hr => XT.i2c hA hx rfl (by rw [hb]; exact hd) rfl hr) g
theorem oGo.lcmp {x y : Int64} (hd : decode bytes pc = .ok (.lcmp, 1)) (hp : pc + 1 = pc') (g : oGo l Z a0 EL wd p e s m args below meth c R own bytes mx rt nm Q O D h k n pc' Ls (.int (XT.cmpL x y) :: st)) : oGo l Z a0 EL wd p e s m args below meth c R own bytes mx rt nm Q O D h k n pc Ls (.long y :: .long x :: st) := by
  subst hp; exact oGo.pure (fun T hA hb hx t hr => XT.lcmp hA hx rfl (by rw [hb]; exact hd) rfl hr) g
theorem oGo.iinc {i : Nat} {d : Int} {x y : Int32} (hd : decode bytes pc = .ok (.iinc i d, 3)) (hp : pc + 3 = pc') (hl : Ls[i]? = some (.val (.int x))) (hv : Int32.ofInt d = y) (hl' : storeLocals Ls i (.int (x + y)) = some Ls') (g : oGo l Z a0 EL wd p e s m args below meth c R own bytes mx rt nm Q O D h k n pc' Ls' (st)) : oGo l Z a0 EL wd p e s m args below meth c R own bytes mx rt nm Q O D h k n pc Ls (st) := by
  subst hp; exact oGo.pure (fun T hA hb hx t hr => XS.iinc hA hx rfl (by rw [hb]; exact hd) hl (by rw [hv]; exact hl') hr) g
theorem oGo.dup {v : Value} (hd : decode bytes pc = .ok (.dup, 1)) (hp : pc + 1 = pc') (hc : v.category = 1) (g : oGo l Z a0 EL wd p e s m args below meth c R own bytes mx rt nm Q O D h k n pc' Ls (v :: v :: st)) : oGo l Z a0 EL wd p e s m args below meth c R own bytes mx rt nm Q O D h k n pc Ls (v :: st) := by
  subst hp; exact oGo.pure (fun T hA hb hx t hr => XS.dup hA hx rfl (by rw [hb]; exact hd) rfl hc hr) g
theorem oGo.pop {v : Value} (hd : decode bytes pc = .ok (.pop, 1)) (hp : pc + 1 = pc') (hc : v.category = 1) (g : oGo l Z a0 EL wd p e s m args below meth c R own bytes mx rt nm Q O D h k n pc' Ls (st)) : oGo l Z a0 EL wd p e s m args below meth c R own bytes mx rt nm Q O D h k n pc Ls (v :: st) := by
  subst hp; exact oGo.pure (fun T hA hb hx t hr => XT.pop hA hx rfl (by rw [hb]; exact hd) rfl hc hr) g
theorem oGo.dup_x1 {v w : Value} (hd : decode bytes pc = .ok (.dup_x1, 1)) (hp : pc + 1 = pc') (hc : v.category = 1) (hc' : w.category = 1) (g : oGo l Z a0 EL wd p e s m args below meth c R own bytes mx rt nm Q O D h k n pc' Ls (v :: w :: v :: st)) : oGo l Z a0 EL wd p e s m args below meth c R own bytes mx rt nm Q O D h k n pc Ls (v :: w :: st) := by
  subst hp; exact oGo.pure (fun T hA hb hx t hr => XT.dupX1 hA hx rfl (by rw [hb]; exact hd) rfl hc hc' hr) g
theorem oGo.dup2 {v w : Value} (hd : decode bytes pc = .ok (.dup2, 1)) (hp : pc + 1 = pc') (hc : v.category = 1) (hc' : w.category = 1) (g : oGo l Z a0 EL wd p e s m args below meth c R own bytes mx rt nm Q O D h k n pc' Ls (v :: w :: v :: w :: st)) : oGo l Z a0 EL wd p e s m args below meth c R own bytes mx rt nm Q O D h k n pc Ls (v :: w :: st) := by
  subst hp; exact oGo.pure (fun T hA hb hx t hr => XT.dup2 hA hx rfl (by rw [hb]; exact hd) rfl hc hc' hr) g
theorem oGo.goto {o : Int} (hd : decode bytes pc = .ok (.goto o, 3)) (ho : (pc : Int) + o = (pc' : Int)) (g : oGo l Z a0 EL wd p e s m args below meth c R own bytes mx rt nm Q O D h k n pc' Ls st) : oGo l Z a0 EL wd p e s m args below meth c R own bytes mx rt nm Q O D h k n pc Ls st :=
  oGo.pure (fun T hA hb hx t hr => XS.goto hA hx rfl (pc0 := pc) (pc' := pc') rfl (by rw [hb]; exact hd) (by omega) (by omega) hr) g
theorem own_icmp_eq {x y : Int32} : if_icmp.holds .eq x y = true ↔ x = y := by simp [if_icmp.holds, Int32.not_lt]
theorem own_icmp_eqN {x y : Int32} : if_icmp.holds .eq x y = false ↔ ¬ x = y := by simp [if_icmp.holds, Int32.not_lt]
theorem oGo.icmp_eq {x y : Int32} {o : Int} (hd : decode bytes pc = .ok (.if_icmp .eq o, 3)) (hp : pc + 3 = pc1) (ho : (pc : Int) + o = (pc2 : Int)) (gy : x = y → oGo l Z a0 EL wd p e s m args below meth c R own bytes mx rt nm Q O D h k n pc2 Ls st) (gn : ¬ x = y → oGo l Z a0 EL wd p e s m args below meth c R own bytes mx rt nm Q O D h k n pc1 Ls st) : oGo l Z a0 EL wd p e s m args below meth c R own bytes mx rt nm Q O D h k n pc Ls (.int y :: .int x :: st) := by
  subst hp
  by_cases q : x = y
  · exact oGo.pure (fun T hA hb hx t hr => XS.icmpYes hA hx rfl (pc0 := pc) (pc' := pc2) rfl (by rw [hb]; exact hd) rfl (own_icmp_eq.2 q) (by omega) (by omega) hr) (gy q)
  · exact oGo.pure (fun T hA hb hx t hr => XS.icmpNo hA hx rfl (by rw [hb]; exact hd) rfl (own_icmp_eqN.2 q) hr) (gn q)
theorem own_icmp_ne {x y : Int32} : if_icmp.holds .ne x y = true ↔ ¬ x = y := by simp [if_icmp.holds, Int32.not_lt]
theorem own_icmp_neN {x y : Int32} : if_icmp.holds .ne x y = false ↔ x = y := by simp [if_icmp.holds, Int32.not_lt]
theorem oGo.icmp_ne {x y : Int32} {o : Int} (hd : decode bytes pc = .ok (.if_icmp .ne o, 3)) (hp : pc + 3 = pc1) (ho : (pc : Int) + o = (pc2 : Int)) (gy : ¬ x = y → oGo l Z a0 EL wd p e s m args below meth c R own bytes mx rt nm Q O D h k n pc2 Ls st) (gn : x = y → oGo l Z a0 EL wd p e s m args below meth c R own bytes mx rt nm Q O D h k n pc1 Ls st) : oGo l Z a0 EL wd p e s m args below meth c R own bytes mx rt nm Q O D h k n pc Ls (.int y :: .int x :: st) := by
  subst hp
  by_cases q : x = y
  · exact oGo.pure (fun T hA hb hx t hr => XS.icmpNo hA hx rfl (by rw [hb]; exact hd) rfl (own_icmp_neN.2 q) hr) (gn q)
  · exact oGo.pure (fun T hA hb hx t hr => XS.icmpYes hA hx rfl (pc0 := pc) (pc' := pc2) rfl (by rw [hb]; exact hd) rfl (own_icmp_ne.2 q) (by omega) (by omega) hr) (gy q)
theorem own_icmp_lt {x y : Int32} : if_icmp.holds .lt x y = true ↔ x < y := by simp [if_icmp.holds, Int32.not_lt]
theorem own_icmp_ltN {x y : Int32} : if_icmp.holds .lt x y = false ↔ ¬ x < y := by simp [if_icmp.holds, Int32.not_lt]
theorem oGo.icmp_lt {x y : Int32} {o : Int} (hd : decode bytes pc = .ok (.if_icmp .lt o, 3)) (hp : pc + 3 = pc1) (ho : (pc : Int) + o = (pc2 : Int)) (gy : x < y → oGo l Z a0 EL wd p e s m args below meth c R own bytes mx rt nm Q O D h k n pc2 Ls st) (gn : ¬ x < y → oGo l Z a0 EL wd p e s m args below meth c R own bytes mx rt nm Q O D h k n pc1 Ls st) : oGo l Z a0 EL wd p e s m args below meth c R own bytes mx rt nm Q O D h k n pc Ls (.int y :: .int x :: st) := by
  subst hp
  by_cases q : x < y
  · exact oGo.pure (fun T hA hb hx t hr => XS.icmpYes hA hx rfl (pc0 := pc) (pc' := pc2) rfl (by rw [hb]; exact hd) rfl (own_icmp_lt.2 q) (by omega) (by omega) hr) (gy q)
  · exact oGo.pure (fun T hA hb hx t hr => XS.icmpNo hA hx rfl (by rw [hb]; exact hd) rfl (own_icmp_ltN.2 q) hr) (gn q)
theorem own_icmp_ge {x y : Int32} : if_icmp.holds .ge x y = true ↔ ¬ x < y := by simp [if_icmp.holds, Int32.not_lt]
theorem own_icmp_geN {x y : Int32} : if_icmp.holds .ge x y = false ↔ x < y := by simp [if_icmp.holds, Int32.not_lt]
theorem oGo.icmp_ge {x y : Int32} {o : Int} (hd : decode bytes pc = .ok (.if_icmp .ge o, 3)) (hp : pc + 3 = pc1) (ho : (pc : Int) + o = (pc2 : Int)) (gy : ¬ x < y → oGo l Z a0 EL wd p e s m args below meth c R own bytes mx rt nm Q O D h k n pc2 Ls st) (gn : x < y → oGo l Z a0 EL wd p e s m args below meth c R own bytes mx rt nm Q O D h k n pc1 Ls st) : oGo l Z a0 EL wd p e s m args below meth c R own bytes mx rt nm Q O D h k n pc Ls (.int y :: .int x :: st) := by
  subst hp
  by_cases q : x < y
  · exact oGo.pure (fun T hA hb hx t hr => XS.icmpNo hA hx rfl (by rw [hb]; exact hd) rfl (own_icmp_geN.2 q) hr) (gn q)
  · exact oGo.pure (fun T hA hb hx t hr => XS.icmpYes hA hx rfl (pc0 := pc) (pc' := pc2) rfl (by rw [hb]; exact hd) rfl (own_icmp_ge.2 q) (by omega) (by omega) hr) (gy q)
theorem own_icmp_gt {x y : Int32} : if_icmp.holds .gt x y = true ↔ y < x := by simp [if_icmp.holds, Int32.not_lt]
theorem own_icmp_gtN {x y : Int32} : if_icmp.holds .gt x y = false ↔ ¬ y < x := by simp [if_icmp.holds, Int32.not_lt]
theorem oGo.icmp_gt {x y : Int32} {o : Int} (hd : decode bytes pc = .ok (.if_icmp .gt o, 3)) (hp : pc + 3 = pc1) (ho : (pc : Int) + o = (pc2 : Int)) (gy : y < x → oGo l Z a0 EL wd p e s m args below meth c R own bytes mx rt nm Q O D h k n pc2 Ls st) (gn : ¬ y < x → oGo l Z a0 EL wd p e s m args below meth c R own bytes mx rt nm Q O D h k n pc1 Ls st) : oGo l Z a0 EL wd p e s m args below meth c R own bytes mx rt nm Q O D h k n pc Ls (.int y :: .int x :: st) := by
  subst hp
  by_cases q : y < x
  · exact oGo.pure (fun T hA hb hx t hr => XS.icmpYes hA hx rfl (pc0 := pc) (pc' := pc2) rfl (by rw [hb]; exact hd) rfl (own_icmp_gt.2 q) (by omega) (by omega) hr) (gy q)
  · exact oGo.pure (fun T hA hb hx t hr => XS.icmpNo hA hx rfl (by rw [hb]; exact hd) rfl (own_icmp_gtN.2 q) hr) (gn q)
theorem own_icmp_le {x y : Int32} : if_icmp.holds .le x y = true ↔ ¬ y < x := by simp [if_icmp.holds, Int32.not_lt]
theorem own_icmp_leN {x y : Int32} : if_icmp.holds .le x y = false ↔ y < x := by simp [if_icmp.holds, Int32.not_lt]
theorem oGo.icmp_le {x y : Int32} {o : Int} (hd : decode bytes pc = .ok (.if_icmp .le o, 3)) (hp : pc + 3 = pc1) (ho : (pc : Int) + o = (pc2 : Int)) (gy : ¬ y < x → oGo l Z a0 EL wd p e s m args below meth c R own bytes mx rt nm Q O D h k n pc2 Ls st) (gn : y < x → oGo l Z a0 EL wd p e s m args below meth c R own bytes mx rt nm Q O D h k n pc1 Ls st) : oGo l Z a0 EL wd p e s m args below meth c R own bytes mx rt nm Q O D h k n pc Ls (.int y :: .int x :: st) := by
  subst hp
  by_cases q : y < x
  · exact oGo.pure (fun T hA hb hx t hr => XS.icmpNo hA hx rfl (by rw [hb]; exact hd) rfl (own_icmp_leN.2 q) hr) (gn q)
  · exact oGo.pure (fun T hA hb hx t hr => XS.icmpYes hA hx rfl (pc0 := pc) (pc' := pc2) rfl (by rw [hb]; exact hd) rfl (own_icmp_le.2 q) (by omega) (by omega) hr) (gy q)
theorem own_if_eq {x : Int32} : ifCond.holds .eq x = true ↔ x = 0 := by simp [ifCond.holds, Int32.not_lt]
theorem own_if_eqN {x : Int32} : ifCond.holds .eq x = false ↔ ¬ x = 0 := by simp [ifCond.holds, Int32.not_lt]
theorem oGo.if_eq {x : Int32} {o : Int} (hd : decode bytes pc = .ok (.ifCond .eq o, 3)) (hp : pc + 3 = pc1) (ho : (pc : Int) + o = (pc2 : Int)) (gy : x = 0 → oGo l Z a0 EL wd p e s m args below meth c R own bytes mx rt nm Q O D h k n pc2 Ls st) (gn : ¬ x = 0 → oGo l Z a0 EL wd p e s m args below meth c R own bytes mx rt nm Q O D h k n pc1 Ls st) : oGo l Z a0 EL wd p e s m args below meth c R own bytes mx rt nm Q O D h k n pc Ls (.int x :: st) := by
  subst hp
  by_cases q : x = 0
  · exact oGo.pure (fun T hA hb hx t hr => XS.ifYes hA hx rfl (pc0 := pc) (pc' := pc2) rfl (by rw [hb]; exact hd) rfl (own_if_eq.2 q) (by omega) (by omega) hr) (gy q)
  · exact oGo.pure (fun T hA hb hx t hr => XS.ifNo hA hx rfl (by rw [hb]; exact hd) rfl (own_if_eqN.2 q) hr) (gn q)
theorem own_if_ne {x : Int32} : ifCond.holds .ne x = true ↔ ¬ x = 0 := by simp [ifCond.holds, Int32.not_lt]
theorem own_if_neN {x : Int32} : ifCond.holds .ne x = false ↔ x = 0 := by simp [ifCond.holds, Int32.not_lt]
theorem oGo.if_ne {x : Int32} {o : Int} (hd : decode bytes pc = .ok (.ifCond .ne o, 3)) (hp : pc + 3 = pc1) (ho : (pc : Int) + o = (pc2 : Int)) (gy : ¬ x = 0 → oGo l Z a0 EL wd p e s m args below meth c R own bytes mx rt nm Q O D h k n pc2 Ls st) (gn : x = 0 → oGo l Z a0 EL wd p e s m args below meth c R own bytes mx rt nm Q O D h k n pc1 Ls st) : oGo l Z a0 EL wd p e s m args below meth c R own bytes mx rt nm Q O D h k n pc Ls (.int x :: st) := by
  subst hp
  by_cases q : x = 0
  · exact oGo.pure (fun T hA hb hx t hr => XS.ifNo hA hx rfl (by rw [hb]; exact hd) rfl (own_if_neN.2 q) hr) (gn q)
  · exact oGo.pure (fun T hA hb hx t hr => XS.ifYes hA hx rfl (pc0 := pc) (pc' := pc2) rfl (by rw [hb]; exact hd) rfl (own_if_ne.2 q) (by omega) (by omega) hr) (gy q)
theorem own_if_lt {x : Int32} : ifCond.holds .lt x = true ↔ x < 0 := by simp [ifCond.holds, Int32.not_lt]
theorem own_if_ltN {x : Int32} : ifCond.holds .lt x = false ↔ ¬ x < 0 := by simp [ifCond.holds, Int32.not_lt]
theorem oGo.if_lt {x : Int32} {o : Int} (hd : decode bytes pc = .ok (.ifCond .lt o, 3)) (hp : pc + 3 = pc1) (ho : (pc : Int) + o = (pc2 : Int)) (gy : x < 0 → oGo l Z a0 EL wd p e s m args below meth c R own bytes mx rt nm Q O D h k n pc2 Ls st) (gn : ¬ x < 0 → oGo l Z a0 EL wd p e s m args below meth c R own bytes mx rt nm Q O D h k n pc1 Ls st) : oGo l Z a0 EL wd p e s m args below meth c R own bytes mx rt nm Q O D h k n pc Ls (.int x :: st) := by
  subst hp
  by_cases q : x < 0
  · exact oGo.pure (fun T hA hb hx t hr => XS.ifYes hA hx rfl (pc0 := pc) (pc' := pc2) rfl (by rw [hb]; exact hd) rfl (own_if_lt.2 q) (by omega) (by omega) hr) (gy q)
  · exact oGo.pure (fun T hA hb hx t hr => XS.ifNo hA hx rfl (by rw [hb]; exact hd) rfl (own_if_ltN.2 q) hr) (gn q)
theorem own_if_ge {x : Int32} : ifCond.holds .ge x = true ↔ ¬ x < 0 := by simp [ifCond.holds, Int32.not_lt]
theorem own_if_geN {x : Int32} : ifCond.holds .ge x = false ↔ x < 0 := by simp [ifCond.holds, Int32.not_lt]
theorem oGo.if_ge {x : Int32} {o : Int} (hd : decode bytes pc = .ok (.ifCond .ge o, 3)) (hp : pc + 3 = pc1) (ho : (pc : Int) + o = (pc2 : Int)) (gy : ¬ x < 0 → oGo l Z a0 EL wd p e s m args below meth c R own bytes mx rt nm Q O D h k n pc2 Ls st) (gn : x < 0 → oGo l Z a0 EL wd p e s m args below meth c R own bytes mx rt nm Q O D h k n pc1 Ls st) : oGo l Z a0 EL wd p e s m args below meth c R own bytes mx rt nm Q O D h k n pc Ls (.int x :: st) := by
  subst hp
  by_cases q : x < 0
  · exact oGo.pure (fun T hA hb hx t hr => XS.ifNo hA hx rfl (by rw [hb]; exact hd) rfl (own_if_geN.2 q) hr) (gn q)
  · exact oGo.pure (fun T hA hb hx t hr => XS.ifYes hA hx rfl (pc0 := pc) (pc' := pc2) rfl (by rw [hb]; exact hd) rfl (own_if_ge.2 q) (by omega) (by omega) hr) (gy q)
theorem own_if_gt {x : Int32} : ifCond.holds .gt x = true ↔ 0 < x := by simp [ifCond.holds, Int32.not_lt]
theorem own_if_gtN {x : Int32} : ifCond.holds .gt x = false ↔ ¬ 0 < x := by simp [ifCond.holds, Int32.not_lt]
theorem oGo.if_gt {x : Int32} {o : Int} (hd : decode bytes pc = .ok (.ifCond .gt o, 3)) (hp : pc + 3 = pc1) (ho : (pc : Int) + o = (pc2 : Int)) (gy : 0 < x → oGo l Z a0 EL wd p e s m args below meth c R own bytes mx rt nm Q O D h k n pc2 Ls st) (gn : ¬ 0 < x → oGo l Z a0 EL wd p e s m args below meth c R own bytes mx rt nm Q O D h k n pc1 Ls st) : oGo l Z a0 EL wd p e s m args below meth c R own bytes mx rt nm Q O D h k n pc Ls (.int x :: st) := by
  subst hp
  by_cases q : 0 < x
  · exact oGo.pure (fun T hA hb hx t hr => XS.ifYes hA hx rfl (pc0 := pc) (pc' := pc2) rfl (by rw [hb]; exact hd) rfl (own_if_gt.2 q) (by omega) (by omega) hr) (gy q)
  · exact oGo.pure (fun T hA hb hx t hr => XS.ifNo hA hx rfl (by rw [hb]; exact hd) rfl (own_if_gtN.2 q) hr) (gn q)
theorem own_if_le {x : Int32} : ifCond.holds .le x = true ↔ ¬ 0 < x := by simp [ifCond.holds, Int32.not_lt]
theorem own_if_leN {x : Int32} : ifCond.holds .le x = false ↔ 0 < x := by simp [ifCond.holds, Int32.not_lt]
theorem oGo.if_le {x : Int32} {o : Int} (hd : decode bytes pc = .ok (.ifCond .le o, 3)) (hp : pc + 3 = pc1) (ho : (pc : Int) + o = (pc2 : Int)) (gy : ¬ 0 < x → oGo l Z a0 EL wd p e s m args below meth c R own bytes mx rt nm Q O D h k n pc2 Ls st) (gn : 0 < x → oGo l Z a0 EL wd p e s m args below meth c R own bytes mx rt nm Q O D h k n pc1 Ls st) : oGo l Z a0 EL wd p e s m args below meth c R own bytes mx rt nm Q O D h k n pc Ls (.int x :: st) := by
  subst hp
  by_cases q : 0 < x
  · exact oGo.pure (fun T hA hb hx t hr => XS.ifNo hA hx rfl (by rw [hb]; exact hd) rfl (own_if_leN.2 q) hr) (gn q)
  · exact oGo.pure (fun T hA hb hx t hr => XS.ifYes hA hx rfl (pc0 := pc) (pc' := pc2) rfl (by rw [hb]; exact hd) rfl (own_if_le.2 q) (by omega) (by omega) hr) (gy q)
theorem oGo.ifnull_y {o : Int} {b : Addr} (hd : decode bytes pc = .ok (.ifnull o, 3)) (ho : (pc : Int) + o = (pc2 : Int)) (g : oGo l Z a0 EL wd p e s m args below meth c R own bytes mx rt nm Q O D h k n pc2 Ls st) : oGo l Z a0 EL wd p e s m args below meth c R own bytes mx rt nm Q O D h k n pc Ls (.null :: st) :=
  oGo.pure (fun T hA hb hx t hr => XS.ifnullYes hA hx rfl (pc0 := pc) (pc' := pc2) rfl (by rw [hb]; exact hd) rfl (by omega) (by omega) hr) g
theorem oGo.ifnull_n {o : Int} {b : Addr} (hd : decode bytes pc = .ok (.ifnull o, 3)) (hp : pc + 3 = pc1) (g : oGo l Z a0 EL wd p e s m args below meth c R own bytes mx rt nm Q O D h k n pc1 Ls st) : oGo l Z a0 EL wd p e s m args below meth c R own bytes mx rt nm Q O D h k n pc Ls (.ref b :: st) := by
  subst hp; exact oGo.pure (fun T hA hb hx t hr => XS.ifnullNo hA hx rfl (by rw [hb]; exact hd) rfl hr) g
theorem oGo.ifnonnull_y {o : Int} {b : Addr} (hd : decode bytes pc = .ok (.ifnonnull o, 3)) (ho : (pc : Int) + o = (pc2 : Int)) (g : oGo l Z a0 EL wd p e s m args below meth c R own bytes mx rt nm Q O D h k n pc2 Ls st) : oGo l Z a0 EL wd p e s m args below meth c R own bytes mx rt nm Q O D h k n pc Ls (.ref b :: st) :=
  oGo.pure (fun T hA hb hx t hr => XT.ifnonnullYes hA hx rfl (pc0 := pc) (pc' := pc2) rfl (by rw [hb]; exact hd) rfl (by omega) (by omega) hr) g
theorem oGo.ifnonnull_n {o : Int} {b : Addr} (hd : decode bytes pc = .ok (.ifnonnull o, 3)) (hp : pc + 3 = pc1) (g : oGo l Z a0 EL wd p e s m args below meth c R own bytes mx rt nm Q O D h k n pc1 Ls st) : oGo l Z a0 EL wd p e s m args below meth c R own bytes mx rt nm Q O D h k n pc Ls (.null :: st) := by
  subst hp; exact oGo.pure (fun T hA hb hx t hr => XT.ifnonnullNo hA hx rfl (by rw [hb]; exact hd) rfl hr) g
theorem oGo.acmp_y {cd : ClassFile.ACond} {v w : Value} {o : Int} (hd : decode bytes pc = .ok (.if_acmp cd o, 3)) (ho : (pc : Int) + o = (pc2 : Int)) (hv : v.isRef = true) (hw : w.isRef = true) (hq : XT.acmp cd v w = true) (g : oGo l Z a0 EL wd p e s m args below meth c R own bytes mx rt nm Q O D h k n pc2 Ls st) : oGo l Z a0 EL wd p e s m args below meth c R own bytes mx rt nm Q O D h k n pc Ls (w :: v :: st) :=
  oGo.pure (fun T hA hb hx t hr => XT.acmpYes hA hx rfl (pc0 := pc) (pc' := pc2) rfl (by rw [hb]; exact hd) rfl hv hw hq (by omega) (by omega) hr) g
theorem oGo.acmp_n {cd : ClassFile.ACond} {v w : Value} {o : Int} (hd : decode bytes pc = .ok (.if_acmp cd o, 3)) (hp : pc + 3 = pc1) (hv : v.isRef = true) (hw : w.isRef = true) (hq : XT.acmp cd v w = false) (g : oGo l Z a0 EL wd p e s m args below meth c R own bytes mx rt nm Q O D h k n pc1 Ls st) : oGo l Z a0 EL wd p e s m args below meth c R own bytes mx rt nm Q O D h k n pc Ls (w :: v :: st) := by
  subst hp; exact oGo.pure (fun T hA hb hx t hr => XT.acmpNo hA hx rfl (by rw [hb]; exact hd) rfl hv hw hq hr) g
/-- steps that may warm the tables -/
theorem oGo.move (H : ∀ (T : State) (locs : List Loc) (vm0 : Vm), Stand p l e R (s.setVm vm0) m args below meth c T locs k n → T.heap = h → Z.Warmed39 vm0 → vm0.findClass own = some m.cls → c.code = bytes → p.tables.exec = Jvm.exec → meth.name = nm → c.maxLocals = mx → ∃ T', Stand p l e R (s.setVm vm0) m args below meth c T' locs k n ∧ T'.heap = h ∧ ∀ t, Steps p.tables e below (T'.setTop (mkF m pc' Ls' st')) t → Steps p.tables e below (T.setTop (mkF m pc Ls st)) t)
    (g : oGo l Z a0 EL wd p e s m args below meth c R own bytes mx rt nm Q O D h k n pc' Ls' st') : oGo l Z a0 EL wd p e s m args below meth c R own bytes mx rt nm Q O D h k n pc Ls st := by
  intro T locs vm0 k0 I
  obtain ⟨⟨hx, hb, hm, hr, hl, hn, hE⟩, hT, hO, hF, X, hS, hk, hZ, hown, hC, hwd, hD⟩ := I
  obtain ⟨T', X', hT', hst⟩ := H T locs vm0 X hT hZ hown hb hx hn hm
  obtain ⟨V, v, L, hs, r⟩ := g T' locs vm0 k0 ⟨⟨hx, hb, hm, hr, hl, hn, hE⟩, hT', hO, hF, X', hS, hk, hZ, hown, hC, hwd, hD⟩
  exact ⟨V, v, L, hst V hs, r⟩
/-- steps that make a cell -/
theorem oGo.grow {P : Heap → Prop} {D' : List Addr} {k' n' : Nat} (H : ∀ (T : State) (locs : List Loc) (vm0 : Vm), Stand p l e R (s.setVm vm0) m args below meth c T locs k n → T.heap = h → Z.Warmed39 vm0 → vm0.findClass own = some m.cls → c.code = bytes → p.tables.exec = Jvm.exec → meth.name = nm → c.maxLocals = mx → ∃ T' h', Stand p l e R (s.setVm vm0) m args below meth c T' locs k' n' ∧ T'.heap = h' ∧ Ext h h' ∧ P h' ∧ ∀ t, Steps p.tables e below (T'.setTop (mkF m pc' Ls' st')) t → Steps p.tables e below (T.setTop (mkF m pc Ls st)) t)
    (hD : ∀ h', P h' → ∀ x ∈ D', x ∈ D ∨ (h.size ≤ x ∧ x < h'.size)) (g : ∀ h', Ext h h' → P h' → oGo l Z a0 EL wd p e s m args below meth c R own bytes mx rt nm Q O D' h' k' n' pc' Ls' st') : oGo l Z a0 EL wd p e s m args below meth c R own bytes mx rt nm Q O D h k n pc Ls st := by
  intro T locs vm0 k0 I
  obtain ⟨⟨hx, hb, hm, hr, hl, hn, hE⟩, hT, hO, hF, X, hS, hk, hZ, hown, hC, hwd, hDk⟩ := I
  obtain ⟨T', h', X', hT', hEx, hP, hst⟩ := H T locs vm0 X hT hZ hown hb hx hn hm
  have hD2 : oDok Z EL vm0 h' D' := fun x hx' => by
    rcases hD h' hP x hx' with q | ⟨q1, q2⟩
    · exact oDok.ext hEx hC.1 hDk x q
    · exact ⟨Nat.le_trans hO.1 q1, q2, (Safe.new q1).ext hEx hC.1⟩
  obtain ⟨V, v, L, hs, r⟩ := g h' hEx hP T' locs vm0 k0 ⟨⟨hx, hb, hm, hr, hl, hn, hE⟩, hT', ext_trans hO hEx, hF, X', hS, Nat.le_trans hk hEx.1, hZ, hown, hC.trans (CHr.ext hEx hC.1), hwd, hD2⟩
  exact ⟨V, v, L, hst V hs, r⟩
/-- a store into one slot -/
theorem oGo.write {a : Addr} {sl : Nat} {w : Value} (H : ∀ (T : State) (locs : List Loc) (vm0 : Vm), Stand p l e R (s.setVm vm0) m args below meth c T locs k n → T.heap = h → Z.Warmed39 vm0 → vm0.findClass own = some m.cls → c.code = bytes → p.tables.exec = Jvm.exec → meth.name = nm → c.maxLocals = mx → ∃ T' h', Stand p l e R (s.setVm vm0) m args below meth c T' (locs ++ [⟨a, sl⟩]) k n ∧ T'.heap = h' ∧ Wr h h' a sl w ∧ ∀ t, Steps p.tables e below (T'.setTop (mkF m pc' Ls' st')) t → Steps p.tables e below (T.setTop (mkF m pc Ls st)) t)
    (ha : a ∈ D) (g : ∀ h', Wr h h' a sl w → h'.size = h.size → oGo l Z a0 EL wd p e s m args below meth c R own bytes mx rt nm Q O D h' k n pc' Ls' st') : oGo l Z a0 EL wd p e s m args below meth c R own bytes mx rt nm Q O D h k n pc Ls st := by
  intro T locs vm0 k0 I
  obtain ⟨⟨hx, hb, hm, hr, hl, hn, hE⟩, hT, hO, hF, X, hS, hk, hZ, hown, hC, hwd, hDk⟩ := I
  obtain ⟨T', h', X', hT', W, hst⟩ := H T locs vm0 X hT hZ hown hb hx hn hm
  obtain ⟨q1, q2, q3⟩ := hDk a ha
  obtain ⟨V, v, L, hs, r⟩ := g h' W W.size T' _ vm0 k0 ⟨⟨hx, hb, hm, hr, hl, hn, hE⟩, hT', ext_wr hO W q1, Fr.snoc X' hF q1, X', hS, by rw [W.size]; exact hk, hZ, hown, hC.trans (CHr.wr W q3 hC.1), hwd, hDk.wr W q3 hC.1⟩
  exact ⟨V, v, L, hst V hs, r⟩
/-- a step that writes into known cells (arraycopy) -/
theorem oGo.writes {ws : List Addr} {P : Heap → Prop} (H : ∀ (T : State) (locs : List Loc) (vm0 : Vm), Stand p l e R (s.setVm vm0) m args below meth c T locs k n → T.heap = h → Z.Warmed39 vm0 → vm0.findClass own = some m.cls → c.code = bytes → p.tables.exec = Jvm.exec → meth.name = nm → c.maxLocals = mx → Fr Z.heap.size locs → (∀ x ∈ D, Z.heap.size ≤ x) → ∃ T' h' L', Stand p l e R (s.setVm vm0) m args below meth c T' L' k n ∧ T'.heap = h' ∧ Fr Z.heap.size L' ∧ Keep h h' ws ∧ P h' ∧ ∀ t, Steps p.tables e below (T'.setTop (mkF m pc' Ls' st')) t → Steps p.tables e below (T.setTop (mkF m pc Ls st)) t)
    (ha : ∀ x ∈ ws, x ∈ D) (g : ∀ h', Keep h h' ws → P h' → oGo l Z a0 EL wd p e s m args below meth c R own bytes mx rt nm Q O D h' k n pc' Ls' st') : oGo l Z a0 EL wd p e s m args below meth c R own bytes mx rt nm Q O D h k n pc Ls st := by
  intro T locs vm0 k0 I
  obtain ⟨⟨hx, hb, hm, hr, hl, hn, hE⟩, hT, hO, hF, X, hS, hk, hZ, hown, hC, hwd, hDk⟩ := I
  obtain ⟨T', h', L', X', hT', hF', K, hP, hst⟩ := H T locs vm0 X hT hZ hown hb hx hn hm hF (fun x q => (hDk x q).1)
  have hsafe : ∀ x ∈ ws, Safe Z EL vm0 h x := fun x q => (hDk x (ha x q)).2.2
  have hO' : Ext Z.heap h' := (Old.keep (Z := Z) (n0 := Z.heap.size) ⟨rfl, hO⟩ K fun x q => (hDk x (ha x q)).1).2
  obtain ⟨V, v, L, hs, r⟩ := g h' K hP T' L' vm0 k0 ⟨⟨hx, hb, hm, hr, hl, hn, hE⟩, hT', hO', hF', X', hS, Nat.le_trans hk K.1, hZ, hown, hC.trans (CHr.keep K hsafe hC.1), hwd, hDk.chr (CHr.keep K hsafe hC.1)⟩
  exact ⟨V, v, L, hst V hs, r⟩
/-- what stood at the start stands still -/
theorem oGo.old (g : Ext Z.heap h → Z.heap.size ≤ h.size → oGo l Z a0 EL wd p e s m args below meth c R own bytes mx rt nm Q O D h k n pc Ls st) : oGo l Z a0 EL wd p e s m args below meth c R own bytes mx rt nm Q O D h k n pc Ls st := fun T locs vm0 k0 I => g I.2.2.1 I.2.2.1.1 T locs vm0 k0 I
/-- steps that leave the state -/
theorem oGo.read (H : ∀ (T : State) (locs : List Loc) (vm0 : Vm), Stand p l e R (s.setVm vm0) m args below meth c T locs k n → T.heap = h → Z.Warmed39 vm0 → vm0.findClass own = some m.cls → c.code = bytes → p.tables.exec = Jvm.exec → meth.name = nm → c.maxLocals = mx → ∀ t, Steps p.tables e below (T.setTop (mkF m pc' Ls' st')) t → Steps p.tables e below (T.setTop (mkF m pc Ls st)) t)
    (g : oGo l Z a0 EL wd p e s m args below meth c R own bytes mx rt nm Q O D h k n pc' Ls' st') : oGo l Z a0 EL wd p e s m args below meth c R own bytes mx rt nm Q O D h k n pc Ls st := oGo.move (fun T locs vm0 X hT hZ hown hb hx hn hm => ⟨T, X, hT, H T locs vm0 X hT hZ hown hb hx hn hm⟩) g
theorem oGo.ldc_int {idx : Nat} {v : Int32} (hd : decode bytes pc = .ok (.ldc idx, 2)) (hp : pc + 2 = pc') (w : (Cond.constant own idx v).before a0 Z = true) (g : oGo l Z a0 EL wd p e s m args below meth c R own bytes mx rt nm Q O D h k n pc' Ls (.int v :: st)) : oGo l Z a0 EL wd p e s m args below meth c R own bytes mx rt nm Q O D h k n pc Ls st := by
  subst hp; exact oGo.read (fun T locs vm0 X hT hZ hown hb hx hn hm => X.ldcInt hx hown (mvT (s := s.setVm vm0) hZ w) (g := mkF m pc Ls st) rfl (by rw [hb]; exact hd)) g
theorem oGo.ldc2_long {idx : Nat} {v : Int64} (hd : decode bytes pc = .ok (.ldc2_w idx, 3)) (hp : pc + 3 = pc') (w : (Cond.constantLong own idx v).before a0 Z = true) (g : oGo l Z a0 EL wd p e s m args below meth c R own bytes mx rt nm Q O D h k n pc' Ls (.long v :: st)) : oGo l Z a0 EL wd p e s m args below meth c R own bytes mx rt nm Q O D h k n pc Ls st := by
  subst hp; exact oGo.read (fun T locs vm0 X hT hZ hown hb hx hn hm => X.ldc2Long hx hown (mvT (s := s.setVm vm0) hZ w) (g := mkF m pc Ls st) rfl (by rw [hb]; exact hd)) g
theorem oGo.getfield {idx : Nat} {a : Addr} {R0 Ow f d : String} {v : Value} (hd : decode bytes pc = .ok (.getfield idx, 3)) (hp : pc + 3 = pc') (w : (Cond.fieldLink own idx R0 f d).before a0 Z = true) (via : Via Z R0 Ow f d) (F : Fld Z h a Ow f d v)
    (g : oGo l Z a0 EL wd p e s m args below meth c R own bytes mx rt nm Q O D h k n pc' Ls (v :: st)) : oGo l Z a0 EL wd p e s m args below meth c R own bytes mx rt nm Q O D h k n pc Ls (.ref a :: st) := by
  subst hp; exact oGo.move (fun T locs vm0 X hT hZ hown hb hx hn hm => getF (s := s.setVm vm0) X hx hZ hown (host := "") (Or.inl w) via hT F (g := mkF m pc Ls (.ref a :: st)) rfl rfl (by rw [hb]; exact hd)) g
theorem oGo.getstatic {idx : Nat} {R0 Ow f d : String} {v : Value} (hd : decode bytes pc = .ok (.getstatic idx, 3)) (hp : pc + 3 = pc') (w : (Cond.fieldLink own idx R0 f d).before a0 Z = true) (via : Via Z R0 Ow f d) (F : Sta Z Z.heap Ow f d v)
    (g : oGo l Z a0 EL wd p e s m args below meth c R own bytes mx rt nm Q O D h k n pc' Ls (v :: st)) : oGo l Z a0 EL wd p e s m args below meth c R own bytes mx rt nm Q O D h k n pc Ls st := by
  subst hp
  intro T locs vm0 k0 I
  have hO : Ext Z.heap h := I.2.2.1
  exact oGo.move (fun T locs vm0 X hT hZ hown hb hx hn hm => getS (s := s.setVm vm0) (host := "") X hx hZ hown w via hT (F.ext hO) (g := mkF m pc Ls st) rfl (by rw [hb]; exact hd)) g T locs vm0 k0 I
theorem oGo.putfield {idx kk : Nat} {a : Addr} {R0 Ow f d Cn : String} {v old : Value} {ty : FieldType} (hd : decode bytes pc = .ok (.putfield idx, 3)) (hp : pc + 3 = pc') (w : (Cond.fieldLink own idx R0 f d).before a0 Z = true) (via : Via Z R0 Ow f d) (F : Fld Z h a Ow f d old) (E : Exa Z h a Cn)
    (L : (Cond.lays Cn Ow f d).before a0 Z = true ∨ ((Cond.laysFinal Cn Ow f d).before a0 Z = true ∧ own = Ow ∧ nm = "<init>")) (wi : (Cond.instantiable Cn kk).before a0 Z = true) (hty : parseFieldDescriptor d = some ty) (hnv : narrow ty v = v) (hf : fits ty v = true) (ha : a ∈ D)
    (g : ∀ h', Wr h h' a (Jvm.RoadKit.slotOf Z Ow f d) v → h'.size = h.size → oGo l Z a0 EL wd p e s m args below meth c R own bytes mx rt nm Q O D h' k n pc' Ls st) : oGo l Z a0 EL wd p e s m args below meth c R own bytes mx rt nm Q O D h k n pc Ls (v :: .ref a :: st) := by
  subst hp; exact oGo.write (fun T locs vm0 X hT hZ hown hb hx hn hm => putF (s := s.setVm vm0) X hx hZ hown (host := "") (Or.inl w) via hT F E (L.imp id fun q => ⟨q.1, q.2.1, hn.trans q.2.2⟩) wi hty hnv hf (g := mkF m pc Ls (v :: .ref a :: st)) rfl rfl (by rw [hb]; exact hd)) ha g
theorem oGo.new {idx sz : Nat} {Cn : String} {k' n' : Nat} (hd : decode bytes pc = .ok (.new idx, 3)) (hp : pc + 3 = pc') (w : (Cond.classLink own idx Cn).before a0 Z = true) (wi : (Cond.instantiable Cn sz).before a0 Z = true) (wz : (Cond.initialized Cn).before a0 Z = true) (hk : k + 1 = k') (hn : n + sz = n') (hc : k' ≤ R.cells) (hl : n' ≤ R.slots)
    (g : ∀ (h' : Heap) (a : Nat), a = h.size → a < h'.size → Ext h h' → Exa Z h' a Cn → (∀ {Ow f d : String} {ty : FieldType}, Laid Z a0 Cn Ow f d → parseFieldDescriptor d = some ty → Fld Z h' a Ow f d (defaultValue ty)) → oGo l Z a0 EL wd p e s m args below meth c R own bytes mx rt nm Q O (a :: D) h' k' n' pc' Ls (.ref a :: st)) : oGo l Z a0 EL wd p e s m args below meth c R own bytes mx rt nm Q O D h k n pc Ls st := by
  subst hp hk hn
  refine oGo.grow (P := fun h' => Exa Z h' h.size Cn ∧ ∀ {Ow f d : String} {ty : FieldType}, Laid Z a0 Cn Ow f d → parseFieldDescriptor d = some ty → Fld Z h' h.size Ow f d (defaultValue ty)) (D' := h.size :: D) (fun T locs vm0 X hT hZ hown hb hx hn hm => ?_) (fun h' q x hx => ?_) (fun h' E q => g h' _ rfl q.1.lt E q.1 q.2)
  · obtain ⟨T', h', X', e', E, A, F, -, hst⟩ := newO (s := s.setVm vm0) X hx hZ hown w wi wz hT (g := mkF m pc Ls st) rfl (by rw [hb]; exact hd) hc hl
    exact ⟨T', h', X', e', E, ⟨A, F⟩, hst⟩
  · rcases List.mem_cons.mp hx with rfl | hx
    · exact Or.inr ⟨Nat.le_refl _, q.1.lt⟩
    · exact Or.inl hx
theorem oGo.objinit {idx : Nat} {a : Addr} (hd : decode bytes pc = .ok (.invokespecial idx, 3)) (hp : pc + 3 = pc') (w1 : (Cond.methodLink own idx Lib.objectInit).before a0 Z = true) (w2 : (Cond.instanceMethod Lib.objectInit).before a0 Z = true) (w3 : (Cond.code Lib.objectInit ⟨#[0xb1]⟩ 1 none).before a0 Z = true)
    (hsz : Ls.size = mx) (hf : 1 ≤ R.frames) (hl : (st.map fun v => v.category).sum + 12 ≤ R.locals) (g : oGo l Z a0 EL wd p e s m args below meth c R own bytes mx rt nm Q O D h k n pc' Ls st) : oGo l Z a0 EL wd p e s m args below meth c R own bytes mx rt nm Q O D h k n pc Ls (.ref a :: st) := by
  subst hp; exact oGo.move (fun T locs vm0 X hT hZ hown hb hx hn hm => initO (s := s.setVm vm0) X hx hZ hown w1 w2 w3 hT (g := mkF m pc Ls (.ref a :: st)) rfl (hsz.trans hm.symm) rfl (by rw [hb]; exact hd) hf (W := (st.map fun v => v.category).sum) (by show 2 * 0 + _ ≤ _; omega) hl) g
/-! ### arrays -/
def oArr (Z : State) (h : Heap) (a : Addr) (ty : FieldType) (vs : List Value) : Prop := ∃ cl : Cell, Arr Z h a cl ty ∧ cl.slots.toList = vs ∧ vs.length < 2147483648 ∧ ∀ v ∈ vs, fits ty v = true
theorem oArr.lt {a : Addr} {ty : FieldType} {vs : List Value} (A : oArr Z h a ty vs) : a < h.size := A.elim fun _ q => q.1.lt
theorem oArr.ext {a : Addr} {ty : FieldType} {vs : List Value} {h' : Heap} (E : Ext h h') (A : oArr Z h a ty vs) : oArr Z h' a ty vs := A.elim fun cl q => ⟨cl, q.1.ext E, q.2⟩
theorem oArr.other {a b : Addr} {ty : FieldType} {vs : List Value} {h' : Heap} {sl : Nat} {w : Value} (W : Wr h h' b sl w) (A : oArr Z h a ty vs) (q : a ≠ b) : oArr Z h' a ty vs := A.elim fun cl r => ⟨cl, r.1.other W q, r.2⟩
theorem oArr.keep {a : Addr} {ty : FieldType} {vs : List Value} {h' : Heap} {ws : List Addr} (A : oArr Z h a ty vs) (K : Keep h h' ws) (q : a ∉ ws) : oArr Z h' a ty vs := A.elim fun cl r => ⟨cl, ⟨K.2.1 a cl r.1.1 q, r.1.2⟩, r.2⟩
theorem oArr.set {a : Addr} {ty : FieldType} {vs : List Value} {h' : Heap} {i : Nat} {w : Value} (W : Wr h h' a i w) (A : oArr Z h a ty vs) (hf : fits ty w = true) : oArr Z h' a ty (vs.set i w) := by
  obtain ⟨cl, h1, rfl, h3, h4⟩ := A
  refine ⟨cl.setSlot i w, h1.same W, by simp [Cell.setSlot], by simpa using h3, fun v hv => ?_⟩
  rcases List.mem_or_eq_of_mem_set hv with q | q
  · exact h4 v q
  · exact q ▸ hf
theorem own_n32 {i : Nat} (h : i < 2147483648) : (Int32.ofNat i).toNatClampNeg = i := by
  have q : i.toInt32.toInt = i := len_toInt (by omega)
  show i.toInt32.toNatClampNeg = i
  simp only [Int32.toNatClampNeg, q]; omega
theorem own_i32 {i : Nat} (h : i < 2147483648) : (Int32.ofNat i).toInt = i := len_toInt (by omega)
theorem own_nn {i : Nat} (h : i < 2147483648) : ¬ Int32.ofNat i < 0 := by
  rw [Int32.lt_iff_toInt_lt, own_i32 h]; simp
theorem own_inb {c : Cell} {vs : List Value} {i : Nat} (e : c.slots.toList = vs) (hb : vs.length < 2147483648) (hi : i < vs.length) : ¬ (Int32.ofNat i < 0 ∨ c.slots.size ≤ (Int32.ofNat i).toNatClampNeg) := by
  rw [own_n32 (by omega)]
  have : c.slots.size = vs.length := by rw [← e]; simp
  rintro (q | q)
  · exact own_nn (by omega) q
  · omega
theorem oArr.arv {a : Addr} {ty : FieldType} {vs : List Value} (A : oArr Z h a ty vs) (d : Value) : ∃ kk, Arv Z h a kk ty (Int32.ofNat vs.length) vs d := by
  obtain ⟨cl, h1, rfl, h3, h4⟩ := A
  refine ⟨cl.cls, cl, h1, rfl, by rw [own_n32 h3]; simp, own_nn h3, fun i hi => by simp [List.getD_eq_getElem?_getD, hi], fun i hi => h4 _ ?_⟩
  simp [List.getD_eq_getElem?_getD, hi]
theorem oArr.of_arv {a : Addr} {ty : FieldType} {vs : List Value} {kk : ClassId} {z : Int32} {d : Value} (A : Arv Z h a kk ty z vs d) (hl : z.toNatClampNeg = vs.length) : oArr Z h a ty vs := by
  obtain ⟨cl, h1, h2, h3, h4, h5, h6⟩ := A
  have hz := Int32.toInt_lt z
  have e : cl.slots.toList = vs := by
    apply List.ext_getElem?
    intro i
    by_cases q : i < cl.slots.size
    · have := h5 i q
      rw [← Array.getElem?_toList] at this
      rw [this]
      have q' : i < vs.length := by omega
      simp [List.getD_eq_getElem?_getD, q']
    · rw [List.getElem?_eq_none (by simpa using q), List.getElem?_eq_none (by omega)]
  refine ⟨cl, h1, e, by rw [← hl]; simp only [Int32.toNatClampNeg]; omega, fun v hv => ?_⟩
  obtain ⟨i, hi, rfl⟩ := List.getElem_of_mem hv
  have := h6 i (by omega)
  rwa [List.getD_eq_getElem?_getD, List.getElem?_eq_getElem hi] at this
theorem oGo.arraylength {a : Addr} {ty : FieldType} {vs : List Value} {z : Int32} (hd : decode bytes pc = .ok (.arraylength, 1)) (hp : pc + 1 = pc') (A : oArr Z h a ty vs) (hv : Int32.ofNat vs.length = z) (g : oGo l Z a0 EL wd p e s m args below meth c R own bytes mx rt nm Q O D h k n pc' Ls (.int z :: st)) : oGo l Z a0 EL wd p e s m args below meth c R own bytes mx rt nm Q O D h k n pc Ls (.ref a :: st) := by
  subst hp hv
  obtain ⟨cl, h1, rfl, h3, h4⟩ := A
  exact oGo.read (fun T locs vm0 X hT hZ hown hb hx hn hm t hr => X.arraylength hx (by rw [hT]; exact h1.1) (State.isArrayOf_alike (T := s.setVm vm0) hZ.alike h1.2.1) (g := mkF m pc Ls (.ref a :: st)) rfl rfl (by rw [hb]; exact hd) t (by simpa using hr)) g
theorem oGo.caload {a : Addr} {vs : List Value} {j : Int32} {i : Nat} {v : Value} (hd : decode bytes pc = .ok (.caload, 1)) (hp : pc + 1 = pc') (A : oArr Z h a .char vs) (hj : j = Int32.ofNat i) (hi : vs[i]? = some v) (g : oGo l Z a0 EL wd p e s m args below meth c R own bytes mx rt nm Q O D h k n pc' Ls (v :: st)) : oGo l Z a0 EL wd p e s m args below meth c R own bytes mx rt nm Q O D h k n pc Ls (.int j :: .ref a :: st) := by
  subst hp hj
  obtain ⟨cl, h1, rfl, h3, h4⟩ := A
  have hl : i < cl.slots.toList.length := (List.getElem?_eq_some_iff.mp hi).1
  exact oGo.read (fun T locs vm0 X hT hZ hown hb hx hn hm t hr => X.caload hx (by rw [hT]; exact h1.1) (State.isArrayOf_alike (T := s.setVm vm0) hZ.alike h1.2.1) h1.2.2 (own_inb rfl h3 hl) (by rw [own_n32 (by omega), ← Array.getElem?_toList]; exact hi) (g := mkF m pc Ls (.int (Int32.ofNat i) :: .ref a :: st)) rfl rfl (by rw [hb]; exact hd) t hr) g
theorem oGo.baload {a : Addr} {vs : List Value} {j : Int32} {i : Nat} {v : Value} (hd : decode bytes pc = .ok (.baload, 1)) (hp : pc + 1 = pc') (A : oArr Z h a .byte vs) (hj : j = Int32.ofNat i) (hi : vs[i]? = some v) (g : oGo l Z a0 EL wd p e s m args below meth c R own bytes mx rt nm Q O D h k n pc' Ls (v :: st)) : oGo l Z a0 EL wd p e s m args below meth c R own bytes mx rt nm Q O D h k n pc Ls (.int j :: .ref a :: st) := by
  subst hp hj
  obtain ⟨cl, h1, rfl, h3, h4⟩ := A
  have hl : i < cl.slots.toList.length := (List.getElem?_eq_some_iff.mp hi).1
  exact oGo.read (fun T locs vm0 X hT hZ hown hb hx hn hm t hr => X.baloadBytes hx (by rw [hT]; exact h1.1) (State.isArrayOf_alike (T := s.setVm vm0) hZ.alike h1.2.1) h1.2.2 (own_inb rfl h3 hl) (by rw [own_n32 (by omega), ← Array.getElem?_toList]; exact hi) (g := mkF m pc Ls (.int (Int32.ofNat i) :: .ref a :: st)) rfl rfl (by rw [hb]; exact hd) t hr) g
theorem oGo.laload {a : Addr} {vs : List Value} {j : Int32} {i : Nat} {v : Value} (hd : decode bytes pc = .ok (.laload, 1)) (hp : pc + 1 = pc') (A : oArr Z h a .long vs) (hj : j = Int32.ofNat i) (hi : vs[i]? = some v) (g : oGo l Z a0 EL wd p e s m args below meth c R own bytes mx rt nm Q O D h k n pc' Ls (v :: st)) : oGo l Z a0 EL wd p e s m args below meth c R own bytes mx rt nm Q O D h k n pc Ls (.int j :: .ref a :: st) := by
  subst hp hj
  obtain ⟨cl, h1, rfl, h3, h4⟩ := A
  have hl : i < cl.slots.toList.length := (List.getElem?_eq_some_iff.mp hi).1
  exact oGo.read (fun T locs vm0 X hT hZ hown hb hx hn hm t hr => X.laload hx (by rw [hT]; exact h1.1) (State.isArrayOf_alike (T := s.setVm vm0) hZ.alike h1.2.1) h1.2.2 (own_inb rfl h3 hl) (by rw [own_n32 (by omega), ← Array.getElem?_toList]; exact hi) (g := mkF m pc Ls (.int (Int32.ofNat i) :: .ref a :: st)) rfl rfl (by rw [hb]; exact hd) t hr) g
theorem oGo.iaload {a : Addr} {vs : List Value} {j : Int32} {i : Nat} {v : Value} (hd : decode bytes pc = .ok (.iaload, 1)) (hp : pc + 1 = pc') (A : oArr Z h a .int vs) (hj : j = Int32.ofNat i) (hi : vs[i]? = some v) (g : oGo l Z a0 EL wd p e s m args below meth c R own bytes mx rt nm Q O D h k n pc' Ls (v :: st)) : oGo l Z a0 EL wd p e s m args below meth c R own bytes mx rt nm Q O D h k n pc Ls (.int j :: .ref a :: st) := by
  subst hp hj
  obtain ⟨cl, h1, rfl, h3, h4⟩ := A
  have hl : i < cl.slots.toList.length := (List.getElem?_eq_some_iff.mp hi).1
  exact oGo.read (fun T locs vm0 X hT hZ hown hb hx hn hm t hr => X.iaload hx (by rw [hT]; exact h1.1) (State.isArrayOf_alike (T := s.setVm vm0) hZ.alike h1.2.1) h1.2.2 (own_inb rfl h3 hl) (by rw [own_n32 (by omega), ← Array.getElem?_toList]; exact hi) (g := mkF m pc Ls (.int (Int32.ofNat i) :: .ref a :: st)) rfl rfl (by rw [hb]; exact hd) t hr) g
theorem oGo.aaload {a : Addr} {ty : FieldType} {vs : List Value} {j : Int32} {i : Nat} {v : Value} (hd : decode bytes pc = .ok (.aaload, 1)) (hp : pc + 1 = pc') (A : oArr Z h a ty vs) (ht : ty.isReference = true) (hj : j = Int32.ofNat i) (hi : vs[i]? = some v) (g : oGo l Z a0 EL wd p e s m args below meth c R own bytes mx rt nm Q O D h k n pc' Ls (v :: st)) : oGo l Z a0 EL wd p e s m args below meth c R own bytes mx rt nm Q O D h k n pc Ls (.int j :: .ref a :: st) := by
  subst hp hj
  obtain ⟨cl, h1, rfl, h3, h4⟩ := A
  have hl : i < cl.slots.toList.length := (List.getElem?_eq_some_iff.mp hi).1
  exact oGo.read (fun T locs vm0 X hT hZ hown hb hx hn hm t hr => X.aaload hx (by rw [hT]; exact h1.1) (State.isArrayOf_alike (T := s.setVm vm0) hZ.alike h1.2.1) ht h1.2.2 (own_inb rfl h3 hl) (by rw [own_n32 (by omega), ← Array.getElem?_toList]; exact hi) (g := mkF m pc Ls (.int (Int32.ofNat i) :: .ref a :: st)) rfl rfl (by rw [hb]; exact hd) t hr) g
theorem oGo.castore {a : Addr} {vs : List Value} {j : Int32} {i : Nat} {x w : Int32} (hd : decode bytes pc = .ok (.castore, 1)) (hp : pc + 1 = pc') (A : oArr Z h a .char vs) (hj : j = Int32.ofNat i) (hi : i < vs.length) (hw : nar .char x = w) (ha : a ∈ D) (g : ∀ h', Wr h h' a i (.int w) → h'.size = h.size → oArr Z h' a .char (vs.set i (.int w)) → oGo l Z a0 EL wd p e s m args below meth c R own bytes mx rt nm Q O D h' k n pc' Ls st) : oGo l Z a0 EL wd p e s m args below meth c R own bytes mx rt nm Q O D h k n pc Ls (.int x :: .int j :: .ref a :: st) := by
  subst hp hj hw
  have A0 := A
  obtain ⟨cl, h1, rfl, h3, h4⟩ := A
  refine oGo.write (fun T locs vm0 X hT hZ hown hb hx hn hm => ?_) ha (fun h' W hs => g h' W hs (A0.set W (fits_nar_char x)))
  have q := stC (s := s.setVm vm0) X hx hZ hT h1 (own_inb rfl h3 hi) (g := mkF m pc Ls (.int x :: .int (Int32.ofNat i) :: .ref a :: st)) rfl rfl (by rw [hb]; exact hd)
  rw [own_n32 (by omega)] at q
  exact q
theorem oGo.bastore {a : Addr} {vs : List Value} {j : Int32} {i : Nat} {x w : Int32} (hd : decode bytes pc = .ok (.bastore, 1)) (hp : pc + 1 = pc') (A : oArr Z h a .byte vs) (hj : j = Int32.ofNat i) (hi : i < vs.length) (hw : nar .byte x = w) (ha : a ∈ D) (g : ∀ h', Wr h h' a i (.int w) → h'.size = h.size → oArr Z h' a .byte (vs.set i (.int w)) → oGo l Z a0 EL wd p e s m args below meth c R own bytes mx rt nm Q O D h' k n pc' Ls st) : oGo l Z a0 EL wd p e s m args below meth c R own bytes mx rt nm Q O D h k n pc Ls (.int x :: .int j :: .ref a :: st) := by
  subst hp hj hw
  have A0 := A
  obtain ⟨cl, h1, rfl, h3, h4⟩ := A
  refine oGo.write (fun T locs vm0 X hT hZ hown hb hx hn hm => ?_) ha (fun h' W hs => g h' W hs (A0.set W (fits_nar_byte x)))
  have q := stB (s := s.setVm vm0) X hx hZ hT h1 (own_inb rfl h3 hi) (g := mkF m pc Ls (.int x :: .int (Int32.ofNat i) :: .ref a :: st)) rfl rfl (by rw [hb]; exact hd)
  rw [own_n32 (by omega)] at q
  exact q
theorem oGo.iastore {a : Addr} {vs : List Value} {j : Int32} {i : Nat} {x w : Int32} (hd : decode bytes pc = .ok (.iastore, 1)) (hp : pc + 1 = pc') (A : oArr Z h a .int vs) (hj : j = Int32.ofNat i) (hi : i < vs.length) (hw : x = w) (ha : a ∈ D) (g : ∀ h', Wr h h' a i (.int w) → h'.size = h.size → oArr Z h' a .int (vs.set i (.int w)) → oGo l Z a0 EL wd p e s m args below meth c R own bytes mx rt nm Q O D h' k n pc' Ls st) : oGo l Z a0 EL wd p e s m args below meth c R own bytes mx rt nm Q O D h k n pc Ls (.int x :: .int j :: .ref a :: st) := by
  subst hp hj hw
  have A0 := A
  obtain ⟨cl, h1, rfl, h3, h4⟩ := A
  refine oGo.write (fun T locs vm0 X hT hZ hown hb hx hn hm => ?_) ha (fun h' W hs => g h' W hs (A0.set W (rfl)))
  have q := stI (s := s.setVm vm0) X hx hZ hT h1 (own_inb rfl h3 hi) (g := mkF m pc Ls (.int x :: .int (Int32.ofNat i) :: .ref a :: st)) rfl rfl (by rw [hb]; exact hd)
  rw [own_n32 (by omega)] at q
  exact q
theorem oGo.lastore {a : Addr} {vs : List Value} {j : Int32} {i : Nat} {x w : Int64} (hd : decode bytes pc = .ok (.lastore, 1)) (hp : pc + 1 = pc') (A : oArr Z h a .long vs) (hj : j = Int32.ofNat i) (hi : i < vs.length) (hw : x = w) (ha : a ∈ D) (g : ∀ h', Wr h h' a i (.long w) → h'.size = h.size → oArr Z h' a .long (vs.set i (.long w)) → oGo l Z a0 EL wd p e s m args below meth c R own bytes mx rt nm Q O D h' k n pc' Ls st) : oGo l Z a0 EL wd p e s m args below meth c R own bytes mx rt nm Q O D h k n pc Ls (.long x :: .int j :: .ref a :: st) := by
  subst hp hj hw
  have A0 := A
  obtain ⟨cl, h1, rfl, h3, h4⟩ := A
  refine oGo.write (fun T locs vm0 X hT hZ hown hb hx hn hm => ?_) ha (fun h' W hs => g h' W hs (A0.set W (rfl)))
  have q := stJ (s := s.setVm vm0) X hx hZ hT h1 (own_inb rfl h3 hi) (g := mkF m pc Ls (.long x :: .int (Int32.ofNat i) :: .ref a :: st)) rfl rfl (by rw [hb]; exact hd)
  rw [own_n32 (by omega)] at q
  exact q
theorem oGo.newarray {aty : ArrayType} {z : Int32} {i : Nat} {k' n' : Nat} (hd : decode bytes pc = .ok (.newarray aty, 2)) (hp : pc + 2 = pc') (w : (Cond.arrayClass (newarray.typeOf aty)).before a0 Z = true) (hz : z = Int32.ofNat i) (cap : Nat) (hi : i ≤ cap) (hcap : cap * 8 ≤ 536870912) (hk : k + 1 = k') (hn : n + cap = n') (hc : k' ≤ R.cells) (hl : n' ≤ R.slots) (hfd : fits (newarray.typeOf aty) (defaultValue (newarray.typeOf aty)) = true)
    (g : ∀ (h' : Heap) (a : Nat), a = h.size → a < h'.size → Ext h h' → oArr Z h' a (newarray.typeOf aty) (List.replicate i (defaultValue (newarray.typeOf aty))) → oGo l Z a0 EL wd p e s m args below meth c R own bytes mx rt nm Q O (a :: D) h' k' n' pc' Ls (.ref a :: st)) : oGo l Z a0 EL wd p e s m args below meth c R own bytes mx rt nm Q O D h k n pc Ls (.int z :: st) := by
  subst hp hk hn hz
  have hb31 : i < 2147483648 := by omega
  refine oGo.grow (P := fun h' => oArr Z h' h.size (newarray.typeOf aty) (List.replicate i (defaultValue (newarray.typeOf aty)))) (D' := h.size :: D) (fun T locs vm0 X hT hZ hown hb hx hn hm => ?_) (fun h' q x hx => ?_) (fun h' E q => g h' _ rfl q.lt E q)
  · obtain ⟨T', h', cA, X', e', E, A, hst⟩ := newP (s := s.setVm vm0) X hx hZ w hT (g := mkF m pc Ls (.int (Int32.ofNat i) :: st)) rfl (by rw [hb]; exact hd) rfl (own_nn hb31) (cap := cap) (by rw [own_n32 hb31]; exact hi) hcap hc hl
    refine ⟨T', h', X', e', E, ⟨_, A, ?_, by simpa using hb31, fun v hv => ?_⟩, hst⟩
    · simp [newA, own_n32 hb31]
    · rw [(List.mem_replicate.mp hv).2]; exact hfd
  · rcases List.mem_cons.mp hx with rfl | hx
    · exact Or.inr ⟨Nat.le_refl _, q.lt⟩
    · exact Or.inl hx
/-! ### calls -/
theorem oCtr.back {y : MethodName} {b' : ByteArray} {mx' : Nat} {rt' : Option FieldType} {rm : Room} {len W : Nat} {as' : Array Value} {Q' : Option Value → Heap → Prop} {O' : Option Value → Heap → Addr → Prop} {D' : List Addr} {vm0 : Vm}
    (hM : oCtr [] l Z a0 EL wd y b' mx' rt' rm as' D' h Q' O') (hZ : Z.Warmed39 vm0) (wc : (Cond.code y b' mx' rt').before a0 Z = true) (wz : (Cond.initialized y.cls).before a0 Z = true) (hf : rm.frames + 1 ≤ R.frames) (hl : W + (mx' + 11) + rm.locals ≤ R.locals) (hEL : EW Z a0 EL) (hO : Ext Z.heap h) (H : CHv Z EL vm0 h) (hD : oDok Z EL vm0 h D') :
    BackS l R p e below (s.setVm vm0) args y len W (fun A a => a = as' ∧ A.U.heap = h ∧ A.cells + rm.cells ≤ R.cells ∧ A.slots + rm.slots ≤ R.slots)
      (fun A _ v B => ∃ L, (Q' v B.U.heap ∧ ∀ x, O' v B.U.heap x → Z.heap.size ≤ x ∧ x < B.U.heap.size ∧ Safe Z EL B.U.vm B.U.heap x) ∧ Fr Z.heap.size L ∧ Ext Z.heap B.U.heap ∧ B.locs = A.locs ++ L ∧ B.cells = A.cells + rm.cells ∧ B.slots = A.slots + rm.slots ∧ CHr Z EL vm0 h B.U.vm B.U.heap ∧ (wd ∨ A.U.WarmedH B.U.vm)) :=
  BackS.of_freeW (bytes := b') (maxL := mx') (ret := rt') (E := fun _ first o t L k n => k = rm.cells ∧ n = rm.slots ∧ (∃ v, o = .returned v ∧ Q' v t.heap ∧ ∀ x, O' v t.heap x → Z.heap.size ≤ x ∧ x < t.heap.size ∧ Safe Z EL t.vm t.heap x) ∧ Fr Z.heap.size L ∧ Ext Z.heap t.heap ∧ CHr Z EL first.vm first.heap t.vm t.heap ∧ (wd ∨ first.WarmedH t.vm)) hM hf hl
    (fun m meth c A a Y hp => have hU : Z.Warmed39 A.U.vm := wtrans (s := s.setVm vm0) hZ Y.warmed
      ⟨by show (Cond.and _ .tt).before a A.U = true; rw [Cond.before_and, mv hU wc]; rfl, mv hU wc, mv hU wz, hp.2.2.1, hp.2.2.2⟩)
    (fun m meth c A a g mk Y hp => ⟨hp.1, wtrans (s := s.setVm vm0) hZ Y.warmed, hp.2.1, hO, (CHv.at (T := A.U) Y hZ hEL H).1, hD.chr (CHv.at (T := A.U) Y hZ hEL H)⟩) (fun _ _ _ _ _ _ _ _ _ => trivial)
    (fun _ _ _ _ ⟨v, L, h1, h2, h3, h4, h5, h6, h7⟩ => ⟨L, _, _, h7, rfl, rfl, ⟨v, h1, h2⟩, h3, h4, h5, h6⟩)
    (fun m meth c A a g mk v t L k n Y hp _ _ ⟨e1, e2, ⟨v', e3, e4⟩, e5, e6, e7, e8⟩ => by
      cases e3; subst e1 e2
      refine ⟨L, e4, e5, e6, rfl, rfl, rfl, (CHv.at Y hZ hEL H).trans ?_, e8⟩
      rw [← hp.2.1]; exact e7)
theorem oGo.after {T : State} {locs : List Loc} {vm0 : Vm} {k0 : Nat} {rm : Room} {k' n' : Nat} {Q' : Option Value → Heap → Prop} {O' : Option Value → Heap → Addr → Prop} {rest : List Value} {as' : Array Value}
    (I : oInv l Z a0 EL wd p e s m args below meth c R own bytes mx rt nm D h k n T locs vm0 k0) (hk : k + rm.cells = k') (hn : n + rm.slots = n')
    (X : ∃ (v : Option Value) (vm₁ : Vm) (B : Pt), (s.setVm vm0).WarmedH vm₁ ∧ Stand p l e R ((s.setVm vm0).setVm B.U.vm) m args below meth c B.U B.locs B.cells B.slots ∧ (s.setVm vm0).Since B.U.vm B.U.heap.size ∧ T.heap.size ≤ B.U.heap.size ∧
      (fun (A : Pt) (_ : Array Value) (v : Option Value) (B : Pt) => ∃ L, (Q' v B.U.heap ∧ ∀ x, O' v B.U.heap x → Z.heap.size ≤ x ∧ x < B.U.heap.size ∧ Safe Z EL B.U.vm B.U.heap x) ∧ Fr Z.heap.size L ∧ Ext Z.heap B.U.heap ∧ B.locs = A.locs ++ L ∧ B.cells = A.cells + rm.cells ∧ B.slots = A.slots + rm.slots ∧ CHr Z EL vm0 h B.U.vm B.U.heap ∧ (wd ∨ A.U.WarmedH B.U.vm)) ⟨T.setVm vm₁, locs, k, n⟩ as' v B ∧
      Steps p.tables e below (T.setTop (mkF m pc Ls st)) (B.U.setTop (mkF m pc' Ls (v.toList ++ rest))))
    (g : ∀ v h', h.size ≤ h'.size → Q' v h' → ∃ D2 : List Addr, (∀ x ∈ D2, x ∈ D ∨ O' v h' x) ∧ oGo l Z a0 EL wd p e s m args below meth c R own bytes mx rt nm Q O D2 h' k' n' pc' Ls (v.toList ++ rest)) : oRes Z EL wd p e s below R Q O (T.setTop (mkF m pc Ls st)) := by
  subst hk hn
  obtain ⟨⟨hx, hb, hm, hr, hl, hn, hE⟩, hT, hO, hF, X0, hS, hk, hZ, hown, hC, hwd, hDk⟩ := I
  obtain ⟨v, vm₁, ⟨U, Lb, kb, nb⟩, hW1, XB, hSB, hsz, ⟨L, ⟨hq, hOq⟩, hFL, hOB, e1, e2, e3, hCB, hwB⟩, hst⟩ := X
  dsimp only [Pt.U, Pt.locs, Pt.cells, Pt.slots] at *
  subst e1 e2 e3
  rw [hT] at hsz
  obtain ⟨X', hS', hZ', hown'⟩ := rebS hS hk XB hSB hsz hZ hown
  have hwd' : wd ∨ s.WarmedH U.vm := by
    rcases hwd with q | q
    · exact Or.inl q
    · rcases hwB with r | r
      · exact Or.inl r
      · exact Or.inr (State.WarmedH.trans (t := s.setVm vm0) q (State.WarmedH.trans (s := s.setVm vm0) (t := T.setVm vm₁) hW1 r))
  obtain ⟨D2, hD2, g2⟩ := g v U.heap hsz hq
  have hDk2 : oDok Z EL U.vm U.heap D2 := fun x hx' => (hD2 x hx').elim (fun q => hDk.chr hCB x q) (fun q => hOq x q)
  obtain ⟨V, v', L', hs, r⟩ := g2 U (locs ++ L) U.vm U.heap.size ⟨⟨hx, hb, hm, hr, hl, hn, hE⟩, rfl, hOB, hF.app hFL, X', hS', Nat.le_refl _, hZ', hown', hC.trans hCB, hwd', hDk2⟩
  exact ⟨V, v', L', hst.trans hs, r⟩
theorem oGo.invokestatic {idx : Nat} {y : MethodName} {b' : ByteArray} {mx' : Nat} {rt' rs : Option FieldType} {ps : List FieldType} {rm : Room} {D' : List Addr} {Q' : Option Value → Heap → Prop} {O' : Option Value → Heap → Addr → Prop} {k' n' : Nat} {argsL rest : List Value}
    (hd : decode bytes pc = .ok (.invokestatic idx, 3)) (hp : pc + 3 = pc') (w1 : (Cond.methodLink own idx y).before a0 Z = true) (w2 : (Cond.static y).before a0 Z = true) (w3 : (Cond.initialized y.cls).before a0 Z = true) (w4 : (Cond.code y b' mx' rt').before a0 Z = true)
    (hy : y.cls ≠ "java/lang/invoke/MethodHandle" ∧ y.cls ≠ "java/lang/invoke/VarHandle") (pd : parseMethodDescriptor y.desc = some ⟨ps, rs⟩) (hll : argsL.length = ps.length) (hst : st = argsL.reverse ++ rest) (hsz : Ls.size = mx)
    (hM : oCtr [] l Z a0 EL wd y b' mx' rt' rm argsL.toArray D' h Q' O') (hD : ∀ x ∈ D', x ∈ D) (hf : rm.frames + 1 ≤ R.frames) (hl : (rest.map fun v => v.category).sum + (mx' + 11) + rm.locals ≤ R.locals) (hk : k + rm.cells = k') (hn : n + rm.slots = n') (hc : k' ≤ R.cells) (hs : n' ≤ R.slots)
    (g : ∀ v h', h.size ≤ h'.size → Q' v h' → ∃ D2 : List Addr, (∀ x ∈ D2, x ∈ D ∨ O' v h' x) ∧ oGo l Z a0 EL wd p e s m args below meth c R own bytes mx rt nm Q O D2 h' k' n' pc' Ls (v.toList ++ rest)) : oGo l Z a0 EL wd p e s m args below meth c R own bytes mx rt nm Q O D h k n pc Ls st := by
  subst hp hst
  intro T locs vm0 k0 I
  have I0 := I
  obtain ⟨⟨hx, hb, hm, hr, hlk, hnm, hE⟩, hT, hO, hF, X, hS, hk0, hZ, hown, hC, hwd, hDk⟩ := I
  refine oGo.after I0 hk hn (as' := argsL.toArray) (rest := rest) (callSS (s := s.setVm vm0) X hx hown (mvT (s := s.setVm vm0) hZ w1) (mvT (s := s.setVm vm0) hZ w2) (mvT (s := s.setVm vm0) hZ w3) (mvT (s := s.setVm vm0) hZ w4) hy
    (oCtr.back (W := (rest.map fun v => v.category).sum) hM hZ w4 w3 hf hl hE hO hC.1 (hDk.sub hD)) (g := mkF m pc Ls (argsL.reverse ++ rest)) rfl (hsz.trans hm.symm) (lenOf pd hll) rfl (by show 2 * 0 + _ ≤ _; omega) (by rw [hb]; exact hd) (fun _ _ => ⟨rfl, hT, by show k + _ ≤ _; omega, by show n + _ ≤ _; omega⟩)) g
theorem oGo.invokespecial {idx : Nat} {y : MethodName} {b' : ByteArray} {mx' : Nat} {rs : Option FieldType} {ps : List FieldType} {rm : Room} {D' : List Addr} {Q' : Option Value → Heap → Prop} {O' : Option Value → Heap → Addr → Prop} {k' n' : Nat} {a : Addr} {argsL rest : List Value}
    (hd : decode bytes pc = .ok (.invokespecial idx, 3)) (hp : pc + 3 = pc') (hi : y.name = "<init>") (w1 : (Cond.methodLink own idx y).before a0 Z = true) (w2 : (Cond.instanceMethod y).before a0 Z = true) (w3 : (Cond.initialized y.cls).before a0 Z = true) (w4 : (Cond.code y b' mx' none).before a0 Z = true)
    (hy : y.cls ≠ "java/lang/invoke/MethodHandle" ∧ y.cls ≠ "java/lang/invoke/VarHandle") (pd : parseMethodDescriptor y.desc = some ⟨ps, rs⟩) (hll : argsL.length = ps.length) (hst : st = argsL.reverse ++ .ref a :: rest) (hsz : Ls.size = mx)
    (hM : oCtr [] l Z a0 EL wd y b' mx' none rm (.ref a :: argsL).toArray D' h Q' O') (hD : ∀ x ∈ D', x ∈ D) (hf : rm.frames + 1 ≤ R.frames) (hl : (rest.map fun v => v.category).sum + (mx' + 11) + rm.locals ≤ R.locals) (hk : k + rm.cells = k') (hn : n + rm.slots = n') (hc : k' ≤ R.cells) (hs : n' ≤ R.slots)
    (g : ∀ v h', h.size ≤ h'.size → Q' v h' → ∃ D2 : List Addr, (∀ x ∈ D2, x ∈ D ∨ O' v h' x) ∧ oGo l Z a0 EL wd p e s m args below meth c R own bytes mx rt nm Q O D2 h' k' n' pc' Ls (v.toList ++ rest)) : oGo l Z a0 EL wd p e s m args below meth c R own bytes mx rt nm Q O D h k n pc Ls st := by
  subst hp hst
  intro T locs vm0 k0 I
  have I0 := I
  obtain ⟨⟨hx, hb, hm, hr, hlk, hnm, hE⟩, hT, hO, hF, X, hS, hk0, hZ, hown, hC, hwd, hDk⟩ := I
  refine oGo.after I0 hk hn (as' := (.ref a :: argsL).toArray) (rest := rest) (X.specialBackS hx hi hown (mvT (s := s.setVm vm0) hZ w1) (mvT (s := s.setVm vm0) hZ w2) (mvT (s := s.setVm vm0) hZ w4) hy
    (oCtr.back (W := (rest.map fun v => v.category).sum) hM hZ w4 w3 hf hl hE hO hC.1 (hDk.sub hD)) (g := mkF m pc Ls (argsL.reverse ++ .ref a :: rest)) rfl (hsz.trans hm.symm) (Steps.refl _) (lenOf pd hll) rfl (by show 2 * 0 + _ ≤ _; omega) (by rw [hb]; exact hd) (fun _ _ => ⟨rfl, hT, by show k + _ ≤ _; omega, by show n + _ ≤ _; omega⟩)) g
theorem own_notface {args : Array Value} {s : State} {C5 : String} {y y5 z5 : MethodName} (w : (Cond.selects C5 y5 z5).before args s = true) (h : z5.cls = y.cls) : NotFace s y := fun r0 h0 => by
  obtain ⟨c2, r2, m2, -, -, q3, -, kP, hkP, hkPi⟩ := Cond.selects_spec w
  have f1 := findClass_of_methodNamed q3
  have f2 := findClass_of_methodNamed h0
  rw [h] at f1
  have e := Option.some.inj (f1.symm.trans f2)
  rw [e] at hkP; exact ⟨kP, hkP, hkPi⟩
theorem oGo.invokevirtual {idx : Nat} {y z : MethodName} {Cn C5 : String} {y5 z5 : MethodName} {b' : ByteArray} {mx' : Nat} {rt' rs : Option FieldType} {ps : List FieldType} {rm : Room} {D' : List Addr} {Q' : Option Value → Heap → Prop} {O' : Option Value → Heap → Addr → Prop} {k' n' : Nat} {a : Addr} {argsL rest : List Value}
    (hd : decode bytes pc = .ok (.invokevirtual idx, 3)) (hp : pc + 3 = pc') (w1 : (Cond.methodLink own idx y).before a0 Z = true) (w2 : (Cond.declares y).before a0 Z = true) (w5 : (Cond.selects Cn y z).before a0 Z = true) (w7 : (Cond.selects C5 y5 z5).before a0 Z = true) (h7 : z5.cls = y.cls) (w6 : (Cond.instanceMethod z).before a0 Z = true) (w3 : (Cond.initialized z.cls).before a0 Z = true) (w4 : (Cond.code z b' mx' rt').before a0 Z = true)
    (hy : y.cls ≠ "java/lang/invoke/MethodHandle" ∧ y.cls ≠ "java/lang/invoke/VarHandle") (pd : parseMethodDescriptor y.desc = some ⟨ps, rs⟩) (hll : argsL.length = ps.length) (hst : st = argsL.reverse ++ .ref a :: rest) (hsz : Ls.size = mx) (E : Exa Z h a Cn)
    (hM : oCtr [] l Z a0 EL wd z b' mx' rt' rm (.ref a :: argsL).toArray D' h Q' O') (hD : ∀ x ∈ D', x ∈ D) (hf : rm.frames + 1 ≤ R.frames) (hl : (rest.map fun v => v.category).sum + (mx' + 11) + rm.locals ≤ R.locals) (hk : k + rm.cells = k') (hn : n + rm.slots = n') (hc : k' ≤ R.cells) (hs : n' ≤ R.slots)
    (g : ∀ v h', h.size ≤ h'.size → Q' v h' → ∃ D2 : List Addr, (∀ x ∈ D2, x ∈ D ∨ O' v h' x) ∧ oGo l Z a0 EL wd p e s m args below meth c R own bytes mx rt nm Q O D2 h' k' n' pc' Ls (v.toList ++ rest)) : oGo l Z a0 EL wd p e s m args below meth c R own bytes mx rt nm Q O D h k n pc Ls st := by
  subst hp hst
  intro T locs vm0 k0 I
  have I0 := I
  obtain ⟨⟨hx, hb, hm, hr, hlk, hnm, hE⟩, hT, hO, hF, X, hS, hk0, hZ, hown, hC, hwd, hDk⟩ := I
  obtain ⟨cq, kq, q1, q2, q3⟩ := isOf (s := s.setVm vm0) (T := T) hZ hT E
  refine oGo.after I0 hk hn (as' := (.ref a :: argsL).toArray) (rest := rest) (X.virtualBackS hx hown (mvT (s := s.setVm vm0) hZ w1) (mvT (s := s.setVm vm0) hZ w2) (own_notface (args := #[]) (mvT (s := s.setVm vm0) hZ w7) h7) (mvT (s := s.setVm vm0) hZ w5) (mvT (s := s.setVm vm0) hZ w6) hy
    (oCtr.back (W := (rest.map fun v => v.category).sum) hM hZ w4 w3 hf hl hE hO hC.1 (hDk.sub hD)) q1 q3 (g := mkF m pc Ls (argsL.reverse ++ .ref a :: rest)) rfl (hsz.trans hm.symm) (Steps.refl _) (lenOf pd hll) rfl (by show 2 * 0 + _ ≤ _; omega) (by rw [hb]; exact hd) (fun _ _ => ⟨rfl, hT, by show k + _ ≤ _; omega, by show n + _ ≤ _; omega⟩)) g
/-! ### the end -/
theorem oGo.leave {T : State} {locs : List Loc} {vm0 : Vm} {k0 : Nat} {v : Option Value} (I : oInv l Z a0 EL wd p e s m args below meth c R own bytes mx rt nm D h k n T locs vm0 k0) (hk : k ≤ R.cells) (hn : n ≤ R.slots) (hv : rt = none → v = none) (hq : Q v h) (hOx : ∀ x, O v h x → x ∈ D)
    (hst : ∀ fs, (∀ (f : JFrame) (acts : List Action), f.method = m → f.locked = none → f.entered = [] → (doReturn e (T.setTop f) acts v).1 = T.setFrames fs) → Steps p.tables e below (T.setTop (mkF m pc Ls st)) (T.setFrames fs)) : oRes Z EL wd p e s below R Q O (T.setTop (mkF m pc Ls st)) := by
  obtain ⟨⟨hx, hb, hm, hr, hl, hnm, hE⟩, hT, hO, hF, X, hS, hk0, hZ, hown, hC, hwd, hDk⟩ := I
  obtain ⟨fs, h1, h2, h3, h4⟩ := X.leaveW hS (by rw [hT]; exact hk0) (v := v) (by rw [hr]; exact hv) hl
  have hW : (s.setVm vm0).WarmedH T.vm := X.warmed
  refine ⟨T.setFrames fs, v, locs, hst fs h1, h2, h3, ⟨by show Q v T.heap; rw [hT]; exact hq, fun x qx => ?_⟩, hF, by show Ext Z.heap T.heap; rw [hT]; exact hO, ?_, ?_, h4.1, h4.2.1, h4.2.2.1, h4.2.2.2.mono hk hn⟩
  · have qx' : O v h x := by rw [← hT]; exact qx
    show Z.heap.size ≤ x ∧ x < T.heap.size ∧ Safe Z EL T.vm T.heap x
    rw [hT]; exact hDk.chr (CHv.at X hZ hE hC.1) x (hOx x qx')
  · show CHr Z EL s.vm s.heap T.vm T.heap
    rw [hT]; exact hC.trans (CHv.at X hZ hE hC.1)
  · exact hwd.imp id fun q => State.WarmedH.trans (t := s.setVm vm0) q hW
theorem oGo.ireturn {z : Int32} (hd : decode bytes pc = .ok (.ireturn, 1)) (hr : rt = some .int) (hk : k ≤ R.cells) (hn : n ≤ R.slots) (hq : Q (some (.int z)) h) (hOx : ∀ x, O (some (.int z)) h x → x ∈ D) : oGo l Z a0 EL wd p e s m args below meth c R own bytes mx rt nm Q O D h k n pc Ls (.int z :: st) := fun T locs vm0 k0 I =>
  oGo.leave I hk hn (fun q => by rw [hr] at q; cases q) hq hOx fun fs hfs => retOut I.2.2.2.2.1 I.1.1 (by rw [I.1.2.2.2.1]; exact hr) rfl (Or.inl ⟨rfl, Or.inl rfl, z, rfl⟩) (by rw [I.1.2.1]; exact hd) hfs
theorem oGo.nreturn {z w : Int32} {t : FieldType} (hd : decode bytes pc = .ok (.ireturn, 1)) (hr : rt = some t) (ht : t = .boolean ∨ t = .byte ∨ t = .char ∨ t = .short) (hw : nar t z = w) (hk : k ≤ R.cells) (hn : n ≤ R.slots) (hq : Q (some (.int w)) h) (hOx : ∀ x, O (some (.int w)) h x → x ∈ D) : oGo l Z a0 EL wd p e s m args below meth c R own bytes mx rt nm Q O D h k n pc Ls (.int z :: st) := fun T locs vm0 k0 I =>
  oGo.leave I hk hn (fun q => by rw [hr] at q; cases q) hq hOx fun fs hfs => retN I.2.2.2.2.1 I.1.1 (by rw [I.1.2.2.2.1]; exact hr) ht (by rw [I.1.2.1]; exact hd) (by rw [hw]; exact hfs)
theorem oGo.lreturn {z : Int64} (hd : decode bytes pc = .ok (.lreturn, 1)) (hr : rt = some .long) (hk : k ≤ R.cells) (hn : n ≤ R.slots) (hq : Q (some (.long z)) h) (hOx : ∀ x, O (some (.long z)) h x → x ∈ D) : oGo l Z a0 EL wd p e s m args below meth c R own bytes mx rt nm Q O D h k n pc Ls (.long z :: st) := fun T locs vm0 k0 I =>
  oGo.leave I hk hn (fun q => by rw [hr] at q; cases q) hq hOx fun fs hfs => retOut I.2.2.2.2.1 I.1.1 (by rw [I.1.2.2.2.1]; exact hr) rfl (Or.inr (Or.inl ⟨rfl, rfl, z, rfl⟩)) (by rw [I.1.2.1]; exact hd) hfs
theorem oGo.areturn {v : Value} {t : FieldType} (hd : decode bytes pc = .ok (.areturn, 1)) (hr : rt = some t) (ht : t.isReference = true) (hv : v.isRef = true) (hw : narrow t v = v) (hk : k ≤ R.cells) (hn : n ≤ R.slots) (hq : Q (some v) h) (hOx : ∀ x, O (some v) h x → x ∈ D) : oGo l Z a0 EL wd p e s m args below meth c R own bytes mx rt nm Q O D h k n pc Ls (v :: st) := fun T locs vm0 k0 I =>
  oGo.leave I hk hn (fun q => by rw [hr] at q; cases q) hq hOx fun fs hfs => retOut I.2.2.2.2.1 I.1.1 (by rw [I.1.2.2.2.1]; exact hr) hw (Or.inr (Or.inr (Or.inr (Or.inr ⟨rfl, ht, hv⟩)))) (by rw [I.1.2.1]; exact hd) hfs
theorem oGo.return_ (hd : decode bytes pc = .ok (.return_, 1)) (hr : rt = none) (hk : k ≤ R.cells) (hn : n ≤ R.slots) (hq : Q none h) (hOx : ∀ x, O none h x → x ∈ D) : oGo l Z a0 EL wd p e s m args below meth c R own bytes mx rt nm Q O D h k n pc Ls [] := fun T locs vm0 k0 I =>
  oGo.leave I hk hn (fun _ => rfl) hq hOx fun fs hfs => I.2.2.2.2.1.returnOut I.1.1 (by rw [I.1.2.2.2.1]; exact hr) (by rw [I.1.2.1]; exact hd) hfs
end Logic
/-! ### addresses are natural numbers -/
theorem own_ne {a b : Nat} (h : a ≠ b) : a ≠ b := h
theorem own_ltN {a n : Nat} (h : a < n) : a < n := h
theorem own_leN {a n : Nat} (h : a ≤ n) : a ≤ n := h
theorem own_ne_ge {x y n : Nat} (h : x < n) (g : n ≤ y) : x ≠ y := by omega
theorem own_ne_ge' {x y n : Nat} (h : x < n) (g : n ≤ y) : y ≠ x := by omega
theorem own_ne_or {x y z n : Nat} (h : x ≠ y) (l : x < n) (q : z = y ∨ n ≤ z) : x ≠ z := by rcases q with rfl | q; exact h; omega
theorem own_ne_or' {x y z n : Nat} (h : x ≠ y) (l : x < n) (q : z = y ∨ n ≤ z) : z ≠ x := Ne.symm (own_ne_or h l q)
theorem own_ge_or {y z n m : Nat} (h : m ≤ y) (l : m ≤ n) (q : z = y ∨ n ≤ z) : m ≤ z := by rcases q with rfl | q; exact h; omega
theorem own_lt_le {x n m : Nat} (h : x < n) (g : n ≤ m) : x < m := Nat.lt_of_lt_of_le h g
theorem own_le_le {x n m : Nat} (h : x ≤ n) (g : n ≤ m) : x ≤ m := Nat.le_trans h g
theorem own_ge_eq {a n : Nat} (h : a = n) : n ≤ a := by omega
theorem own_nin1 {a b : Nat} (h : a ≠ b) : a ∉ [b] := by simpa using h
theorem own_nin2 {a b c : Nat} (h : a ≠ b) (h2 : a ≠ c) : a ∉ [b, c] := by simp [h, h2]
theorem own_new1 {a n : Nat} {ws : List Nat} (h : n ≤ a) : ∀ x ∈ [a], x ∈ ws ∨ n ≤ x := fun x hx => Or.inr (by rw [List.mem_singleton.mp hx]; exact h)
theorem own_new2 {a b n : Nat} {ws : List Nat} (h : n ≤ a) (h2 : n ≤ b) : ∀ x ∈ [a, b], x ∈ ws ∨ n ≤ x := fun x hx => Or.inr (by rcases List.mem_cons.mp hx with rfl | hx; exact h; rw [List.mem_singleton.mp hx]; exact h2)
theorem own_D1 {t : Nat} {D : List Nat} {P : Nat → Prop} (h : P t) : ∀ x ∈ t :: D, x ∈ D ∨ P x := fun x hx => (List.mem_cons.mp hx).elim (fun e => Or.inr (e ▸ h)) Or.inl
/-! ### numbers and texts -/
abbrev oI (xs : List Int32) : List Value := xs.map Value.int
def lo8 (x : Int32) : Int32 := x.toInt8.toInt32
def hi8 (x : Int32) : Int32 := lo8 (x >>> ((8 : Int32) &&& 31))
def wide2 (cs : List Int32) : List Int32 := cs.flatMap fun c => [lo8 c, hi8 c]
theorem lo8_idem (x : Int32) : nar .byte (lo8 x) = lo8 x := by
  show (x.toInt8.toInt32).toInt8.toInt32 = x.toInt8.toInt32
  rw [Int8.toInt8_toInt32]
theorem own_succ (i : Nat) : Int32.ofNat i + 1 = Int32.ofNat (i + 1) := by
  rw [Int32.ofNat_add]; rfl
theorem own_lt {a b : Nat} (ha : a < 2147483648) (hb : b < 2147483648) : Int32.ofNat a < Int32.ofNat b ↔ a < b := by
  rw [Int32.lt_iff_toInt_lt, own_i32 ha, own_i32 hb]; omega
theorem own_eq {a b : Nat} (ha : a < 2147483648) (hb : b < 2147483648) : Int32.ofNat a = Int32.ofNat b ↔ a = b := by
  rw [← Int32.toInt_inj, own_i32 ha, own_i32 hb]; omega
theorem own_shl1 (i : Nat) : Int32.ofNat i <<< ((1 : Int32) &&& 31) = Int32.ofNat (2 * i) := by
  rw [shlm (m := 2) (by decide), Nat.mul_comm, Int32.ofNat_mul]; rfl
theorem own_ge0 {x : Int32} : ¬ x < 0 ↔ 0 ≤ x.toInt := by rw [Int32.lt_iff_toInt_lt]; simp
theorem own_le {x : Int32} {n : Int32} : ¬ n < x ↔ x.toInt ≤ n.toInt := by rw [Int32.lt_iff_toInt_lt]; omega
/-- an int between two bounds, as a natural number -/
theorem own_nat {x : Int32} {N : Nat} (h0 : 0 ≤ x.toInt) (h1 : x.toInt < N) : ∃ i : Nat, i < N ∧ x = Int32.ofNat i := by
  refine ⟨x.toInt.toNat, by omega, ?_⟩
  apply Int32.toInt_inj.mp
  have := Int32.toInt_lt x
  rw [own_i32 (by omega)]; omega
theorem own_char {x : Int32} (h : fits .char (.int x) = true) : ¬ x < 0 ∧ ¬ 65535 < x := rng_char h
theorem own_take_set {α : Type} (xs : List α) (i : Nat) (v : α) (h : i < xs.length) : (xs.set i v).take (i + 1) = xs.take i ++ [v] := by
  rw [List.take_set, List.take_add_one, List.set_append_right _ _ (by simp; omega)]
  simp [h, Nat.min_eq_left (Nat.le_of_lt h)]
theorem own_take_succ {α : Type} (xs : List α) (i : Nat) (v : α) (h : xs[i]? = some v) : xs.take (i + 1) = xs.take i ++ [v] := by
  rw [List.take_add_one, h]; rfl
theorem wide2_len (cs : List Int32) : (wide2 cs).length = 2 * cs.length := by
  induction cs with
  | nil => rfl
  | cons c cs ih => simp only [wide2, List.flatMap_cons, List.length_append, List.length_cons, List.length_nil] at ih ⊢; rw [ih]; omega
theorem wide2_get (cs : List Int32) : ∀ (i : Nat) (c : Int32), cs[i]? = some c → (wide2 cs)[2 * i]? = some (lo8 c) ∧ (wide2 cs)[2 * i + 1]? = some (hi8 c) := by
  induction cs with
  | nil => intro i c h; simp at h
  | cons a cs ih =>
    intro i c h
    cases i with
    | zero => simp at h; subst h; exact ⟨rfl, rfl⟩
    | succ i =>
      have := ih i c (by simpa using h)
      have e : wide2 (a :: cs) = lo8 a :: hi8 a :: wide2 cs := rfl
      rw [e, show 2 * (i + 1) = 2 * i + 1 + 1 by omega]
      simpa using this
theorem wide2_lo (cs : List Int32) (i : Nat) (c : Int32) (h : cs[i]? = some c) : (oI (wide2 cs))[2 * i]? = some (.int (lo8 c)) := by rw [List.getElem?_map, (wide2_get cs i c h).1]; rfl
theorem wide2_hi (cs : List Int32) (i : Nat) (c : Int32) (h : cs[i]? = some c) : (oI (wide2 cs))[2 * i + 1]? = some (.int (hi8 c)) := by rw [List.getElem?_map, (wide2_get cs i c h).2]; rfl
theorem wide2_step (cs : List Int32) (vs : List Value) (i : Nat) (c : Int32) (h : cs[i]? = some c) (hv : 2 * i + 1 < vs.length) (ht : vs.take (2 * i) = (oI (wide2 cs)).take (2 * i)) :
    ((vs.set (2 * i) (.int (lo8 c))).set (2 * i + 1) (.int (hi8 c))).take (2 * (i + 1)) = (oI (wide2 cs)).take (2 * (i + 1)) := by
  rw [show 2 * (i + 1) = 2 * i + 1 + 1 by omega, own_take_set _ _ _ (by simpa using hv), own_take_set _ _ _ (by omega), ht, own_take_succ _ _ _ (wide2_hi cs i c h), own_take_succ _ _ _ (wide2_lo cs i c h)]
def oStr (Z : State) (h : Heap) (x t : Addr) (cs : List Int32) : Prop := Exa Z h x "java/lang/String" ∧ Fld Z h x "java/lang/String" "value" "[B" (.ref t) ∧
  ((Fld Z h x "java/lang/String" "coder" "B" (.int 0) ∧ oArr Z h t .byte (oI (cs.map lo8)) ∧ ∀ c ∈ cs, ¬ 255 < c) ∨ (Fld Z h x "java/lang/String" "coder" "B" (.int 1) ∧ oArr Z h t .byte (oI (wide2 cs)))) ∧ ∀ c ∈ cs, ¬ c < 0 ∧ ¬ 65535 < c
theorem shr0 (c : Int32) : c >>> ((0 : Int32) &&& 31) = c := by
  rw [show ((0 : Int32) &&& 31) = 0 from by decide]; simp
theorem own_toNat {x : Int32} (h0 : 0 ≤ x.toInt) : (x.toBitVec.toNat : Int) = x.toInt := by
  have := x.toBitVec.isLt
  have e : x.toInt = x.toBitVec.toInt := rfl
  rw [e] at h0 ⊢
  rw [BitVec.toInt_eq_toNat_cond] at h0 ⊢
  split at h0 <;> split <;> omega
theorem own_ofNat {x : Int32} {n : Nat} (h : x.toBitVec.toNat = n) : x = Int32.ofNat n := by
  apply Int32.toBitVec_inj.mp
  apply BitVec.eq_of_toNat_eq
  rw [h]
  show _ = (BitVec.ofNat 32 n).toNat
  rw [BitVec.toNat_ofNat, ← h]; have := x.toBitVec.isLt; omega
theorem lo8_and (x : Int32) : (lo8 x &&& 255).toBitVec.toNat = x.toBitVec.toNat % 256 := by
  have h : (lo8 x).toBitVec = (x.toBitVec.signExtend 8).signExtend 32 := by rw [lo8, Int8.toBitVec_toInt32, Int32.toBitVec_toInt8]
  have e : ((x.toBitVec.signExtend 8).signExtend 32).toNat % 256 = x.toBitVec.toNat % 256 := by
    have hlt := x.toBitVec.isLt
    simp only [BitVec.toNat_setWidth, BitVec.toNat_signExtend]
    split <;> split <;> omega
  rw [Int32.toBitVec_and, BitVec.toNat_and, h, ← e]
  exact Nat.and_two_pow_sub_one_eq_mod _ 8
theorem own_i2c (x : Int32) : (x.toUInt32.toUInt16.toUInt32.toInt32).toBitVec.toNat = x.toBitVec.toNat % 65536 := by
  show ((x.toBitVec.setWidth 16).setWidth 32).toNat = _
  have := x.toBitVec.isLt
  simp only [BitVec.toNat_setWidth]; omega
theorem nar_char {c : Int32} (h0 : ¬ c < 0) (h1 : ¬ 65535 < c) : nar .char c = c := by
  have a := own_toNat (own_ge0.mp h0)
  have b := own_le.mp h1
  have e : (65535 : Int32).toInt = 65535 := rfl
  apply Int32.toBitVec_inj.mp
  apply BitVec.eq_of_toNat_eq
  show (c.toUInt32.toUInt16.toUInt32.toInt32).toBitVec.toNat = _
  rw [own_i2c]; omega
theorem nar_nar (x : Int32) : nar .char (nar .char x) = nar .char x := nar_char (own_char (fits_nar_char x)).1 (own_char (fits_nar_char x)).2
theorem lat_says {c : Int32} (h0 : ¬ c < 0) (h1 : ¬ 255 < c) : nar .char ((lo8 c &&& 255).toUInt32.toUInt16.toUInt32.toInt32) = c := by
  have a := own_toNat (own_ge0.mp h0)
  have b := own_le.mp h1
  have e : (255 : Int32).toInt = 255 := rfl
  apply Int32.toBitVec_inj.mp
  apply BitVec.eq_of_toNat_eq
  show ((lo8 c &&& 255).toUInt32.toUInt16.toUInt32.toInt32.toUInt32.toUInt16.toUInt32.toInt32).toBitVec.toNat = _
  rw [own_i2c, own_i2c, lo8_and]; omega
theorem pair_says {c : Int32} (h0 : ¬ c < 0) (h1 : ¬ 65535 < c) : nar .char ((((lo8 c &&& 255) <<< ((0 : Int32) &&& 31)) ||| ((hi8 c &&& 255) <<< ((8 : Int32) &&& 31))).toUInt32.toUInt16.toUInt32.toInt32) = c := by
  have a := own_toNat (own_ge0.mp h0)
  have b := own_le.mp h1
  have e : (65535 : Int32).toInt = 65535 := rfl
  have hn : c.toBitVec.toNat < 65536 := by omega
  have a1 := lo8_and c
  have a2 : (hi8 c &&& 255).toBitVec.toNat = c.toBitVec.toNat / 256 := by
    rw [hi8, lo8_and]
    have e : ((8 : Int32) &&& 31) = 8 := by decide
    rw [e, Int32.toBitVec_shiftRight]
    have e2 : ((8 : Int32).toBitVec.smod 32) = 8#32 := by decide
    rw [e2, BitVec.sshiftRight_eq', BitVec.toNat_sshiftRight_of_msb_false (by rw [BitVec.msb_eq_false_iff_two_mul_lt]; omega)]
    show c.toBitVec.toNat >>> 8 % 256 = _
    rw [Nat.shiftRight_eq_div_pow]
    omega
  rw [shlm (x := lo8 c &&& 255) (k := 0) (m := 1) (by decide), shlm (x := hi8 c &&& 255) (k := 8) (m := 256) (by decide), Int32.mul_one]
  apply Int32.toBitVec_inj.mp
  apply BitVec.eq_of_toNat_eq
  show ((((lo8 c &&& 255) ||| ((hi8 c &&& 255) * 256)).toUInt32.toUInt16.toUInt32.toInt32).toUInt32.toUInt16.toUInt32.toInt32).toBitVec.toNat = _
  rw [own_i2c, own_i2c, Int32.toBitVec_or, BitVec.toNat_or, a1, Int32.toBitVec_mul, BitVec.toNat_mul, a2]
  have e3 : (c.toBitVec.toNat / 256 * (256 : Int32).toBitVec.toNat) % 2 ^ 32 = 2 ^ 8 * (c.toBitVec.toNat / 256) := by
    show (c.toBitVec.toNat / 256 * 256) % 4294967296 = _
    omega
  rw [e3, Nat.or_comm, ← Nat.two_pow_add_eq_or_of_lt (by omega)]
  omega
theorem own_shr1 {n : Nat} (h : 2 * n < 2147483648) : Int32.ofNat (2 * n) >>> ((1 : Int32) &&& 31) = Int32.ofNat n := by
  have a := own_toNat (x := Int32.ofNat (2 * n)) (by rw [own_i32 h]; omega)
  rw [own_i32 h] at a
  apply own_ofNat
  rw [show ((1 : Int32) &&& 31) = 1 by decide, Int32.toBitVec_shiftRight, show ((1 : Int32).toBitVec.smod 32) = 1#32 by decide, BitVec.sshiftRight_eq', BitVec.toNat_sshiftRight_of_msb_false (by rw [BitVec.msb_eq_false_iff_two_mul_lt]; omega)]
  show (Int32.ofNat (2 * n)).toBitVec.toNat >>> 1 = _
  rw [Nat.shiftRight_eq_div_pow]; omega
theorem own_and_lo (x m : Int32) (hm : ¬ m < 0) : ¬ (x &&& m) < 0 := own_ge0.mpr ((c_andS x m).2.2 (own_ge0.mp hm))
theorem own_and_hi (x m : Int32) (hm : ¬ m < 0) : ¬ m < (x &&& m) := by
  rw [own_le]
  have a := own_toNat (own_ge0.mp (own_and_lo x m hm))
  have b := own_toNat (own_ge0.mp hm)
  have c : (x &&& m).toBitVec.toNat ≤ m.toBitVec.toNat := by
    rw [Int32.toBitVec_and, BitVec.toNat_and]; exact Nat.and_le_right
  omega
theorem own_sub {x y : Int32} (h1 : -2147483648 ≤ x.toInt - y.toInt) (h2 : x.toInt - y.toInt < 2147483648) : (x - y).toInt = x.toInt - y.toInt := by
  rw [Int32.toInt_sub]
  exact Int.bmod_eq_of_le (by omega) (by omega)
theorem own_subI {i j : Nat} (hi : i < 1000000) (hj : j < 1000000) : (Int32.ofNat j - Int32.ofNat i).toInt = (j : Int) - i := by
  have a := own_i32 (i := i) (by omega)
  have b := own_i32 (i := j) (by omega)
  rw [own_sub (by omega) (by omega), a, b]
theorem own_subc {x k : Int32} (h0 : 0 ≤ k.toInt) (h1 : k.toInt ≤ x.toInt) : (x - k).toInt = x.toInt - k.toInt := by
  have := Int32.toInt_lt x
  exact own_sub (by omega) (by omega)
theorem own_eqI {args : Array Value} {first s : State} {o : Option Outcome} {idx : List Nat} {t : Term} {n : Int32} (h : (Cond.eq t (Term.int n)).value args first o s idx = some true) : t.eval args first o idx s = some (.int n) := by
  simp only [Cond.value, Term.int_eval] at h
  cases ht : t.eval args first o idx s with
  | none => simp [ht] at h
  | some x => cases x <;> simp [ht] at h ⊢; exact h
theorem own_255 {c : Int32} (h : ¬ 255 < c) : ¬ 65535 < c := by
  rw [own_le] at h ⊢
  have e : (255 : Int32).toInt = 255 := rfl
  have e2 : (65535 : Int32).toInt = 65535 := rfl
  omega
theorem own_b255 (x : Int32) : ¬ (x &&& 255).toUInt32.toUInt16.toUInt32.toInt32 < 0 ∧ ¬ 255 < (x &&& 255).toUInt32.toUInt16.toUInt32.toInt32 := by
  have h0 := own_and_lo x 255 (by decide)
  have h1 := own_and_hi x 255 (by decide)
  have e : (x &&& 255).toUInt32.toUInt16.toUInt32.toInt32 = x &&& 255 := nar_char h0 (own_255 h1)
  rw [e]; exact ⟨h0, h1⟩
theorem own_irem (x k : Int32) (n : Nat) (h0 : 0 < n) (h1 : n < 2147483648) (hk : k = Int32.ofNat n) : ∃ i : Nat, i < n ∧ (x &&& 2147483647) % k = Int32.ofNat i := by
  have a := own_ge0.mp (own_and_lo x 2147483647 (by decide))
  have e : k.toInt = (n : Int) := by rw [hk, own_i32 h1]
  have b := (c_irem (x &&& 2147483647) k (n : Int) e).1 a
  refine own_nat ?_ ?_
  · rw [b]; exact Int.emod_nonneg _ (by omega)
  · rw [b]; exact Int.emod_lt_of_pos _ (by omega)
theorem own_subN {i j : Nat} (h : i ≤ j) (hj : j < 2147483648) : Int32.ofNat j - Int32.ofNat i = Int32.ofNat (j - i) := by
  apply Int32.toInt_inj.mp
  have a := own_i32 (i := i) (by omega)
  have b := own_i32 hj
  have c := own_i32 (i := j - i) (by omega)
  rw [own_sub (by omega) (by omega), a, b, c]; omega
theorem own_add2 (i : Nat) : Int32.ofNat i + 2 = Int32.ofNat (i + 2) := by rw [Int32.ofNat_add]; rfl
theorem shl0 (c : Int32) : c <<< ((0 : Int32) &&& 31) = c := by rw [shlm (m := 1) (by decide), Int32.mul_one]
theorem own_app_take {vs : List Value} {cs ds : List Int32} (hv : vs.take cs.length = oI (cs.map lo8)) (hl : cs.length + ds.length ≤ vs.length) : (vs.take cs.length ++ oI (ds.map lo8) ++ vs.drop (cs.length + ds.length)).take (cs.length + ds.length) = oI ((cs ++ ds).map lo8) := by
  rw [hv, List.take_left' (by simp)]; simp
theorem own_sub_map (cs : List Int32) (i k : Nat) : ((oI (cs.map lo8)).drop i).take k = oI (((cs.drop i).take k).map lo8) := by
  simp [List.map_drop, List.map_take]
section Logic2
variable {l : Launch} {Z : State} {a0 : Array Value} {EL : List (String × Nat)} {wd : Prop} {p : Program} {e : Env} {s : State} {m : MethodId} {args : Array Value} {below : List Frame} {meth : Method} {c : Code} {R : Room} {own : String} {bytes : ByteArray} {mx : Nat} {rt : Option FieldType} {nm : String}
  {Q : Option Value → Heap → Prop} {O : Option Value → Heap → Addr → Prop} {D : List Addr} {h : Heap} {k n : Nat} {pc pc' pc1 pc2 : Nat} {Ls Ls' : Array Slot} {st st' : List Value}
/-- a String constant whose text is known -/
theorem oGo.ldc_str {idx : Nat} {text : String} {vs : List Value} {k' n' : Nat} (hd : decode bytes pc = .ok (.ldc idx, 2)) (hp : pc + 2 = pc') (hwd : wd) (w : (Cond.stringLink own idx text).before a0 Z = true) (wS : ∀ a ∈ Bundle.stringAtoms, a.before a0 Z = true) (hmem : (own, idx) ∈ EL)
    (ht : (∀ c ∈ text.toList, c.toNat < 256) ∧ text.toList.map (fun c => Value.int (Jvm.Lit.byteI c.toNat.toUInt16)) = vs) (hvl : vs.length < 1000) (hk : k + 2 = k') (hn : n + (4 * text.toList.length + 4) = n') (hc : k' ≤ R.cells) (hl : n' ≤ R.slots)
    (g : ∀ (h' : Heap) (a b : Nat), Ext h h' → Exa Z h' a "java/lang/String" → Fld Z h' a "java/lang/String" "coder" "B" (.int 0) → Fld Z h' a "java/lang/String" "value" "[B" (.ref b) → oArr Z h' b .byte vs → a < h'.size → b < h'.size → (∀ x : Nat, x ∈ D → x ≠ a ∧ x ≠ b) → oGo l Z a0 EL wd p e s m args below meth c R own bytes mx rt nm Q O D h' k' n' pc' Ls (.ref a :: st)) : oGo l Z a0 EL wd p e s m args below meth c R own bytes mx rt nm Q O D h k n pc Ls st := by
  subst hp hk hn
  intro T locs vm0 k0 I
  obtain ⟨⟨hx, hb, hm, hr, hlk, hnm, hE⟩, hT, hO, hF, X, hS, hk0, hZ, hown, hC, hw2, hDk⟩ := I
  have hbig : 4 * text.toList.length ≤ 536870912 := by
    have : text.toList.length = vs.length := by rw [← ht.2]; simp
    omega
  obtain ⟨a, T', h', k1, b, kk, X', hT', E, hS', hk1, hZ', hown', x1, x2, x3, x4, x5, x6, x7, -, x8, hst⟩ := ldcCH X hx hZ hown w wS hT hS hk0 hE hmem hC.1 ht (z := Int32.ofNat vs.length) (own_nn (by omega)) (by rw [own_n32 (by omega)]) (g := mkF m pc Ls st) rfl (by rw [hb]; exact hd) (n := 4 * text.toList.length) (Nat.le_refl _) hbig hc hl
  obtain ⟨V, v, L, hs, r⟩ := g h' a b E x1 x2 x3 (oArr.of_arv x4 (by rw [own_n32 (by omega)])) x5 x6 (fun x hx' => x8 x (x7.safe (hDk x hx').2.1 (hDk x hx').2.2)) T' locs T'.vm k1 ⟨⟨hx, hb, hm, hr, hlk, hnm, hE⟩, hT', ext_trans hO E, hF, X', hS', hk1, hZ', hown', hC.trans x7, Or.inl hwd, hDk.chr x7⟩
  exact ⟨V, v, L, hst V hs, r⟩
/-- a String constant of which nothing is asked -/
theorem oGo.ldc_op {idx : Nat} {text : String} {k' n' : Nat} (hd : decode bytes pc = .ok (.ldc idx, 2)) (hp : pc + 2 = pc') (hwd : wd) (w : (Cond.stringLink own idx text).before a0 Z = true) (wS : ∀ a ∈ Bundle.stringAtoms, a.before a0 Z = true)
    (hbig : 4 * text.toList.length ≤ 536870912) (hk : k + 2 = k') (hn : n + (4 * text.toList.length + 4) = n') (hc : k' ≤ R.cells) (hl : n' ≤ R.slots) (g : ∀ (h' : Heap) (a : Nat), Ext h h' → oGo l Z a0 EL wd p e s m args below meth c R own bytes mx rt nm Q O D h' k' n' pc' Ls (.ref a :: st)) : oGo l Z a0 EL wd p e s m args below meth c R own bytes mx rt nm Q O D h k n pc Ls st := by
  subst hp hk hn
  intro T locs vm0 k0 I
  obtain ⟨⟨hx, hb, hm, hr, hlk, hnm, hE⟩, hT, hO, hF, X, hS, hk0, hZ, hown, hC, hw2, hDk⟩ := I
  obtain ⟨a, T', h', k1, X', hT', E, hS', hk1, hZ', hown', x7, -, hst⟩ := ldcOH X hx hZ hown w wS hT hS hk0 hE hC.1 (g := mkF m pc Ls st) rfl (by rw [hb]; exact hd) (n := 4 * text.toList.length) (Nat.le_refl _) hbig hc hl
  obtain ⟨V, v, L, hs, r⟩ := g h' a E T' locs T'.vm k1 ⟨⟨hx, hb, hm, hr, hlk, hnm, hE⟩, hT', ext_trans hO E, hF, X', hS', hk1, hZ', hown', hC.trans x7, Or.inl hwd, hDk.chr x7⟩
  exact ⟨V, v, L, hst V hs, r⟩
/-- invokevirtual of a private method -/
theorem oGo.invokeprivate {idx : Nat} {y : MethodName} {Cn : String} {b' : ByteArray} {mx' : Nat} {rt' rs : Option FieldType} {ps : List FieldType} {rm : Room} {D' : List Addr} {Q' : Option Value → Heap → Prop} {O' : Option Value → Heap → Addr → Prop} {k' n' : Nat} {a : Addr} {argsL rest : List Value}
    (hd : decode bytes pc = .ok (.invokevirtual idx, 3)) (hp : pc + 3 = pc') (w1 : (Cond.methodLink own idx y).before a0 Z = true) (w2 : (Cond.privateMethod y).before a0 Z = true) (w5 : (Cond.selects Cn y y).before a0 Z = true) (w6 : (Cond.instanceMethod y).before a0 Z = true) (w3 : (Cond.initialized y.cls).before a0 Z = true) (w4 : (Cond.code y b' mx' rt').before a0 Z = true)
    (hy : y.cls ≠ "java/lang/invoke/MethodHandle" ∧ y.cls ≠ "java/lang/invoke/VarHandle") (pd : parseMethodDescriptor y.desc = some ⟨ps, rs⟩) (hll : argsL.length = ps.length) (hst : st = argsL.reverse ++ .ref a :: rest) (hsz : Ls.size = mx) (E : Exa Z h a Cn)
    (hM : oCtr [] l Z a0 EL wd y b' mx' rt' rm (.ref a :: argsL).toArray D' h Q' O') (hD : ∀ x ∈ D', x ∈ D) (hf : rm.frames + 1 ≤ R.frames) (hl : (rest.map fun v => v.category).sum + (mx' + 11) + rm.locals ≤ R.locals) (hk : k + rm.cells = k') (hn : n + rm.slots = n') (hc : k' ≤ R.cells) (hs : n' ≤ R.slots)
    (g : ∀ v h', h.size ≤ h'.size → Q' v h' → ∃ D2 : List Addr, (∀ x ∈ D2, x ∈ D ∨ O' v h' x) ∧ oGo l Z a0 EL wd p e s m args below meth c R own bytes mx rt nm Q O D2 h' k' n' pc' Ls (v.toList ++ rest)) : oGo l Z a0 EL wd p e s m args below meth c R own bytes mx rt nm Q O D h k n pc Ls st := by
  subst hp hst
  intro T locs vm0 k0 I
  have I0 := I
  obtain ⟨⟨hx, hb, hm, hr, hlk, hnm, hE⟩, hT, hO, hF, X, hS, hk0, hZ, hown, hC, hwd, hDk⟩ := I
  have hi' := mvT (s := s.setVm vm0) (args := args) hZ w6
  have hc' := mvT (s := s.setVm vm0) (args := args) hZ w4
  have hs' := mvT (s := s.setVm vm0) (args := args) hZ w5
  have hpr := Cond.privateMethod_at (mvP (s := s.setVm vm0) (args := args) hZ w2)
  obtain ⟨mk, mM, n1, n2, n3, n4⟩ := Cond.instanceMethod_spec hi'
  obtain ⟨mM', cM, n5, -, -, -, -, -, -, n6⟩ := Cond.code_spec n1 hc'
  cases n2.symm.trans n5
  obtain ⟨c2, r2, m2, -, -, n7, -, kP, n8, n9⟩ := Cond.selects_spec hs'
  cases n1.symm.trans n7
  obtain ⟨cell, e1, e2⟩ := E.cell
  obtain ⟨vm₁, X₁, st1⟩ := X.invokevirtual hx hown (mvT (s := s.setVm vm0) hZ w1) n1 n2 n3 n8 n9 hy (a := a) (cell := cell) (by rw [hT]; exact e1) e2 (selectMethod_private n2 (hpr mk mM n1 n2)) n2 n4 n8 n9 (g := mkF m pc Ls (argsL.reverse ++ .ref a :: rest)) rfl (argsL := argsL) (rest := rest) (lenOf pd hll _ n6) rfl (by rw [hb]; exact hd)
  obtain ⟨v, B, X2, hS2, hgr, hpo, hst2⟩ := (oCtr.back (p := p) (e := e) (s := s) (args := args) (below := below) (R := R) (len := 3) (W := (rest.map fun v => v.category).sum) hM hZ w4 w3 hf hl hE hO hC.1 (hDk.sub hD)) m meth c ⟨T.setVm vm₁, locs, k, n⟩ (mkF m pc Ls rest) (.invokevirtual idx) mk (.ref a :: argsL).toArray X₁ rfl (hsz.trans hm.symm) (by show decode c.code pc = _; rw [hb]; exact hd) (by show 2 * 0 + (rest.map fun v => v.category).sum ≤ _; omega) (X₁.named n1) ⟨rfl, hT, by show k + _ ≤ _; omega, by show n + _ ≤ _; omega⟩
  exact oGo.after I0 hk hn (as' := (.ref a :: argsL).toArray) (rest := rest) ⟨v, vm₁, B, X₁.warmed, X2, hS2, hgr, hpo, (st1 _ fun acts => by rw [doInvoke_state]; exact Steps.refl _).trans hst2⟩ g
/-- invokespecial of a superclass's method -/
theorem oGo.invokesuper {idx : Nat} {y : MethodName} {Cn : String} {b' : ByteArray} {mx' : Nat} {rt' rs : Option FieldType} {ps : List FieldType} {rm : Room} {D' : List Addr} {Q' : Option Value → Heap → Prop} {O' : Option Value → Heap → Addr → Prop} {k' n' : Nat} {a : Addr} {argsL rest : List Value}
    (hd : decode bytes pc = .ok (.invokespecial idx, 3)) (hp : pc + 3 = pc') (hni : y.name ≠ "<init>") (w1 : (Cond.methodLink own idx y).before a0 Z = true) (w2 : (Cond.superclass own y.cls).before a0 Z = true) (w6 : (Cond.instanceMethod y).before a0 Z = true) {C5 : String} {y5 z5 : MethodName} (w5 : (Cond.selects C5 y5 z5).before a0 Z = true) (h5 : z5.cls = y.cls) (w3 : (Cond.initialized y.cls).before a0 Z = true) (w4 : (Cond.code y b' mx' rt').before a0 Z = true)
    (hy : y.cls ≠ "java/lang/invoke/MethodHandle" ∧ y.cls ≠ "java/lang/invoke/VarHandle") (pd : parseMethodDescriptor y.desc = some ⟨ps, rs⟩) (hll : argsL.length = ps.length) (hst : st = argsL.reverse ++ .ref a :: rest) (hsz : Ls.size = mx) (E : Exa Z h a Cn)
    (hM : oCtr [] l Z a0 EL wd y b' mx' rt' rm (.ref a :: argsL).toArray D' h Q' O') (hD : ∀ x ∈ D', x ∈ D) (hf : rm.frames + 1 ≤ R.frames) (hl : (rest.map fun v => v.category).sum + (mx' + 11) + rm.locals ≤ R.locals) (hk : k + rm.cells = k') (hn : n + rm.slots = n') (hc : k' ≤ R.cells) (hs : n' ≤ R.slots)
    (g : ∀ v h', h.size ≤ h'.size → Q' v h' → ∃ D2 : List Addr, (∀ x ∈ D2, x ∈ D ∨ O' v h' x) ∧ oGo l Z a0 EL wd p e s m args below meth c R own bytes mx rt nm Q O D2 h' k' n' pc' Ls (v.toList ++ rest)) : oGo l Z a0 EL wd p e s m args below meth c R own bytes mx rt nm Q O D h k n pc Ls st := by
  subst hp hst
  intro T locs vm0 k0 I
  have I0 := I
  obtain ⟨⟨hx, hb, hm, hr, hlk, hnm, hE⟩, hT, hO, hF, X, hS, hk0, hZ, hown, hC, hwd, hDk⟩ := I
  obtain ⟨mk, mM, n1, n2, n3, n4⟩ := Cond.instanceMethod_spec (mvT (s := s.setVm vm0) (args := args) hZ w6)
  obtain ⟨mM', cM, n5, -, -, -, -, -, -, n6⟩ := Cond.code_spec n1 (mvT (s := s.setVm vm0) (args := args) hZ w4)
  cases n2.symm.trans n5
  have hcn := findClass_of_methodNamed n1
  obtain ⟨dk, hdk, -⟩ := Vm.findClass_spec (vm := (s.setVm vm0).vm) hown
  obtain ⟨kp, hkp, -⟩ := Vm.findClass_spec hcn
  have ws := mvT (s := s.setVm vm0) (args := args) hZ w2
  have hown' : (s.setVm vm0).vm.findClass own = some m.cls := hown
  simp only [Cond.before, Cond.holds, Cond.value, hown', hcn, hdk, hkp, Option.bind_some, Option.map_some] at ws
  have ws' : ((dk.super = some mk.cls ∧ dk.kind = .ordinary) ∧ kp.kind = .ordinary) ∧ dk.isInterface = false := by simpa using ws
  obtain ⟨c5, r5, m5, -, -, f5, -, kP, f6, f7⟩ := Cond.selects_spec (mvT (s := s.setVm vm0) (args := args) hZ w5)
  have f8 := findClass_of_methodNamed f5
  rw [h5] at f8
  have f9 : mk.cls = m5.cls := Option.some.inj (hcn.symm.trans f8)
  have hki : kp.isInterface = false := by rw [f9] at hkp; cases hkp.symm.trans f6; exact f7
  have hsame : (Cond.sameMethod y.cls y.cls y.name y.desc).before args (s.setVm vm0) = true := by
    have q := State.methodFound?_of_named n1 hy
    have hcn' : vm0.findClass y.cls = some mk.cls := hcn
    have hkp' : vm0.classes[mk.cls]? = some kp := hkp
    simp [Cond.before, Cond.holds, Cond.value, hcn', q, n1, hkp', hki]
  obtain ⟨cell, kc, e1, e2, e3, e4, -⟩ := E
  obtain ⟨kc', e5, -⟩ := hZ.alike.2.2 _ _ e3
  obtain ⟨vm₁, X₁, st1⟩ := X.invokespecialUp hx (owner := y.cls) hown (mvT (s := s.setVm vm0) hZ w1) hsame n1 n2 n3 n4 hni hdk ws'.2 hcn ws'.1.1.1 (by simp [Vm.isSubclass, Vm.isSubclassAux]) (a := a) (by rw [hT]; exact e1) (fun q e => by rw [e] at e4; cases e4) e5 (g := mkF m pc Ls (argsL.reverse ++ .ref a :: rest)) rfl (argsL := argsL) (rest := rest) (lenOf pd hll _ n6) rfl (by rw [hb]; exact hd)
  obtain ⟨v, B, X2, hS2, hgr, hpo, hst2⟩ := (oCtr.back (p := p) (e := e) (s := s) (args := args) (below := below) (R := R) (len := 3) (W := (rest.map fun v => v.category).sum) hM hZ w4 w3 hf hl hE hO hC.1 (hDk.sub hD)) m meth c ⟨T.setVm vm₁, locs, k, n⟩ (mkF m pc Ls rest) (.invokespecial idx) mk (.ref a :: argsL).toArray X₁ rfl (hsz.trans hm.symm) (by show decode c.code pc = _; rw [hb]; exact hd) (by show 2 * 0 + (rest.map fun v => v.category).sum ≤ _; omega) (X₁.named n1) ⟨rfl, hT, by show k + _ ≤ _; omega, by show n + _ ≤ _; omega⟩
  exact oGo.after I0 hk hn (as' := (.ref a :: argsL).toArray) (rest := rest) ⟨v, vm₁, B, X₁.warmed, X2, hS2, hgr, hpo, st1 _ hst2⟩ g
/-- System.arraycopy between two arrays of bytes, not the same one -/
theorem oGo.arraycopy {idx : Nat} {a b : Addr} {vs ws : List Value} {i j q : Nat} (hd : decode bytes pc = .ok (.invokestatic idx, 3)) (hp : pc + 3 = pc') (w1 : (Cond.methodLink own idx Jvm.Stand.acN).before a0 Z = true) (w2 : (Cond.native Jvm.Stand.acN).before a0 Z = true) (w3 : (Cond.static Jvm.Stand.acN).before a0 Z = true) (w4 : (Cond.initialized "java/lang/System").before a0 Z = true)
    (A : oArr Z h a .byte vs) (B : oArr Z h b .byte ws) (h1 : i + q ≤ vs.length) (h2 : j + q ≤ ws.length) (hsz : Ls.size = mx) (hf : 1 ≤ R.frames) (hlo : (st.map fun v => v.category).sum + (nativeFrameWords "java/lang/System" "arraycopy" 5 + 11) ≤ R.locals) (ha : b ∈ D)
    (g : ∀ h', Keep h h' [b] → h.size ≤ h'.size → oArr Z h' b .byte (ws.take j ++ (vs.drop i).take q ++ ws.drop (j + q)) → oGo l Z a0 EL wd p e s m args below meth c R own bytes mx rt nm Q O D h' k n pc' Ls st) : oGo l Z a0 EL wd p e s m args below meth c R own bytes mx rt nm Q O D h k n pc Ls (.int (Int32.ofNat q) :: .int (Int32.ofNat j) :: .ref b :: .int (Int32.ofNat i) :: .ref a :: st) := by
  subst hp
  have hv : vs.length < 2147483648 := by obtain ⟨_, _, _, z, _⟩ := A; exact z
  have hw : ws.length < 2147483648 := by obtain ⟨_, _, _, z, _⟩ := B; exact z
  obtain ⟨ka, A'⟩ := A.arv (.int 0)
  obtain ⟨kb, B'⟩ := B.arv (.int 0)
  have e1 := own_n32 (i := i) (by omega); have e2 := own_n32 (i := j) (by omega); have e3 := own_n32 (i := q) (by omega)
  have e4 := own_n32 hv; have e5 := own_n32 hw
  have eus : (List.range (Int32.ofNat q).toNatClampNeg).map (fun z => vs.getD ((Int32.ofNat i).toNatClampNeg + z) (.int 0)) = (vs.drop i).take q := by
    rw [e1, e3]
    apply List.ext_getElem?
    intro z
    by_cases hz : z < q
    · rw [List.getElem?_map, List.getElem?_range hz, List.getElem?_take_of_lt hz, List.getElem?_drop]
      have : i + z < vs.length := by omega
      simp [List.getD_eq_getElem?_getD, this]
    · rw [List.getElem?_eq_none (by simpa using hz), List.getElem?_eq_none (by simp; omega)]
  refine oGo.writes (ws := [b]) (P := fun h' => oArr Z h' b .byte (ws.take j ++ (vs.drop i).take q ++ ws.drop (j + q))) (fun T locs vm0 X hT hZ hown hb hx hn hm hF hDz => ?_) (fun x hx => by rw [List.mem_singleton.mp hx]; exact ha) (fun h' K P => g h' K K.1 P)
  obtain ⟨T', h', L', X', hT', hF', K, A2, hst⟩ := cpA (s := s.setVm vm0) X hx hZ hown w1 w2 w3 w4 hT A' B' (sp := Int32.ofNat i) (dp := Int32.ofNat j) (nn := Int32.ofNat q) (us := (vs.drop i).take q) (Or.inl ⟨rfl, rfl⟩) (own_nn (by omega)) (own_nn (by omega)) (own_nn (by omega)) (by rw [e1, e3, e4]; exact h1) (by rw [e2, e3, e5]; exact h2) eus.symm (by rw [e2, e3]; exact h2) hF (hDz b ha) (g := mkF m pc Ls (.int (Int32.ofNat q) :: .int (Int32.ofNat j) :: .ref b :: .int (Int32.ofNat i) :: .ref a :: st)) rfl (hsz.trans hm.symm) rfl (by rw [hb]; exact hd) hf (W := (st.map fun v => v.category).sum) (by show 2 * 0 + _ ≤ _; omega) hlo
  rw [e2, e3] at A2
  refine ⟨T', h', L', X', hT', hF', K, oArr.of_arv A2 ?_, hst⟩
  rw [e5]; simp; omega
/-- checkcast of an object whose class is known -/
theorem oGo.checkcast {idx : Nat} {a : Addr} {Cn K : String} (hd : decode bytes pc = .ok (.checkcast idx, 3)) (hp : pc + 3 = pc') (w : (Cond.classLink own idx K).before a0 Z = true) (F : Ins Z h a K true) (g : oGo l Z a0 EL wd p e s m args below meth c R own bytes mx rt nm Q O D h k n pc' Ls (.ref a :: st)) : oGo l Z a0 EL wd p e s m args below meth c R own bytes mx rt nm Q O D h k n pc Ls (.ref a :: st) := by
  subst hp; exact oGo.move (fun T locs vm0 X hT hZ hown hb hx hn hm => castY (s := s.setVm vm0) X hx hZ hown w hT F (g := mkF m pc Ls (.ref a :: st)) rfl rfl (by rw [hb]; exact hd)) g
theorem oGo.instanceof_y {idx : Nat} {a : Addr} {K : String} (hd : decode bytes pc = .ok (.instanceof idx, 3)) (hp : pc + 3 = pc') (w : (Cond.classLink own idx K).before a0 Z = true) (F : Ins Z h a K true) (g : oGo l Z a0 EL wd p e s m args below meth c R own bytes mx rt nm Q O D h k n pc' Ls (.int 1 :: st)) : oGo l Z a0 EL wd p e s m args below meth c R own bytes mx rt nm Q O D h k n pc Ls (.ref a :: st) := by
  subst hp; exact oGo.move (fun T locs vm0 X hT hZ hown hb hx hn hm => instY (s := s.setVm vm0) X hx hZ hown w hT F (g := mkF m pc Ls (.ref a :: st)) rfl rfl (by rw [hb]; exact hd)) g
end Logic2
/-! ### Latin-1 Strings -/
def oS (Z : State) (h : Heap) (x t : Addr) (cs : List Int32) : Prop := Exa Z h x "java/lang/String" ∧ Fld Z h x "java/lang/String" "value" "[B" (.ref t) ∧ Fld Z h x "java/lang/String" "coder" "B" (.int 0) ∧ oArr Z h t .byte (oI (cs.map lo8)) ∧ ∀ c ∈ cs, ¬ c < 0 ∧ ¬ 255 < c
section Str
variable {Z : State} {h h' : Heap} {x t a : Addr} {cs : List Int32} {ws : List Addr}
theorem oS.ext (S : oS Z h x t cs) (E : Ext h h') : oS Z h' x t cs := ⟨S.1.ext E, S.2.1.ext E, S.2.2.1.ext E, S.2.2.2.1.ext E, S.2.2.2.2⟩
theorem oS.keep (S : oS Z h x t cs) (K : Keep h h' ws) (q : x ∉ ws) (r : t ∉ ws) : oS Z h' x t cs := ⟨S.1.keep K, S.2.1.keep K q, S.2.2.1.keep K q, S.2.2.2.1.keep K r, S.2.2.2.2⟩
theorem oS.other {sl : Nat} {v : Value} (S : oS Z h x t cs) (W : Wr h h' a sl v) (q : x ≠ a) (r : t ≠ a) : oS Z h' x t cs := ⟨S.1.wr W, S.2.1.other W (Or.inl q), S.2.2.1.other W (Or.inl q), S.2.2.2.1.other W r, S.2.2.2.2⟩
theorem oS.len (S : oS Z h x t cs) : cs.length < 2147483648 := by obtain ⟨_, _, _, ⟨_, _, _, q, _⟩, _⟩ := S; simpa using q
end Str
def oG (a0 : Array Value) (Z : State) (EL : List (String × Nat)) : Prop := (∀ d ∈ tables_1, d.before a0 Z = true) ∧ EW Z a0 EL ∧ (∀ d ∈ jdkStatics_1, d.before a0 Z = true) ∧ ∀ p ∈ consts_1, p ∈ EL
theorem sCOMPACT {a0 : Array Value} {Z : State} {EL : List (String × Nat)} (hG : oG a0 Z EL) : ∃ z, Sta Z Z.heap "java/lang/String" "COMPACT_STRINGS" "Z" (.int z) ∧ ¬ z = 0 := by
  obtain ⟨z, e⟩ := is_v (Cond.before_iff.mp (hG.2.2.1 _ (List.mem_of_getElem? (i := 1) rfl)))
  exact ⟨z, Sta.start e (Or.inl (hG.2.2.1 _ (List.mem_of_getElem? (i := 0) rfl))), gotF (Cond.eq_ints e (Term.int_eval (0))) (not_v (Cond.before_iff.mp (hG.2.2.1 _ (List.mem_of_getElem? (i := 2) rfl))))⟩
theorem sSIOOBE {a0 : Array Value} {Z : State} {EL : List (String × Nat)} (hG : oG a0 Z EL) : ∃ v, Sta Z Z.heap "jdk/internal/util/Preconditions" "SIOOBE_FORMATTER" "Ljava/util/function/BiFunction;" v ∧ v.isRef = true := by
  obtain ⟨v, e, r⟩ := isR_v (Cond.before_iff.mp (hG.2.2.1 _ (List.mem_of_getElem? (i := 8) rfl)))
  exact ⟨v, Sta.start e (Or.inl (hG.2.2.1 _ (List.mem_of_getElem? (i := 7) rfl))), r⟩
theorem w0 {a0 : Array Value} {Z : State} {EL : List (String × Nat)} (hG : oG a0 Z EL) : ((Jvm.Cond.classLink "com/example/orderly_settings/orderlysettings/BindingProblemToStringPinLaw" (7 : Nat) "java/lang/String")).before a0 Z = true := hG.1 _ (List.mem_of_getElem? (i := 0) rfl)
theorem w1 {a0 : Array Value} {Z : State} {EL : List (String × Nat)} (hG : oG a0 Z EL) : ((Jvm.Cond.instantiable "java/lang/String" (4 : Nat))).before a0 Z = true := hG.1 _ (List.mem_of_getElem? (i := 1) rfl)
theorem w2 {a0 : Array Value} {Z : State} {EL : List (String × Nat)} (hG : oG a0 Z EL) : ((Jvm.Cond.initialized "java/lang/String")).before a0 Z = true := hG.1 _ (List.mem_of_getElem? (i := 2) rfl)
theorem w3 {a0 : Array Value} {Z : State} {EL : List (String × Nat)} (hG : oG a0 Z EL) : ((Jvm.Cond.arrayClass Jvm.ClassFile.FieldType.char)).before a0 Z = true := hG.1 _ (List.mem_of_getElem? (i := 3) rfl)
theorem w4 {a0 : Array Value} {Z : State} {EL : List (String × Nat)} (hG : oG a0 Z EL) : ((Jvm.Cond.methodLink "com/example/orderly_settings/orderlysettings/BindingProblemToStringPinLaw" (9 : Nat) ({ cls := "java/lang/String", name := "<init>", desc := "([C)V" } : Jvm.MethodName))).before a0 Z = true := hG.1 _ (List.mem_of_getElem? (i := 4) rfl)
theorem w5 {a0 : Array Value} {Z : State} {EL : List (String × Nat)} (hG : oG a0 Z EL) : ((Jvm.Cond.instanceMethod ({ cls := "java/lang/String", name := "<init>", desc := "([C)V" } : Jvm.MethodName))).before a0 Z = true := hG.1 _ (List.mem_of_getElem? (i := 5) rfl)
theorem w6 {a0 : Array Value} {Z : State} {EL : List (String × Nat)} (hG : oG a0 Z EL) : ((Jvm.Cond.code ({ cls := "java/lang/String", name := "<init>", desc := "([C)V" } : Jvm.MethodName) jdk_42_method_3_code (2 : Nat) (Option.none : Option Jvm.ClassFile.FieldType))).before a0 Z = true := hG.1 _ (List.mem_of_getElem? (i := 6) rfl)
theorem w7 {a0 : Array Value} {Z : State} {EL : List (String × Nat)} (hG : oG a0 Z EL) : ((Jvm.Cond.methodLink "java/lang/String" (27 : Nat) ({ cls := "java/lang/String", name := "<init>", desc := "([CIILjava/lang/Void;)V" } : Jvm.MethodName))).before a0 Z = true := hG.1 _ (List.mem_of_getElem? (i := 7) rfl)
theorem w8 {a0 : Array Value} {Z : State} {EL : List (String × Nat)} (hG : oG a0 Z EL) : ((Jvm.Cond.instanceMethod ({ cls := "java/lang/String", name := "<init>", desc := "([CIILjava/lang/Void;)V" } : Jvm.MethodName))).before a0 Z = true := hG.1 _ (List.mem_of_getElem? (i := 8) rfl)
theorem w10 {a0 : Array Value} {Z : State} {EL : List (String × Nat)} (hG : oG a0 Z EL) : ((Jvm.Cond.code ({ cls := "java/lang/String", name := "<init>", desc := "([CIILjava/lang/Void;)V" } : Jvm.MethodName) jdk_42_method_149_code (6 : Nat) (Option.none : Option Jvm.ClassFile.FieldType))).before a0 Z = true := hG.1 _ (List.mem_of_getElem? (i := 10) rfl)
theorem w11 {a0 : Array Value} {Z : State} {EL : List (String × Nat)} (hG : oG a0 Z EL) : ((Jvm.Cond.methodLink "java/lang/String" (1 : Nat) ({ cls := "java/lang/Object", name := "<init>", desc := "()V" } : Jvm.MethodName))).before a0 Z = true := hG.1 _ (List.mem_of_getElem? (i := 11) rfl)
theorem w12 {a0 : Array Value} {Z : State} {EL : List (String × Nat)} (hG : oG a0 Z EL) : ((Jvm.Cond.instanceMethod ({ cls := "java/lang/Object", name := "<init>", desc := "()V" } : Jvm.MethodName))).before a0 Z = true := hG.1 _ (List.mem_of_getElem? (i := 12) rfl)
theorem w13 {a0 : Array Value} {Z : State} {EL : List (String × Nat)} (hG : oG a0 Z EL) : ((Jvm.Cond.code ({ cls := "java/lang/Object", name := "<init>", desc := "()V" } : Jvm.MethodName) object_method_1_code (1 : Nat) (Option.none : Option Jvm.ClassFile.FieldType))).before a0 Z = true := hG.1 _ (List.mem_of_getElem? (i := 13) rfl)
theorem w14 {a0 : Array Value} {Z : State} {EL : List (String × Nat)} (hG : oG a0 Z EL) : ((Jvm.Cond.fieldLink "java/lang/String" (38 : Nat) "java/lang/String" "COMPACT_STRINGS" "Z")).before a0 Z = true := hG.1 _ (List.mem_of_getElem? (i := 14) rfl)
theorem w15 {a0 : Array Value} {Z : State} {EL : List (String × Nat)} (hG : oG a0 Z EL) : ((Jvm.Cond.methodLink "java/lang/String" (177 : Nat) ({ cls := "java/lang/StringUTF16", name := "compress", desc := "([CII)[B" } : Jvm.MethodName))).before a0 Z = true := hG.1 _ (List.mem_of_getElem? (i := 15) rfl)
theorem w16 {a0 : Array Value} {Z : State} {EL : List (String × Nat)} (hG : oG a0 Z EL) : ((Jvm.Cond.static ({ cls := "java/lang/StringUTF16", name := "compress", desc := "([CII)[B" } : Jvm.MethodName))).before a0 Z = true := hG.1 _ (List.mem_of_getElem? (i := 16) rfl)
theorem w17 {a0 : Array Value} {Z : State} {EL : List (String × Nat)} (hG : oG a0 Z EL) : ((Jvm.Cond.initialized "java/lang/StringUTF16")).before a0 Z = true := hG.1 _ (List.mem_of_getElem? (i := 17) rfl)
theorem w18 {a0 : Array Value} {Z : State} {EL : List (String × Nat)} (hG : oG a0 Z EL) : ((Jvm.Cond.code ({ cls := "java/lang/StringUTF16", name := "compress", desc := "([CII)[B" } : Jvm.MethodName) jdk_52_method_16_code (6 : Nat) (Option.some (Jvm.ClassFile.FieldType.array Jvm.ClassFile.FieldType.byte)))).before a0 Z = true := hG.1 _ (List.mem_of_getElem? (i := 18) rfl)
theorem w19 {a0 : Array Value} {Z : State} {EL : List (String × Nat)} (hG : oG a0 Z EL) : ((Jvm.Cond.arrayClass Jvm.ClassFile.FieldType.byte)).before a0 Z = true := hG.1 _ (List.mem_of_getElem? (i := 19) rfl)
theorem w20 {a0 : Array Value} {Z : State} {EL : List (String × Nat)} (hG : oG a0 Z EL) : ((Jvm.Cond.methodLink "java/lang/StringUTF16" (115 : Nat) ({ cls := "java/lang/StringUTF16", name := "compress", desc := "([CI[BII)I" } : Jvm.MethodName))).before a0 Z = true := hG.1 _ (List.mem_of_getElem? (i := 20) rfl)
theorem w21 {a0 : Array Value} {Z : State} {EL : List (String × Nat)} (hG : oG a0 Z EL) : ((Jvm.Cond.static ({ cls := "java/lang/StringUTF16", name := "compress", desc := "([CI[BII)I" } : Jvm.MethodName))).before a0 Z = true := hG.1 _ (List.mem_of_getElem? (i := 21) rfl)
theorem w22 {a0 : Array Value} {Z : State} {EL : List (String × Nat)} (hG : oG a0 Z EL) : ((Jvm.Cond.code ({ cls := "java/lang/StringUTF16", name := "compress", desc := "([CI[BII)I" } : Jvm.MethodName) jdk_52_method_21_code (7 : Nat) (Option.some Jvm.ClassFile.FieldType.int))).before a0 Z = true := hG.1 _ (List.mem_of_getElem? (i := 22) rfl)
theorem w23 {a0 : Array Value} {Z : State} {EL : List (String × Nat)} (hG : oG a0 Z EL) : ((Jvm.Cond.methodLink "java/lang/String" (47 : Nat) ({ cls := "java/lang/StringUTF16", name := "coderFromArrayLen", desc := "([BI)B" } : Jvm.MethodName))).before a0 Z = true := hG.1 _ (List.mem_of_getElem? (i := 23) rfl)
theorem w24 {a0 : Array Value} {Z : State} {EL : List (String × Nat)} (hG : oG a0 Z EL) : ((Jvm.Cond.static ({ cls := "java/lang/StringUTF16", name := "coderFromArrayLen", desc := "([BI)B" } : Jvm.MethodName))).before a0 Z = true := hG.1 _ (List.mem_of_getElem? (i := 24) rfl)
theorem w25 {a0 : Array Value} {Z : State} {EL : List (String × Nat)} (hG : oG a0 Z EL) : ((Jvm.Cond.code ({ cls := "java/lang/StringUTF16", name := "coderFromArrayLen", desc := "([BI)B" } : Jvm.MethodName) jdk_52_method_15_code (2 : Nat) (Option.some Jvm.ClassFile.FieldType.byte))).before a0 Z = true := hG.1 _ (List.mem_of_getElem? (i := 25) rfl)
theorem w26 {a0 : Array Value} {Z : State} {EL : List (String × Nat)} (hG : oG a0 Z EL) : ((Jvm.Cond.fieldLink "java/lang/String" (15 : Nat) "java/lang/String" "coder" "B")).before a0 Z = true := hG.1 _ (List.mem_of_getElem? (i := 26) rfl)
theorem w27 {a0 : Array Value} {Z : State} {EL : List (String × Nat)} (hG : oG a0 Z EL) : ((Jvm.Cond.laysFinal "java/lang/String" "java/lang/String" "coder" "B")).before a0 Z = true := hG.1 _ (List.mem_of_getElem? (i := 27) rfl)
theorem w28 {a0 : Array Value} {Z : State} {EL : List (String × Nat)} (hG : oG a0 Z EL) : ((Jvm.Cond.fieldLink "java/lang/String" (9 : Nat) "java/lang/String" "value" "[B")).before a0 Z = true := hG.1 _ (List.mem_of_getElem? (i := 28) rfl)
theorem w29 {a0 : Array Value} {Z : State} {EL : List (String × Nat)} (hG : oG a0 Z EL) : ((Jvm.Cond.laysFinal "java/lang/String" "java/lang/String" "value" "[B")).before a0 Z = true := hG.1 _ (List.mem_of_getElem? (i := 29) rfl)
theorem w30 {a0 : Array Value} {Z : State} {EL : List (String × Nat)} (hG : oG a0 Z EL) : ((Jvm.Cond.stringLink "com/example/orderly_settings/orderlysettings/BindingProblemToStringPinLaw" (12 : Nat) "")).before a0 Z = true := hG.1 _ (List.mem_of_getElem? (i := 30) rfl)
theorem w31 {a0 : Array Value} {Z : State} {EL : List (String × Nat)} (hG : oG a0 Z EL) : ((Jvm.Cond.soleField "java/lang/String" "value")).before a0 Z = true := hG.1 _ (List.mem_of_getElem? (i := 31) rfl)
theorem w32 {a0 : Array Value} {Z : State} {EL : List (String × Nat)} (hG : oG a0 Z EL) : ((Jvm.Cond.soleField "java/lang/String" "coder")).before a0 Z = true := hG.1 _ (List.mem_of_getElem? (i := 32) rfl)
theorem w33 {a0 : Array Value} {Z : State} {EL : List (String × Nat)} (hG : oG a0 Z EL) : ((Jvm.Cond.classLink "com/example/orderly_settings/orderlysettings/BindingProblemToStringPinLaw" (14 : Nat) "com/example/orderly_settings/orderlysettings/BindingProblem")).before a0 Z = true := hG.1 _ (List.mem_of_getElem? (i := 33) rfl)
theorem w34 {a0 : Array Value} {Z : State} {EL : List (String × Nat)} (hG : oG a0 Z EL) : ((Jvm.Cond.instantiable "com/example/orderly_settings/orderlysettings/BindingProblem" (3 : Nat))).before a0 Z = true := hG.1 _ (List.mem_of_getElem? (i := 34) rfl)
theorem w35 {a0 : Array Value} {Z : State} {EL : List (String × Nat)} (hG : oG a0 Z EL) : ((Jvm.Cond.initialized "com/example/orderly_settings/orderlysettings/BindingProblem")).before a0 Z = true := hG.1 _ (List.mem_of_getElem? (i := 35) rfl)
theorem w36 {a0 : Array Value} {Z : State} {EL : List (String × Nat)} (hG : oG a0 Z EL) : ((Jvm.Cond.methodLink "com/example/orderly_settings/orderlysettings/BindingProblemToStringPinLaw" (16 : Nat) ({ cls := "com/example/orderly_settings/orderlysettings/BindingProblem", name := "<init>", desc := "(Ljava/lang/String;Ljava/lang/String;Ljava/lang/String;)V" } : Jvm.MethodName))).before a0 Z = true := hG.1 _ (List.mem_of_getElem? (i := 36) rfl)
theorem w37 {a0 : Array Value} {Z : State} {EL : List (String × Nat)} (hG : oG a0 Z EL) : ((Jvm.Cond.instanceMethod ({ cls := "com/example/orderly_settings/orderlysettings/BindingProblem", name := "<init>", desc := "(Ljava/lang/String;Ljava/lang/String;Ljava/lang/String;)V" } : Jvm.MethodName))).before a0 Z = true := hG.1 _ (List.mem_of_getElem? (i := 37) rfl)
theorem w38 {a0 : Array Value} {Z : State} {EL : List (String × Nat)} (hG : oG a0 Z EL) : ((Jvm.Cond.code ({ cls := "com/example/orderly_settings/orderlysettings/BindingProblem", name := "<init>", desc := "(Ljava/lang/String;Ljava/lang/String;Ljava/lang/String;)V" } : Jvm.MethodName) prog_1_method_1_code (4 : Nat) (Option.none : Option Jvm.ClassFile.FieldType))).before a0 Z = true := hG.1 _ (List.mem_of_getElem? (i := 38) rfl)
theorem w39 {a0 : Array Value} {Z : State} {EL : List (String × Nat)} (hG : oG a0 Z EL) : ((Jvm.Cond.methodLink "com/example/orderly_settings/orderlysettings/BindingProblem" (1 : Nat) ({ cls := "java/lang/Object", name := "<init>", desc := "()V" } : Jvm.MethodName))).before a0 Z = true := hG.1 _ (List.mem_of_getElem? (i := 39) rfl)
theorem w40 {a0 : Array Value} {Z : State} {EL : List (String × Nat)} (hG : oG a0 Z EL) : ((Jvm.Cond.stringLink "com/example/orderly_settings/orderlysettings/BindingProblem" (7 : Nat) "property")).before a0 Z = true := hG.1 _ (List.mem_of_getElem? (i := 40) rfl)
theorem w41 {a0 : Array Value} {Z : State} {EL : List (String × Nat)} (hG : oG a0 Z EL) : ((Jvm.Cond.methodLink "com/example/orderly_settings/orderlysettings/BindingProblem" (9 : Nat) ({ cls := "java/util/Objects", name := "requireNonNull", desc := "(Ljava/lang/Object;Ljava/lang/String;)Ljava/lang/Object;" } : Jvm.MethodName))).before a0 Z = true := hG.1 _ (List.mem_of_getElem? (i := 41) rfl)
theorem w42 {a0 : Array Value} {Z : State} {EL : List (String × Nat)} (hG : oG a0 Z EL) : ((Jvm.Cond.static ({ cls := "java/util/Objects", name := "requireNonNull", desc := "(Ljava/lang/Object;Ljava/lang/String;)Ljava/lang/Object;" } : Jvm.MethodName))).before a0 Z = true := hG.1 _ (List.mem_of_getElem? (i := 42) rfl)
theorem w43 {a0 : Array Value} {Z : State} {EL : List (String × Nat)} (hG : oG a0 Z EL) : ((Jvm.Cond.initialized "java/util/Objects")).before a0 Z = true := hG.1 _ (List.mem_of_getElem? (i := 43) rfl)
theorem w44 {a0 : Array Value} {Z : State} {EL : List (String × Nat)} (hG : oG a0 Z EL) : ((Jvm.Cond.code ({ cls := "java/util/Objects", name := "requireNonNull", desc := "(Ljava/lang/Object;Ljava/lang/String;)Ljava/lang/Object;" } : Jvm.MethodName) jdk_31_method_11_code (2 : Nat) (Option.some (Jvm.ClassFile.FieldType.object "java/lang/Object")))).before a0 Z = true := hG.1 _ (List.mem_of_getElem? (i := 44) rfl)
theorem w45 {a0 : Array Value} {Z : State} {EL : List (String × Nat)} (hG : oG a0 Z EL) : ((Jvm.Cond.classLink "com/example/orderly_settings/orderlysettings/BindingProblem" (15 : Nat) "java/lang/String")).before a0 Z = true := hG.1 _ (List.mem_of_getElem? (i := 45) rfl)
theorem w46 {a0 : Array Value} {Z : State} {EL : List (String × Nat)} (hG : oG a0 Z EL) : ((Jvm.Cond.fieldLink "com/example/orderly_settings/orderlysettings/BindingProblem" (17 : Nat) "com/example/orderly_settings/orderlysettings/BindingProblem" "property" "Ljava/lang/String;")).before a0 Z = true := hG.1 _ (List.mem_of_getElem? (i := 46) rfl)
theorem w47 {a0 : Array Value} {Z : State} {EL : List (String × Nat)} (hG : oG a0 Z EL) : ((Jvm.Cond.laysFinal "com/example/orderly_settings/orderlysettings/BindingProblem" "com/example/orderly_settings/orderlysettings/BindingProblem" "property" "Ljava/lang/String;")).before a0 Z = true := hG.1 _ (List.mem_of_getElem? (i := 47) rfl)
theorem w48 {a0 : Array Value} {Z : State} {EL : List (String × Nat)} (hG : oG a0 Z EL) : ((Jvm.Cond.fieldLink "com/example/orderly_settings/orderlysettings/BindingProblem" (22 : Nat) "com/example/orderly_settings/orderlysettings/BindingProblem" "value" "Ljava/lang/String;")).before a0 Z = true := hG.1 _ (List.mem_of_getElem? (i := 48) rfl)
theorem w49 {a0 : Array Value} {Z : State} {EL : List (String × Nat)} (hG : oG a0 Z EL) : ((Jvm.Cond.laysFinal "com/example/orderly_settings/orderlysettings/BindingProblem" "com/example/orderly_settings/orderlysettings/BindingProblem" "value" "Ljava/lang/String;")).before a0 Z = true := hG.1 _ (List.mem_of_getElem? (i := 49) rfl)
theorem w50 {a0 : Array Value} {Z : State} {EL : List (String × Nat)} (hG : oG a0 Z EL) : ((Jvm.Cond.stringLink "com/example/orderly_settings/orderlysettings/BindingProblem" (25 : Nat) "reason")).before a0 Z = true := hG.1 _ (List.mem_of_getElem? (i := 50) rfl)
theorem w51 {a0 : Array Value} {Z : State} {EL : List (String × Nat)} (hG : oG a0 Z EL) : ((Jvm.Cond.fieldLink "com/example/orderly_settings/orderlysettings/BindingProblem" (27 : Nat) "com/example/orderly_settings/orderlysettings/BindingProblem" "reason" "Ljava/lang/String;")).before a0 Z = true := hG.1 _ (List.mem_of_getElem? (i := 51) rfl)
theorem w52 {a0 : Array Value} {Z : State} {EL : List (String × Nat)} (hG : oG a0 Z EL) : ((Jvm.Cond.laysFinal "com/example/orderly_settings/orderlysettings/BindingProblem" "com/example/orderly_settings/orderlysettings/BindingProblem" "reason" "Ljava/lang/String;")).before a0 Z = true := hG.1 _ (List.mem_of_getElem? (i := 52) rfl)
theorem w53 {a0 : Array Value} {Z : State} {EL : List (String × Nat)} (hG : oG a0 Z EL) : ((Jvm.Cond.methodLink "com/example/orderly_settings/orderlysettings/BindingProblemToStringPinLaw" (19 : Nat) ({ cls := "com/example/orderly_settings/orderlysettings/BindingProblem", name := "toString", desc := "()Ljava/lang/String;" } : Jvm.MethodName))).before a0 Z = true := hG.1 _ (List.mem_of_getElem? (i := 53) rfl)
theorem w54 {a0 : Array Value} {Z : State} {EL : List (String × Nat)} (hG : oG a0 Z EL) : ((Jvm.Cond.declares ({ cls := "com/example/orderly_settings/orderlysettings/BindingProblem", name := "toString", desc := "()Ljava/lang/String;" } : Jvm.MethodName))).before a0 Z = true := hG.1 _ (List.mem_of_getElem? (i := 54) rfl)
theorem w55 {a0 : Array Value} {Z : State} {EL : List (String × Nat)} (hG : oG a0 Z EL) : ((Jvm.Cond.instanceMethod ({ cls := "com/example/orderly_settings/orderlysettings/BindingProblem", name := "toString", desc := "()Ljava/lang/String;" } : Jvm.MethodName))).before a0 Z = true := hG.1 _ (List.mem_of_getElem? (i := 55) rfl)
theorem w56 {a0 : Array Value} {Z : State} {EL : List (String × Nat)} (hG : oG a0 Z EL) : ((Jvm.Cond.selects "com/example/orderly_settings/orderlysettings/BindingProblem" ({ cls := "com/example/orderly_settings/orderlysettings/BindingProblem", name := "toString", desc := "()Ljava/lang/String;" } : Jvm.MethodName) ({ cls := "com/example/orderly_settings/orderlysettings/BindingProblem", name := "toString", desc := "()Ljava/lang/String;" } : Jvm.MethodName))).before a0 Z = true := hG.1 _ (List.mem_of_getElem? (i := 56) rfl)
theorem w57 {a0 : Array Value} {Z : State} {EL : List (String × Nat)} (hG : oG a0 Z EL) : ((Jvm.Cond.code ({ cls := "com/example/orderly_settings/orderlysettings/BindingProblem", name := "toString", desc := "()Ljava/lang/String;" } : Jvm.MethodName) prog_1_method_5_code (2 : Nat) (Option.some (Jvm.ClassFile.FieldType.object "java/lang/String")))).before a0 Z = true := hG.1 _ (List.mem_of_getElem? (i := 57) rfl)
theorem w58 {a0 : Array Value} {Z : State} {EL : List (String × Nat)} (hG : oG a0 Z EL) : ((Jvm.Cond.classLink "com/example/orderly_settings/orderlysettings/BindingProblem" (31 : Nat) "java/lang/StringBuilder")).before a0 Z = true := hG.1 _ (List.mem_of_getElem? (i := 58) rfl)
theorem w59 {a0 : Array Value} {Z : State} {EL : List (String × Nat)} (hG : oG a0 Z EL) : ((Jvm.Cond.instantiable "java/lang/StringBuilder" (4 : Nat))).before a0 Z = true := hG.1 _ (List.mem_of_getElem? (i := 59) rfl)
theorem w60 {a0 : Array Value} {Z : State} {EL : List (String × Nat)} (hG : oG a0 Z EL) : ((Jvm.Cond.initialized "java/lang/StringBuilder")).before a0 Z = true := hG.1 _ (List.mem_of_getElem? (i := 60) rfl)
theorem w61 {a0 : Array Value} {Z : State} {EL : List (String × Nat)} (hG : oG a0 Z EL) : ((Jvm.Cond.methodLink "com/example/orderly_settings/orderlysettings/BindingProblem" (33 : Nat) ({ cls := "java/lang/StringBuilder", name := "<init>", desc := "()V" } : Jvm.MethodName))).before a0 Z = true := hG.1 _ (List.mem_of_getElem? (i := 61) rfl)
theorem w62 {a0 : Array Value} {Z : State} {EL : List (String × Nat)} (hG : oG a0 Z EL) : ((Jvm.Cond.instanceMethod ({ cls := "java/lang/StringBuilder", name := "<init>", desc := "()V" } : Jvm.MethodName))).before a0 Z = true := hG.1 _ (List.mem_of_getElem? (i := 62) rfl)
theorem w63 {a0 : Array Value} {Z : State} {EL : List (String × Nat)} (hG : oG a0 Z EL) : ((Jvm.Cond.code ({ cls := "java/lang/StringBuilder", name := "<init>", desc := "()V" } : Jvm.MethodName) jdk_67_method_1_code (1 : Nat) (Option.none : Option Jvm.ClassFile.FieldType))).before a0 Z = true := hG.1 _ (List.mem_of_getElem? (i := 63) rfl)
theorem w64 {a0 : Array Value} {Z : State} {EL : List (String × Nat)} (hG : oG a0 Z EL) : ((Jvm.Cond.methodLink "java/lang/StringBuilder" (1 : Nat) ({ cls := "java/lang/AbstractStringBuilder", name := "<init>", desc := "(I)V" } : Jvm.MethodName))).before a0 Z = true := hG.1 _ (List.mem_of_getElem? (i := 64) rfl)
theorem w65 {a0 : Array Value} {Z : State} {EL : List (String × Nat)} (hG : oG a0 Z EL) : ((Jvm.Cond.instanceMethod ({ cls := "java/lang/AbstractStringBuilder", name := "<init>", desc := "(I)V" } : Jvm.MethodName))).before a0 Z = true := hG.1 _ (List.mem_of_getElem? (i := 65) rfl)
theorem w68 {a0 : Array Value} {Z : State} {EL : List (String × Nat)} (hG : oG a0 Z EL) : ((Jvm.Cond.initialized "java/lang/AbstractStringBuilder")).before a0 Z = true := hG.1 _ (List.mem_of_getElem? (i := 68) rfl)
theorem w69 {a0 : Array Value} {Z : State} {EL : List (String × Nat)} (hG : oG a0 Z EL) : ((Jvm.Cond.code ({ cls := "java/lang/AbstractStringBuilder", name := "<init>", desc := "(I)V" } : Jvm.MethodName) jdk_68_method_2_code (2 : Nat) (Option.none : Option Jvm.ClassFile.FieldType))).before a0 Z = true := hG.1 _ (List.mem_of_getElem? (i := 69) rfl)
theorem w70 {a0 : Array Value} {Z : State} {EL : List (String × Nat)} (hG : oG a0 Z EL) : ((Jvm.Cond.methodLink "java/lang/AbstractStringBuilder" (3 : Nat) ({ cls := "java/lang/Object", name := "<init>", desc := "()V" } : Jvm.MethodName))).before a0 Z = true := hG.1 _ (List.mem_of_getElem? (i := 70) rfl)
theorem w71 {a0 : Array Value} {Z : State} {EL : List (String × Nat)} (hG : oG a0 Z EL) : ((Jvm.Cond.fieldLink "java/lang/AbstractStringBuilder" (18 : Nat) "java/lang/String" "COMPACT_STRINGS" "Z")).before a0 Z = true := hG.1 _ (List.mem_of_getElem? (i := 71) rfl)
theorem w72 {a0 : Array Value} {Z : State} {EL : List (String × Nat)} (hG : oG a0 Z EL) : ((Jvm.Cond.fieldLink "java/lang/AbstractStringBuilder" (15 : Nat) "java/lang/AbstractStringBuilder" "value" "[B")).before a0 Z = true := hG.1 _ (List.mem_of_getElem? (i := 72) rfl)
theorem w73 {a0 : Array Value} {Z : State} {EL : List (String × Nat)} (hG : oG a0 Z EL) : ((Jvm.Cond.lays "java/lang/StringBuilder" "java/lang/AbstractStringBuilder" "value" "[B")).before a0 Z = true := hG.1 _ (List.mem_of_getElem? (i := 73) rfl)
theorem w74 {a0 : Array Value} {Z : State} {EL : List (String × Nat)} (hG : oG a0 Z EL) : ((Jvm.Cond.fieldLink "java/lang/AbstractStringBuilder" (22 : Nat) "java/lang/AbstractStringBuilder" "coder" "B")).before a0 Z = true := hG.1 _ (List.mem_of_getElem? (i := 74) rfl)
theorem w75 {a0 : Array Value} {Z : State} {EL : List (String × Nat)} (hG : oG a0 Z EL) : ((Jvm.Cond.lays "java/lang/StringBuilder" "java/lang/AbstractStringBuilder" "coder" "B")).before a0 Z = true := hG.1 _ (List.mem_of_getElem? (i := 75) rfl)
theorem w76 {a0 : Array Value} {Z : State} {EL : List (String × Nat)} (hG : oG a0 Z EL) : ((Jvm.Cond.stringLink "com/example/orderly_settings/orderlysettings/BindingProblem" (34 : Nat) " = '")).before a0 Z = true := hG.1 _ (List.mem_of_getElem? (i := 76) rfl)
theorem w77 {a0 : Array Value} {Z : State} {EL : List (String × Nat)} (hG : oG a0 Z EL) : ((Jvm.Cond.methodLink "com/example/orderly_settings/orderlysettings/BindingProblem" (36 : Nat) ({ cls := "java/lang/StringBuilder", name := "append", desc := "(Ljava/lang/String;)Ljava/lang/StringBuilder;" } : Jvm.MethodName))).before a0 Z = true := hG.1 _ (List.mem_of_getElem? (i := 77) rfl)
theorem w78 {a0 : Array Value} {Z : State} {EL : List (String × Nat)} (hG : oG a0 Z EL) : ((Jvm.Cond.declares ({ cls := "java/lang/StringBuilder", name := "append", desc := "(Ljava/lang/String;)Ljava/lang/StringBuilder;" } : Jvm.MethodName))).before a0 Z = true := hG.1 _ (List.mem_of_getElem? (i := 78) rfl)
theorem w79 {a0 : Array Value} {Z : State} {EL : List (String × Nat)} (hG : oG a0 Z EL) : ((Jvm.Cond.instanceMethod ({ cls := "java/lang/StringBuilder", name := "append", desc := "(Ljava/lang/String;)Ljava/lang/StringBuilder;" } : Jvm.MethodName))).before a0 Z = true := hG.1 _ (List.mem_of_getElem? (i := 79) rfl)
theorem w80 {a0 : Array Value} {Z : State} {EL : List (String × Nat)} (hG : oG a0 Z EL) : ((Jvm.Cond.selects "java/lang/StringBuilder" ({ cls := "java/lang/StringBuilder", name := "append", desc := "(Ljava/lang/String;)Ljava/lang/StringBuilder;" } : Jvm.MethodName) ({ cls := "java/lang/StringBuilder", name := "append", desc := "(Ljava/lang/String;)Ljava/lang/StringBuilder;" } : Jvm.MethodName))).before a0 Z = true := hG.1 _ (List.mem_of_getElem? (i := 80) rfl)
theorem w81 {a0 : Array Value} {Z : State} {EL : List (String × Nat)} (hG : oG a0 Z EL) : ((Jvm.Cond.code ({ cls := "java/lang/StringBuilder", name := "append", desc := "(Ljava/lang/String;)Ljava/lang/StringBuilder;" } : Jvm.MethodName) jdk_67_method_7_code (2 : Nat) (Option.some (Jvm.ClassFile.FieldType.object "java/lang/StringBuilder")))).before a0 Z = true := hG.1 _ (List.mem_of_getElem? (i := 81) rfl)
theorem w82 {a0 : Array Value} {Z : State} {EL : List (String × Nat)} (hG : oG a0 Z EL) : ((Jvm.Cond.methodLink "java/lang/StringBuilder" (29 : Nat) ({ cls := "java/lang/AbstractStringBuilder", name := "append", desc := "(Ljava/lang/String;)Ljava/lang/AbstractStringBuilder;" } : Jvm.MethodName))).before a0 Z = true := hG.1 _ (List.mem_of_getElem? (i := 82) rfl)
theorem w83 {a0 : Array Value} {Z : State} {EL : List (String × Nat)} (hG : oG a0 Z EL) : ((Jvm.Cond.instanceMethod ({ cls := "java/lang/AbstractStringBuilder", name := "append", desc := "(Ljava/lang/String;)Ljava/lang/AbstractStringBuilder;" } : Jvm.MethodName))).before a0 Z = true := hG.1 _ (List.mem_of_getElem? (i := 83) rfl)
theorem w84 {a0 : Array Value} {Z : State} {EL : List (String × Nat)} (hG : oG a0 Z EL) : ((Jvm.Cond.superclass "java/lang/StringBuilder" "java/lang/AbstractStringBuilder")).before a0 Z = true := hG.1 _ (List.mem_of_getElem? (i := 84) rfl)
theorem w86 {a0 : Array Value} {Z : State} {EL : List (String × Nat)} (hG : oG a0 Z EL) : ((Jvm.Cond.code ({ cls := "java/lang/AbstractStringBuilder", name := "append", desc := "(Ljava/lang/String;)Ljava/lang/AbstractStringBuilder;" } : Jvm.MethodName) jdk_68_method_22_code (3 : Nat) (Option.some (Jvm.ClassFile.FieldType.object "java/lang/AbstractStringBuilder")))).before a0 Z = true := hG.1 _ (List.mem_of_getElem? (i := 86) rfl)
theorem w87 {a0 : Array Value} {Z : State} {EL : List (String × Nat)} (hG : oG a0 Z EL) : ((Jvm.Cond.methodLink "java/lang/AbstractStringBuilder" (32 : Nat) ({ cls := "java/lang/String", name := "length", desc := "()I" } : Jvm.MethodName))).before a0 Z = true := hG.1 _ (List.mem_of_getElem? (i := 87) rfl)
theorem w88 {a0 : Array Value} {Z : State} {EL : List (String × Nat)} (hG : oG a0 Z EL) : ((Jvm.Cond.declares ({ cls := "java/lang/String", name := "length", desc := "()I" } : Jvm.MethodName))).before a0 Z = true := hG.1 _ (List.mem_of_getElem? (i := 88) rfl)
theorem w89 {a0 : Array Value} {Z : State} {EL : List (String × Nat)} (hG : oG a0 Z EL) : ((Jvm.Cond.instanceMethod ({ cls := "java/lang/String", name := "length", desc := "()I" } : Jvm.MethodName))).before a0 Z = true := hG.1 _ (List.mem_of_getElem? (i := 89) rfl)
theorem w90 {a0 : Array Value} {Z : State} {EL : List (String × Nat)} (hG : oG a0 Z EL) : ((Jvm.Cond.selects "java/lang/String" ({ cls := "java/lang/String", name := "length", desc := "()I" } : Jvm.MethodName) ({ cls := "java/lang/String", name := "length", desc := "()I" } : Jvm.MethodName))).before a0 Z = true := hG.1 _ (List.mem_of_getElem? (i := 90) rfl)
theorem w91 {a0 : Array Value} {Z : State} {EL : List (String × Nat)} (hG : oG a0 Z EL) : ((Jvm.Cond.code ({ cls := "java/lang/String", name := "length", desc := "()I" } : Jvm.MethodName) jdk_42_method_54_code (1 : Nat) (Option.some Jvm.ClassFile.FieldType.int))).before a0 Z = true := hG.1 _ (List.mem_of_getElem? (i := 91) rfl)
theorem w92 {a0 : Array Value} {Z : State} {EL : List (String × Nat)} (hG : oG a0 Z EL) : ((Jvm.Cond.methodLink "java/lang/String" (335 : Nat) ({ cls := "java/lang/String", name := "coder", desc := "()B" } : Jvm.MethodName))).before a0 Z = true := hG.1 _ (List.mem_of_getElem? (i := 92) rfl)
theorem w93 {a0 : Array Value} {Z : State} {EL : List (String × Nat)} (hG : oG a0 Z EL) : ((Jvm.Cond.declares ({ cls := "java/lang/String", name := "coder", desc := "()B" } : Jvm.MethodName))).before a0 Z = true := hG.1 _ (List.mem_of_getElem? (i := 93) rfl)
theorem w94 {a0 : Array Value} {Z : State} {EL : List (String × Nat)} (hG : oG a0 Z EL) : ((Jvm.Cond.instanceMethod ({ cls := "java/lang/String", name := "coder", desc := "()B" } : Jvm.MethodName))).before a0 Z = true := hG.1 _ (List.mem_of_getElem? (i := 94) rfl)
theorem w95 {a0 : Array Value} {Z : State} {EL : List (String × Nat)} (hG : oG a0 Z EL) : ((Jvm.Cond.selects "java/lang/String" ({ cls := "java/lang/String", name := "coder", desc := "()B" } : Jvm.MethodName) ({ cls := "java/lang/String", name := "coder", desc := "()B" } : Jvm.MethodName))).before a0 Z = true := hG.1 _ (List.mem_of_getElem? (i := 95) rfl)
theorem w96 {a0 : Array Value} {Z : State} {EL : List (String × Nat)} (hG : oG a0 Z EL) : ((Jvm.Cond.code ({ cls := "java/lang/String", name := "coder", desc := "()B" } : Jvm.MethodName) jdk_42_method_152_code (1 : Nat) (Option.some Jvm.ClassFile.FieldType.byte))).before a0 Z = true := hG.1 _ (List.mem_of_getElem? (i := 96) rfl)
theorem w97 {a0 : Array Value} {Z : State} {EL : List (String × Nat)} (hG : oG a0 Z EL) : ((Jvm.Cond.fieldLink "java/lang/AbstractStringBuilder" (79 : Nat) "java/lang/AbstractStringBuilder" "count" "I")).before a0 Z = true := hG.1 _ (List.mem_of_getElem? (i := 97) rfl)
theorem w98 {a0 : Array Value} {Z : State} {EL : List (String × Nat)} (hG : oG a0 Z EL) : ((Jvm.Cond.lays "java/lang/StringBuilder" "java/lang/AbstractStringBuilder" "count" "I")).before a0 Z = true := hG.1 _ (List.mem_of_getElem? (i := 98) rfl)
theorem w99 {a0 : Array Value} {Z : State} {EL : List (String × Nat)} (hG : oG a0 Z EL) : ((Jvm.Cond.methodLink "java/lang/AbstractStringBuilder" (100 : Nat) ({ cls := "java/lang/AbstractStringBuilder", name := "ensureCapacityInternal", desc := "(I)V" } : Jvm.MethodName))).before a0 Z = true := hG.1 _ (List.mem_of_getElem? (i := 99) rfl)
theorem w100 {a0 : Array Value} {Z : State} {EL : List (String × Nat)} (hG : oG a0 Z EL) : ((Jvm.Cond.instanceMethod ({ cls := "java/lang/AbstractStringBuilder", name := "ensureCapacityInternal", desc := "(I)V" } : Jvm.MethodName))).before a0 Z = true := hG.1 _ (List.mem_of_getElem? (i := 100) rfl)
theorem w101 {a0 : Array Value} {Z : State} {EL : List (String × Nat)} (hG : oG a0 Z EL) : ((Jvm.Cond.privateMethod ({ cls := "java/lang/AbstractStringBuilder", name := "ensureCapacityInternal", desc := "(I)V" } : Jvm.MethodName))).before a0 Z = true := hG.1 _ (List.mem_of_getElem? (i := 101) rfl)
theorem w102 {a0 : Array Value} {Z : State} {EL : List (String × Nat)} (hG : oG a0 Z EL) : ((Jvm.Cond.selects "java/lang/StringBuilder" ({ cls := "java/lang/AbstractStringBuilder", name := "ensureCapacityInternal", desc := "(I)V" } : Jvm.MethodName) ({ cls := "java/lang/AbstractStringBuilder", name := "ensureCapacityInternal", desc := "(I)V" } : Jvm.MethodName))).before a0 Z = true := hG.1 _ (List.mem_of_getElem? (i := 102) rfl)
theorem w103 {a0 : Array Value} {Z : State} {EL : List (String × Nat)} (hG : oG a0 Z EL) : ((Jvm.Cond.code ({ cls := "java/lang/AbstractStringBuilder", name := "ensureCapacityInternal", desc := "(I)V" } : Jvm.MethodName) jdk_68_method_9_code (3 : Nat) (Option.none : Option Jvm.ClassFile.FieldType))).before a0 Z = true := hG.1 _ (List.mem_of_getElem? (i := 103) rfl)
theorem w104 {a0 : Array Value} {Z : State} {EL : List (String × Nat)} (hG : oG a0 Z EL) : ((Jvm.Cond.methodLink "java/lang/AbstractStringBuilder" (208 : Nat) ({ cls := "java/lang/AbstractStringBuilder", name := "putStringAt", desc := "(ILjava/lang/String;)V" } : Jvm.MethodName))).before a0 Z = true := hG.1 _ (List.mem_of_getElem? (i := 104) rfl)
theorem w105 {a0 : Array Value} {Z : State} {EL : List (String × Nat)} (hG : oG a0 Z EL) : ((Jvm.Cond.instanceMethod ({ cls := "java/lang/AbstractStringBuilder", name := "putStringAt", desc := "(ILjava/lang/String;)V" } : Jvm.MethodName))).before a0 Z = true := hG.1 _ (List.mem_of_getElem? (i := 105) rfl)
theorem w106 {a0 : Array Value} {Z : State} {EL : List (String × Nat)} (hG : oG a0 Z EL) : ((Jvm.Cond.privateMethod ({ cls := "java/lang/AbstractStringBuilder", name := "putStringAt", desc := "(ILjava/lang/String;)V" } : Jvm.MethodName))).before a0 Z = true := hG.1 _ (List.mem_of_getElem? (i := 106) rfl)
theorem w107 {a0 : Array Value} {Z : State} {EL : List (String × Nat)} (hG : oG a0 Z EL) : ((Jvm.Cond.selects "java/lang/StringBuilder" ({ cls := "java/lang/AbstractStringBuilder", name := "putStringAt", desc := "(ILjava/lang/String;)V" } : Jvm.MethodName) ({ cls := "java/lang/AbstractStringBuilder", name := "putStringAt", desc := "(ILjava/lang/String;)V" } : Jvm.MethodName))).before a0 Z = true := hG.1 _ (List.mem_of_getElem? (i := 107) rfl)
theorem w108 {a0 : Array Value} {Z : State} {EL : List (String × Nat)} (hG : oG a0 Z EL) : ((Jvm.Cond.code ({ cls := "java/lang/AbstractStringBuilder", name := "putStringAt", desc := "(ILjava/lang/String;)V" } : Jvm.MethodName) jdk_68_method_73_code (3 : Nat) (Option.none : Option Jvm.ClassFile.FieldType))).before a0 Z = true := hG.1 _ (List.mem_of_getElem? (i := 108) rfl)
theorem w109 {a0 : Array Value} {Z : State} {EL : List (String × Nat)} (hG : oG a0 Z EL) : ((Jvm.Cond.methodLink "java/lang/AbstractStringBuilder" (397 : Nat) ({ cls := "java/lang/AbstractStringBuilder", name := "inflateIfNeededFor", desc := "(Ljava/lang/String;)V" } : Jvm.MethodName))).before a0 Z = true := hG.1 _ (List.mem_of_getElem? (i := 109) rfl)
theorem w110 {a0 : Array Value} {Z : State} {EL : List (String × Nat)} (hG : oG a0 Z EL) : ((Jvm.Cond.instanceMethod ({ cls := "java/lang/AbstractStringBuilder", name := "inflateIfNeededFor", desc := "(Ljava/lang/String;)V" } : Jvm.MethodName))).before a0 Z = true := hG.1 _ (List.mem_of_getElem? (i := 110) rfl)
theorem w111 {a0 : Array Value} {Z : State} {EL : List (String × Nat)} (hG : oG a0 Z EL) : ((Jvm.Cond.privateMethod ({ cls := "java/lang/AbstractStringBuilder", name := "inflateIfNeededFor", desc := "(Ljava/lang/String;)V" } : Jvm.MethodName))).before a0 Z = true := hG.1 _ (List.mem_of_getElem? (i := 111) rfl)
theorem w112 {a0 : Array Value} {Z : State} {EL : List (String × Nat)} (hG : oG a0 Z EL) : ((Jvm.Cond.selects "java/lang/StringBuilder" ({ cls := "java/lang/AbstractStringBuilder", name := "inflateIfNeededFor", desc := "(Ljava/lang/String;)V" } : Jvm.MethodName) ({ cls := "java/lang/AbstractStringBuilder", name := "inflateIfNeededFor", desc := "(Ljava/lang/String;)V" } : Jvm.MethodName))).before a0 Z = true := hG.1 _ (List.mem_of_getElem? (i := 112) rfl)
theorem w113 {a0 : Array Value} {Z : State} {EL : List (String × Nat)} (hG : oG a0 Z EL) : ((Jvm.Cond.code ({ cls := "java/lang/AbstractStringBuilder", name := "inflateIfNeededFor", desc := "(Ljava/lang/String;)V" } : Jvm.MethodName) jdk_68_method_71_code (2 : Nat) (Option.none : Option Jvm.ClassFile.FieldType))).before a0 Z = true := hG.1 _ (List.mem_of_getElem? (i := 113) rfl)
theorem w114 {a0 : Array Value} {Z : State} {EL : List (String × Nat)} (hG : oG a0 Z EL) : ((Jvm.Cond.methodLink "java/lang/AbstractStringBuilder" (40 : Nat) ({ cls := "java/lang/String", name := "coder", desc := "()B" } : Jvm.MethodName))).before a0 Z = true := hG.1 _ (List.mem_of_getElem? (i := 114) rfl)
theorem w115 {a0 : Array Value} {Z : State} {EL : List (String × Nat)} (hG : oG a0 Z EL) : ((Jvm.Cond.methodLink "java/lang/AbstractStringBuilder" (399 : Nat) ({ cls := "java/lang/String", name := "getBytes", desc := "([BIB)V" } : Jvm.MethodName))).before a0 Z = true := hG.1 _ (List.mem_of_getElem? (i := 115) rfl)
theorem w116 {a0 : Array Value} {Z : State} {EL : List (String × Nat)} (hG : oG a0 Z EL) : ((Jvm.Cond.declares ({ cls := "java/lang/String", name := "getBytes", desc := "([BIB)V" } : Jvm.MethodName))).before a0 Z = true := hG.1 _ (List.mem_of_getElem? (i := 116) rfl)
theorem w117 {a0 : Array Value} {Z : State} {EL : List (String × Nat)} (hG : oG a0 Z EL) : ((Jvm.Cond.instanceMethod ({ cls := "java/lang/String", name := "getBytes", desc := "([BIB)V" } : Jvm.MethodName))).before a0 Z = true := hG.1 _ (List.mem_of_getElem? (i := 117) rfl)
theorem w118 {a0 : Array Value} {Z : State} {EL : List (String × Nat)} (hG : oG a0 Z EL) : ((Jvm.Cond.selects "java/lang/String" ({ cls := "java/lang/String", name := "getBytes", desc := "([BIB)V" } : Jvm.MethodName) ({ cls := "java/lang/String", name := "getBytes", desc := "([BIB)V" } : Jvm.MethodName))).before a0 Z = true := hG.1 _ (List.mem_of_getElem? (i := 118) rfl)
theorem w119 {a0 : Array Value} {Z : State} {EL : List (String × Nat)} (hG : oG a0 Z EL) : ((Jvm.Cond.code ({ cls := "java/lang/String", name := "getBytes", desc := "([BIB)V" } : Jvm.MethodName) jdk_42_method_147_code (4 : Nat) (Option.none : Option Jvm.ClassFile.FieldType))).before a0 Z = true := hG.1 _ (List.mem_of_getElem? (i := 119) rfl)
theorem w120 {a0 : Array Value} {Z : State} {EL : List (String × Nat)} (hG : oG a0 Z EL) : ((Jvm.Cond.methodLink "java/lang/String" (212 : Nat) ({ cls := "java/lang/System", name := "arraycopy", desc := "(Ljava/lang/Object;ILjava/lang/Object;II)V" } : Jvm.MethodName))).before a0 Z = true := hG.1 _ (List.mem_of_getElem? (i := 120) rfl)
theorem w121 {a0 : Array Value} {Z : State} {EL : List (String × Nat)} (hG : oG a0 Z EL) : ((Jvm.Cond.static ({ cls := "java/lang/System", name := "arraycopy", desc := "(Ljava/lang/Object;ILjava/lang/Object;II)V" } : Jvm.MethodName))).before a0 Z = true := hG.1 _ (List.mem_of_getElem? (i := 121) rfl)
theorem w122 {a0 : Array Value} {Z : State} {EL : List (String × Nat)} (hG : oG a0 Z EL) : ((Jvm.Cond.initialized "java/lang/System")).before a0 Z = true := hG.1 _ (List.mem_of_getElem? (i := 122) rfl)
theorem w123 {a0 : Array Value} {Z : State} {EL : List (String × Nat)} (hG : oG a0 Z EL) : ((Jvm.Cond.native ({ cls := "java/lang/System", name := "arraycopy", desc := "(Ljava/lang/Object;ILjava/lang/Object;II)V" } : Jvm.MethodName))).before a0 Z = true := hG.1 _ (List.mem_of_getElem? (i := 123) rfl)
theorem w124 {a0 : Array Value} {Z : State} {EL : List (String × Nat)} (hG : oG a0 Z EL) : ((Jvm.Cond.stringLink "com/example/orderly_settings/orderlysettings/BindingProblem" (40 : Nat) "'")).before a0 Z = true := hG.1 _ (List.mem_of_getElem? (i := 124) rfl)
theorem w125 {a0 : Array Value} {Z : State} {EL : List (String × Nat)} (hG : oG a0 Z EL) : ((Jvm.Cond.methodLink "com/example/orderly_settings/orderlysettings/BindingProblem" (42 : Nat) ({ cls := "java/lang/StringBuilder", name := "toString", desc := "()Ljava/lang/String;" } : Jvm.MethodName))).before a0 Z = true := hG.1 _ (List.mem_of_getElem? (i := 125) rfl)
theorem w126 {a0 : Array Value} {Z : State} {EL : List (String × Nat)} (hG : oG a0 Z EL) : ((Jvm.Cond.declares ({ cls := "java/lang/StringBuilder", name := "toString", desc := "()Ljava/lang/String;" } : Jvm.MethodName))).before a0 Z = true := hG.1 _ (List.mem_of_getElem? (i := 126) rfl)
theorem w127 {a0 : Array Value} {Z : State} {EL : List (String × Nat)} (hG : oG a0 Z EL) : ((Jvm.Cond.instanceMethod ({ cls := "java/lang/StringBuilder", name := "toString", desc := "()Ljava/lang/String;" } : Jvm.MethodName))).before a0 Z = true := hG.1 _ (List.mem_of_getElem? (i := 127) rfl)
theorem w128 {a0 : Array Value} {Z : State} {EL : List (String × Nat)} (hG : oG a0 Z EL) : ((Jvm.Cond.selects "java/lang/StringBuilder" ({ cls := "java/lang/StringBuilder", name := "toString", desc := "()Ljava/lang/String;" } : Jvm.MethodName) ({ cls := "java/lang/StringBuilder", name := "toString", desc := "()Ljava/lang/String;" } : Jvm.MethodName))).before a0 Z = true := hG.1 _ (List.mem_of_getElem? (i := 128) rfl)
theorem w129 {a0 : Array Value} {Z : State} {EL : List (String × Nat)} (hG : oG a0 Z EL) : ((Jvm.Cond.code ({ cls := "java/lang/StringBuilder", name := "toString", desc := "()Ljava/lang/String;" } : Jvm.MethodName) jdk_67_method_42_code (1 : Nat) (Option.some (Jvm.ClassFile.FieldType.object "java/lang/String")))).before a0 Z = true := hG.1 _ (List.mem_of_getElem? (i := 129) rfl)
theorem w130 {a0 : Array Value} {Z : State} {EL : List (String × Nat)} (hG : oG a0 Z EL) : ((Jvm.Cond.classLink "java/lang/StringBuilder" (18 : Nat) "java/lang/String")).before a0 Z = true := hG.1 _ (List.mem_of_getElem? (i := 130) rfl)
theorem w131 {a0 : Array Value} {Z : State} {EL : List (String × Nat)} (hG : oG a0 Z EL) : ((Jvm.Cond.methodLink "java/lang/StringBuilder" (137 : Nat) ({ cls := "java/lang/String", name := "<init>", desc := "(Ljava/lang/StringBuilder;)V" } : Jvm.MethodName))).before a0 Z = true := hG.1 _ (List.mem_of_getElem? (i := 131) rfl)
theorem w132 {a0 : Array Value} {Z : State} {EL : List (String × Nat)} (hG : oG a0 Z EL) : ((Jvm.Cond.instanceMethod ({ cls := "java/lang/String", name := "<init>", desc := "(Ljava/lang/StringBuilder;)V" } : Jvm.MethodName))).before a0 Z = true := hG.1 _ (List.mem_of_getElem? (i := 132) rfl)
theorem w133 {a0 : Array Value} {Z : State} {EL : List (String × Nat)} (hG : oG a0 Z EL) : ((Jvm.Cond.code ({ cls := "java/lang/String", name := "<init>", desc := "(Ljava/lang/StringBuilder;)V" } : Jvm.MethodName) jdk_42_method_53_code (2 : Nat) (Option.none : Option Jvm.ClassFile.FieldType))).before a0 Z = true := hG.1 _ (List.mem_of_getElem? (i := 133) rfl)
theorem w134 {a0 : Array Value} {Z : State} {EL : List (String × Nat)} (hG : oG a0 Z EL) : ((Jvm.Cond.methodLink "java/lang/String" (489 : Nat) ({ cls := "java/lang/String", name := "<init>", desc := "(Ljava/lang/AbstractStringBuilder;Ljava/lang/Void;)V" } : Jvm.MethodName))).before a0 Z = true := hG.1 _ (List.mem_of_getElem? (i := 134) rfl)
theorem w135 {a0 : Array Value} {Z : State} {EL : List (String × Nat)} (hG : oG a0 Z EL) : ((Jvm.Cond.instanceMethod ({ cls := "java/lang/String", name := "<init>", desc := "(Ljava/lang/AbstractStringBuilder;Ljava/lang/Void;)V" } : Jvm.MethodName))).before a0 Z = true := hG.1 _ (List.mem_of_getElem? (i := 135) rfl)
theorem w136 {a0 : Array Value} {Z : State} {EL : List (String × Nat)} (hG : oG a0 Z EL) : ((Jvm.Cond.code ({ cls := "java/lang/String", name := "<init>", desc := "(Ljava/lang/AbstractStringBuilder;Ljava/lang/Void;)V" } : Jvm.MethodName) jdk_42_method_150_code (5 : Nat) (Option.none : Option Jvm.ClassFile.FieldType))).before a0 Z = true := hG.1 _ (List.mem_of_getElem? (i := 136) rfl)
theorem w137 {a0 : Array Value} {Z : State} {EL : List (String × Nat)} (hG : oG a0 Z EL) : ((Jvm.Cond.methodLink "java/lang/String" (552 : Nat) ({ cls := "java/lang/AbstractStringBuilder", name := "getValue", desc := "()[B" } : Jvm.MethodName))).before a0 Z = true := hG.1 _ (List.mem_of_getElem? (i := 137) rfl)
theorem w138 {a0 : Array Value} {Z : State} {EL : List (String × Nat)} (hG : oG a0 Z EL) : ((Jvm.Cond.declares ({ cls := "java/lang/AbstractStringBuilder", name := "getValue", desc := "()[B" } : Jvm.MethodName))).before a0 Z = true := hG.1 _ (List.mem_of_getElem? (i := 138) rfl)
theorem w139 {a0 : Array Value} {Z : State} {EL : List (String × Nat)} (hG : oG a0 Z EL) : ((Jvm.Cond.instanceMethod ({ cls := "java/lang/AbstractStringBuilder", name := "getValue", desc := "()[B" } : Jvm.MethodName))).before a0 Z = true := hG.1 _ (List.mem_of_getElem? (i := 139) rfl)
theorem w140 {a0 : Array Value} {Z : State} {EL : List (String × Nat)} (hG : oG a0 Z EL) : ((Jvm.Cond.selects "java/lang/StringBuilder" ({ cls := "java/lang/AbstractStringBuilder", name := "getValue", desc := "()[B" } : Jvm.MethodName) ({ cls := "java/lang/AbstractStringBuilder", name := "getValue", desc := "()[B" } : Jvm.MethodName))).before a0 Z = true := hG.1 _ (List.mem_of_getElem? (i := 140) rfl)
theorem w141 {a0 : Array Value} {Z : State} {EL : List (String × Nat)} (hG : oG a0 Z EL) : ((Jvm.Cond.code ({ cls := "java/lang/AbstractStringBuilder", name := "getValue", desc := "()[B" } : Jvm.MethodName) jdk_68_method_64_code (1 : Nat) (Option.some (Jvm.ClassFile.FieldType.array Jvm.ClassFile.FieldType.byte)))).before a0 Z = true := hG.1 _ (List.mem_of_getElem? (i := 141) rfl)
theorem w142 {a0 : Array Value} {Z : State} {EL : List (String × Nat)} (hG : oG a0 Z EL) : ((Jvm.Cond.methodLink "java/lang/String" (549 : Nat) ({ cls := "java/lang/AbstractStringBuilder", name := "length", desc := "()I" } : Jvm.MethodName))).before a0 Z = true := hG.1 _ (List.mem_of_getElem? (i := 142) rfl)
theorem w143 {a0 : Array Value} {Z : State} {EL : List (String × Nat)} (hG : oG a0 Z EL) : ((Jvm.Cond.declares ({ cls := "java/lang/AbstractStringBuilder", name := "length", desc := "()I" } : Jvm.MethodName))).before a0 Z = true := hG.1 _ (List.mem_of_getElem? (i := 143) rfl)
theorem w144 {a0 : Array Value} {Z : State} {EL : List (String × Nat)} (hG : oG a0 Z EL) : ((Jvm.Cond.instanceMethod ({ cls := "java/lang/AbstractStringBuilder", name := "length", desc := "()I" } : Jvm.MethodName))).before a0 Z = true := hG.1 _ (List.mem_of_getElem? (i := 144) rfl)
theorem w145 {a0 : Array Value} {Z : State} {EL : List (String × Nat)} (hG : oG a0 Z EL) : ((Jvm.Cond.selects "java/lang/StringBuilder" ({ cls := "java/lang/AbstractStringBuilder", name := "length", desc := "()I" } : Jvm.MethodName) ({ cls := "java/lang/StringBuilder", name := "length", desc := "()I" } : Jvm.MethodName))).before a0 Z = true := hG.1 _ (List.mem_of_getElem? (i := 145) rfl)
theorem w146 {a0 : Array Value} {Z : State} {EL : List (String × Nat)} (hG : oG a0 Z EL) : ((Jvm.Cond.instanceMethod ({ cls := "java/lang/StringBuilder", name := "length", desc := "()I" } : Jvm.MethodName))).before a0 Z = true := hG.1 _ (List.mem_of_getElem? (i := 146) rfl)
theorem w147 {a0 : Array Value} {Z : State} {EL : List (String × Nat)} (hG : oG a0 Z EL) : ((Jvm.Cond.code ({ cls := "java/lang/StringBuilder", name := "length", desc := "()I" } : Jvm.MethodName) jdk_67_method_93_code (1 : Nat) (Option.some Jvm.ClassFile.FieldType.int))).before a0 Z = true := hG.1 _ (List.mem_of_getElem? (i := 147) rfl)
theorem w148 {a0 : Array Value} {Z : State} {EL : List (String × Nat)} (hG : oG a0 Z EL) : ((Jvm.Cond.methodLink "java/lang/StringBuilder" (343 : Nat) ({ cls := "java/lang/AbstractStringBuilder", name := "length", desc := "()I" } : Jvm.MethodName))).before a0 Z = true := hG.1 _ (List.mem_of_getElem? (i := 148) rfl)
theorem w149 {a0 : Array Value} {Z : State} {EL : List (String × Nat)} (hG : oG a0 Z EL) : ((Jvm.Cond.code ({ cls := "java/lang/AbstractStringBuilder", name := "length", desc := "()I" } : Jvm.MethodName) jdk_68_method_6_code (1 : Nat) (Option.some Jvm.ClassFile.FieldType.int))).before a0 Z = true := hG.1 _ (List.mem_of_getElem? (i := 149) rfl)
theorem w150 {a0 : Array Value} {Z : State} {EL : List (String × Nat)} (hG : oG a0 Z EL) : ((Jvm.Cond.methodLink "java/lang/String" (1047 : Nat) ({ cls := "java/lang/AbstractStringBuilder", name := "isLatin1", desc := "()Z" } : Jvm.MethodName))).before a0 Z = true := hG.1 _ (List.mem_of_getElem? (i := 150) rfl)
theorem w151 {a0 : Array Value} {Z : State} {EL : List (String × Nat)} (hG : oG a0 Z EL) : ((Jvm.Cond.declares ({ cls := "java/lang/AbstractStringBuilder", name := "isLatin1", desc := "()Z" } : Jvm.MethodName))).before a0 Z = true := hG.1 _ (List.mem_of_getElem? (i := 151) rfl)
theorem w152 {a0 : Array Value} {Z : State} {EL : List (String × Nat)} (hG : oG a0 Z EL) : ((Jvm.Cond.instanceMethod ({ cls := "java/lang/AbstractStringBuilder", name := "isLatin1", desc := "()Z" } : Jvm.MethodName))).before a0 Z = true := hG.1 _ (List.mem_of_getElem? (i := 152) rfl)
theorem w153 {a0 : Array Value} {Z : State} {EL : List (String × Nat)} (hG : oG a0 Z EL) : ((Jvm.Cond.selects "java/lang/StringBuilder" ({ cls := "java/lang/AbstractStringBuilder", name := "isLatin1", desc := "()Z" } : Jvm.MethodName) ({ cls := "java/lang/AbstractStringBuilder", name := "isLatin1", desc := "()Z" } : Jvm.MethodName))).before a0 Z = true := hG.1 _ (List.mem_of_getElem? (i := 153) rfl)
theorem w154 {a0 : Array Value} {Z : State} {EL : List (String × Nat)} (hG : oG a0 Z EL) : ((Jvm.Cond.code ({ cls := "java/lang/AbstractStringBuilder", name := "isLatin1", desc := "()Z" } : Jvm.MethodName) jdk_68_method_68_code (1 : Nat) (Option.some Jvm.ClassFile.FieldType.boolean))).before a0 Z = true := hG.1 _ (List.mem_of_getElem? (i := 154) rfl)
theorem w155 {a0 : Array Value} {Z : State} {EL : List (String × Nat)} (hG : oG a0 Z EL) : ((Jvm.Cond.methodLink "java/lang/String" (54 : Nat) ({ cls := "java/util/Arrays", name := "copyOfRange", desc := "([BII)[B" } : Jvm.MethodName))).before a0 Z = true := hG.1 _ (List.mem_of_getElem? (i := 155) rfl)
theorem w156 {a0 : Array Value} {Z : State} {EL : List (String × Nat)} (hG : oG a0 Z EL) : ((Jvm.Cond.static ({ cls := "java/util/Arrays", name := "copyOfRange", desc := "([BII)[B" } : Jvm.MethodName))).before a0 Z = true := hG.1 _ (List.mem_of_getElem? (i := 156) rfl)
theorem w157 {a0 : Array Value} {Z : State} {EL : List (String × Nat)} (hG : oG a0 Z EL) : ((Jvm.Cond.initialized "java/util/Arrays")).before a0 Z = true := hG.1 _ (List.mem_of_getElem? (i := 157) rfl)
theorem w158 {a0 : Array Value} {Z : State} {EL : List (String × Nat)} (hG : oG a0 Z EL) : ((Jvm.Cond.code ({ cls := "java/util/Arrays", name := "copyOfRange", desc := "([BII)[B" } : Jvm.MethodName) jdk_65_method_132_code (3 : Nat) (Option.some (Jvm.ClassFile.FieldType.array Jvm.ClassFile.FieldType.byte)))).before a0 Z = true := hG.1 _ (List.mem_of_getElem? (i := 158) rfl)
theorem w159 {a0 : Array Value} {Z : State} {EL : List (String × Nat)} (hG : oG a0 Z EL) : ((Jvm.Cond.methodLink "java/util/Arrays" (339 : Nat) ({ cls := "java/util/Arrays", name := "copyOfRangeByte", desc := "([BII)[B" } : Jvm.MethodName))).before a0 Z = true := hG.1 _ (List.mem_of_getElem? (i := 159) rfl)
theorem w160 {a0 : Array Value} {Z : State} {EL : List (String × Nat)} (hG : oG a0 Z EL) : ((Jvm.Cond.static ({ cls := "java/util/Arrays", name := "copyOfRangeByte", desc := "([BII)[B" } : Jvm.MethodName))).before a0 Z = true := hG.1 _ (List.mem_of_getElem? (i := 160) rfl)
theorem w161 {a0 : Array Value} {Z : State} {EL : List (String × Nat)} (hG : oG a0 Z EL) : ((Jvm.Cond.code ({ cls := "java/util/Arrays", name := "copyOfRangeByte", desc := "([BII)[B" } : Jvm.MethodName) jdk_65_method_133_code (5 : Nat) (Option.some (Jvm.ClassFile.FieldType.array Jvm.ClassFile.FieldType.byte)))).before a0 Z = true := hG.1 _ (List.mem_of_getElem? (i := 161) rfl)
theorem w162 {a0 : Array Value} {Z : State} {EL : List (String × Nat)} (hG : oG a0 Z EL) : ((Jvm.Cond.methodLink "java/util/Arrays" (343 : Nat) ({ cls := "java/util/Arrays", name := "checkLength", desc := "(II)V" } : Jvm.MethodName))).before a0 Z = true := hG.1 _ (List.mem_of_getElem? (i := 162) rfl)
theorem w163 {a0 : Array Value} {Z : State} {EL : List (String × Nat)} (hG : oG a0 Z EL) : ((Jvm.Cond.static ({ cls := "java/util/Arrays", name := "checkLength", desc := "(II)V" } : Jvm.MethodName))).before a0 Z = true := hG.1 _ (List.mem_of_getElem? (i := 163) rfl)
theorem w164 {a0 : Array Value} {Z : State} {EL : List (String × Nat)} (hG : oG a0 Z EL) : ((Jvm.Cond.code ({ cls := "java/util/Arrays", name := "checkLength", desc := "(II)V" } : Jvm.MethodName) jdk_65_method_131_code (2 : Nat) (Option.none : Option Jvm.ClassFile.FieldType))).before a0 Z = true := hG.1 _ (List.mem_of_getElem? (i := 164) rfl)
theorem w165 {a0 : Array Value} {Z : State} {EL : List (String × Nat)} (hG : oG a0 Z EL) : ((Jvm.Cond.methodLink "java/util/Arrays" (304 : Nat) ({ cls := "java/lang/Math", name := "min", desc := "(II)I" } : Jvm.MethodName))).before a0 Z = true := hG.1 _ (List.mem_of_getElem? (i := 165) rfl)
theorem w166 {a0 : Array Value} {Z : State} {EL : List (String × Nat)} (hG : oG a0 Z EL) : ((Jvm.Cond.static ({ cls := "java/lang/Math", name := "min", desc := "(II)I" } : Jvm.MethodName))).before a0 Z = true := hG.1 _ (List.mem_of_getElem? (i := 166) rfl)
theorem w167 {a0 : Array Value} {Z : State} {EL : List (String × Nat)} (hG : oG a0 Z EL) : ((Jvm.Cond.initialized "java/lang/Math")).before a0 Z = true := hG.1 _ (List.mem_of_getElem? (i := 167) rfl)
theorem w168 {a0 : Array Value} {Z : State} {EL : List (String × Nat)} (hG : oG a0 Z EL) : ((Jvm.Cond.code ({ cls := "java/lang/Math", name := "min", desc := "(II)I" } : Jvm.MethodName) jdk_29_method_69_code (2 : Nat) (Option.some Jvm.ClassFile.FieldType.int))).before a0 Z = true := hG.1 _ (List.mem_of_getElem? (i := 168) rfl)
theorem w169 {a0 : Array Value} {Z : State} {EL : List (String × Nat)} (hG : oG a0 Z EL) : ((Jvm.Cond.methodLink "java/util/Arrays" (150 : Nat) ({ cls := "java/lang/System", name := "arraycopy", desc := "(Ljava/lang/Object;ILjava/lang/Object;II)V" } : Jvm.MethodName))).before a0 Z = true := hG.1 _ (List.mem_of_getElem? (i := 169) rfl)
theorem w170 {a0 : Array Value} {Z : State} {EL : List (String × Nat)} (hG : oG a0 Z EL) : ((Jvm.Cond.stringLink "com/example/orderly_settings/orderlysettings/BindingProblem" (46 : Nat) ": ")).before a0 Z = true := hG.1 _ (List.mem_of_getElem? (i := 170) rfl)
theorem w171 {a0 : Array Value} {Z : State} {EL : List (String × Nat)} (hG : oG a0 Z EL) : ((Jvm.Cond.methodLink "com/example/orderly_settings/orderlysettings/BindingProblemToStringPinLaw" (23 : Nat) ({ cls := "java/lang/String", name := "equals", desc := "(Ljava/lang/Object;)Z" } : Jvm.MethodName))).before a0 Z = true := hG.1 _ (List.mem_of_getElem? (i := 171) rfl)
theorem w172 {a0 : Array Value} {Z : State} {EL : List (String × Nat)} (hG : oG a0 Z EL) : ((Jvm.Cond.declares ({ cls := "java/lang/String", name := "equals", desc := "(Ljava/lang/Object;)Z" } : Jvm.MethodName))).before a0 Z = true := hG.1 _ (List.mem_of_getElem? (i := 172) rfl)
theorem w173 {a0 : Array Value} {Z : State} {EL : List (String × Nat)} (hG : oG a0 Z EL) : ((Jvm.Cond.instanceMethod ({ cls := "java/lang/String", name := "equals", desc := "(Ljava/lang/Object;)Z" } : Jvm.MethodName))).before a0 Z = true := hG.1 _ (List.mem_of_getElem? (i := 173) rfl)
theorem w174 {a0 : Array Value} {Z : State} {EL : List (String × Nat)} (hG : oG a0 Z EL) : ((Jvm.Cond.selects "java/lang/String" ({ cls := "java/lang/String", name := "equals", desc := "(Ljava/lang/Object;)Z" } : Jvm.MethodName) ({ cls := "java/lang/String", name := "equals", desc := "(Ljava/lang/Object;)Z" } : Jvm.MethodName))).before a0 Z = true := hG.1 _ (List.mem_of_getElem? (i := 174) rfl)
theorem w175 {a0 : Array Value} {Z : State} {EL : List (String × Nat)} (hG : oG a0 Z EL) : ((Jvm.Cond.code ({ cls := "java/lang/String", name := "equals", desc := "(Ljava/lang/Object;)Z" } : Jvm.MethodName) jdk_42_method_66_code (3 : Nat) (Option.some Jvm.ClassFile.FieldType.boolean))).before a0 Z = true := hG.1 _ (List.mem_of_getElem? (i := 175) rfl)
theorem w176 {a0 : Array Value} {Z : State} {EL : List (String × Nat)} (hG : oG a0 Z EL) : ((Jvm.Cond.classLink "java/lang/String" (10 : Nat) "java/lang/String")).before a0 Z = true := hG.1 _ (List.mem_of_getElem? (i := 176) rfl)
theorem w177 {a0 : Array Value} {Z : State} {EL : List (String × Nat)} (hG : oG a0 Z EL) : ((Jvm.Cond.methodLink "java/lang/String" (541 : Nat) ({ cls := "java/lang/StringLatin1", name := "equals", desc := "([B[B)Z" } : Jvm.MethodName))).before a0 Z = true := hG.1 _ (List.mem_of_getElem? (i := 177) rfl)
theorem w178 {a0 : Array Value} {Z : State} {EL : List (String × Nat)} (hG : oG a0 Z EL) : ((Jvm.Cond.static ({ cls := "java/lang/StringLatin1", name := "equals", desc := "([B[B)Z" } : Jvm.MethodName))).before a0 Z = true := hG.1 _ (List.mem_of_getElem? (i := 178) rfl)
theorem w179 {a0 : Array Value} {Z : State} {EL : List (String × Nat)} (hG : oG a0 Z EL) : ((Jvm.Cond.initialized "java/lang/StringLatin1")).before a0 Z = true := hG.1 _ (List.mem_of_getElem? (i := 179) rfl)
theorem w180 {a0 : Array Value} {Z : State} {EL : List (String × Nat)} (hG : oG a0 Z EL) : ((Jvm.Cond.code ({ cls := "java/lang/StringLatin1", name := "equals", desc := "([B[B)Z" } : Jvm.MethodName) jdk_43_method_13_code (3 : Nat) (Option.some Jvm.ClassFile.FieldType.boolean))).before a0 Z = true := hG.1 _ (List.mem_of_getElem? (i := 180) rfl)
theorem w181 {a0 : Array Value} {Z : State} {EL : List (String × Nat)} (hG : oG a0 Z EL) : ((Jvm.Cond.stringLink "com/example/orderly_settings/orderlysettings/BindingProblem" (29 : Nat) " (no value)")).before a0 Z = true := hG.1 _ (List.mem_of_getElem? (i := 181) rfl)
theorem w182 {a0 : Array Value} {Z : State} {EL : List (String × Nat)} (hG : oG a0 Z EL) : ((Jvm.Cond.methodLink "java/lang/AbstractStringBuilder" (104 : Nat) ({ cls := "java/lang/AbstractStringBuilder", name := "newCapacity", desc := "(I)I" } : Jvm.MethodName))).before a0 Z = true := hG.1 _ (List.mem_of_getElem? (i := 182) rfl)
theorem w183 {a0 : Array Value} {Z : State} {EL : List (String × Nat)} (hG : oG a0 Z EL) : ((Jvm.Cond.instanceMethod ({ cls := "java/lang/AbstractStringBuilder", name := "newCapacity", desc := "(I)I" } : Jvm.MethodName))).before a0 Z = true := hG.1 _ (List.mem_of_getElem? (i := 183) rfl)
theorem w184 {a0 : Array Value} {Z : State} {EL : List (String × Nat)} (hG : oG a0 Z EL) : ((Jvm.Cond.privateMethod ({ cls := "java/lang/AbstractStringBuilder", name := "newCapacity", desc := "(I)I" } : Jvm.MethodName))).before a0 Z = true := hG.1 _ (List.mem_of_getElem? (i := 184) rfl)
theorem w185 {a0 : Array Value} {Z : State} {EL : List (String × Nat)} (hG : oG a0 Z EL) : ((Jvm.Cond.selects "java/lang/StringBuilder" ({ cls := "java/lang/AbstractStringBuilder", name := "newCapacity", desc := "(I)I" } : Jvm.MethodName) ({ cls := "java/lang/AbstractStringBuilder", name := "newCapacity", desc := "(I)I" } : Jvm.MethodName))).before a0 Z = true := hG.1 _ (List.mem_of_getElem? (i := 185) rfl)
theorem w186 {a0 : Array Value} {Z : State} {EL : List (String × Nat)} (hG : oG a0 Z EL) : ((Jvm.Cond.code ({ cls := "java/lang/AbstractStringBuilder", name := "newCapacity", desc := "(I)I" } : Jvm.MethodName) jdk_68_method_10_code (6 : Nat) (Option.some Jvm.ClassFile.FieldType.int))).before a0 Z = true := hG.1 _ (List.mem_of_getElem? (i := 186) rfl)
theorem w187 {a0 : Array Value} {Z : State} {EL : List (String × Nat)} (hG : oG a0 Z EL) : ((Jvm.Cond.methodLink "java/lang/AbstractStringBuilder" (114 : Nat) ({ cls := "jdk/internal/util/ArraysSupport", name := "newLength", desc := "(III)I" } : Jvm.MethodName))).before a0 Z = true := hG.1 _ (List.mem_of_getElem? (i := 187) rfl)
theorem w188 {a0 : Array Value} {Z : State} {EL : List (String × Nat)} (hG : oG a0 Z EL) : ((Jvm.Cond.static ({ cls := "jdk/internal/util/ArraysSupport", name := "newLength", desc := "(III)I" } : Jvm.MethodName))).before a0 Z = true := hG.1 _ (List.mem_of_getElem? (i := 188) rfl)
theorem w189 {a0 : Array Value} {Z : State} {EL : List (String × Nat)} (hG : oG a0 Z EL) : ((Jvm.Cond.initialized "jdk/internal/util/ArraysSupport")).before a0 Z = true := hG.1 _ (List.mem_of_getElem? (i := 189) rfl)
theorem w190 {a0 : Array Value} {Z : State} {EL : List (String × Nat)} (hG : oG a0 Z EL) : ((Jvm.Cond.code ({ cls := "jdk/internal/util/ArraysSupport", name := "newLength", desc := "(III)I" } : Jvm.MethodName) jdk_48_method_27_code (4 : Nat) (Option.some Jvm.ClassFile.FieldType.int))).before a0 Z = true := hG.1 _ (List.mem_of_getElem? (i := 190) rfl)
theorem w191 {a0 : Array Value} {Z : State} {EL : List (String × Nat)} (hG : oG a0 Z EL) : ((Jvm.Cond.methodLink "jdk/internal/util/ArraysSupport" (194 : Nat) ({ cls := "java/lang/Math", name := "max", desc := "(II)I" } : Jvm.MethodName))).before a0 Z = true := hG.1 _ (List.mem_of_getElem? (i := 191) rfl)
theorem w192 {a0 : Array Value} {Z : State} {EL : List (String × Nat)} (hG : oG a0 Z EL) : ((Jvm.Cond.static ({ cls := "java/lang/Math", name := "max", desc := "(II)I" } : Jvm.MethodName))).before a0 Z = true := hG.1 _ (List.mem_of_getElem? (i := 192) rfl)
theorem w193 {a0 : Array Value} {Z : State} {EL : List (String × Nat)} (hG : oG a0 Z EL) : ((Jvm.Cond.code ({ cls := "java/lang/Math", name := "max", desc := "(II)I" } : Jvm.MethodName) jdk_29_method_65_code (2 : Nat) (Option.some Jvm.ClassFile.FieldType.int))).before a0 Z = true := hG.1 _ (List.mem_of_getElem? (i := 193) rfl)
theorem w194 {a0 : Array Value} {Z : State} {EL : List (String × Nat)} (hG : oG a0 Z EL) : ((Jvm.Cond.constant "jdk/internal/util/ArraysSupport" (200 : Nat) (2147483639 : Int32))).before a0 Z = true := hG.1 _ (List.mem_of_getElem? (i := 194) rfl)
theorem w195 {a0 : Array Value} {Z : State} {EL : List (String × Nat)} (hG : oG a0 Z EL) : ((Jvm.Cond.constant "java/lang/AbstractStringBuilder" (39 : Nat) (2147483647 : Int32))).before a0 Z = true := hG.1 _ (List.mem_of_getElem? (i := 195) rfl)
theorem w196 {a0 : Array Value} {Z : State} {EL : List (String × Nat)} (hG : oG a0 Z EL) : ((Jvm.Cond.methodLink "java/lang/AbstractStringBuilder" (108 : Nat) ({ cls := "java/util/Arrays", name := "copyOf", desc := "([BI)[B" } : Jvm.MethodName))).before a0 Z = true := hG.1 _ (List.mem_of_getElem? (i := 196) rfl)
theorem w197 {a0 : Array Value} {Z : State} {EL : List (String × Nat)} (hG : oG a0 Z EL) : ((Jvm.Cond.static ({ cls := "java/util/Arrays", name := "copyOf", desc := "([BI)[B" } : Jvm.MethodName))).before a0 Z = true := hG.1 _ (List.mem_of_getElem? (i := 197) rfl)
theorem w198 {a0 : Array Value} {Z : State} {EL : List (String × Nat)} (hG : oG a0 Z EL) : ((Jvm.Cond.code ({ cls := "java/util/Arrays", name := "copyOf", desc := "([BI)[B" } : Jvm.MethodName) jdk_65_method_121_code (3 : Nat) (Option.some (Jvm.ClassFile.FieldType.array Jvm.ClassFile.FieldType.byte)))).before a0 Z = true := hG.1 _ (List.mem_of_getElem? (i := 198) rfl)
theorem strAt {a0 : Array Value} {Z : State} {EL : List (String × Nat)} (hG : oG a0 Z EL) : ∀ a ∈ Bundle.stringAtoms, a.before a0 Z = true := by
  intro a ha
  simp only [Bundle.stringAtoms, Bundle.sN, List.mem_cons, List.not_mem_nil, or_false] at ha
  rcases ha with rfl | rfl | rfl | rfl | rfl | rfl | rfl
  · exact w2 hG
  · exact w1 hG
  · exact w19 hG
  · exact w29 hG
  · exact w27 hG
  · exact w31 hG
  · exact w32 hG
theorem d1_0 : decode jdk_42_method_3_code 0 = .ok (.aload_n 0, 1) := by decide +kernel
theorem d1_1 : decode jdk_42_method_3_code 1 = .ok (.aload_n 1, 1) := by decide +kernel
theorem d1_2 : decode jdk_42_method_3_code 2 = .ok (.iconst 0, 1) := by decide +kernel
theorem d1_3 : decode jdk_42_method_3_code 3 = .ok (.aload_n 1, 1) := by decide +kernel
theorem d1_4 : decode jdk_42_method_3_code 4 = .ok (.arraylength, 1) := by decide +kernel
theorem d1_5 : decode jdk_42_method_3_code 5 = .ok (.aconst_null, 1) := by decide +kernel
theorem d1_6 : decode jdk_42_method_3_code 6 = .ok (.invokespecial 27, 3) := by decide +kernel
theorem d1_9 : decode jdk_42_method_3_code 9 = .ok (.return_, 1) := by decide +kernel
theorem d2_0 : decode jdk_42_method_149_code 0 = .ok (.aload_n 0, 1) := by decide +kernel
theorem d2_1 : decode jdk_42_method_149_code 1 = .ok (.invokespecial 1, 3) := by decide +kernel
theorem d2_4 : decode jdk_42_method_149_code 4 = .ok (.iload_n 3, 1) := by decide +kernel
theorem d2_5 : decode jdk_42_method_149_code 5 = .ok (.ifCond .ne 22, 3) := by decide +kernel
theorem d2_27 : decode jdk_42_method_149_code 27 = .ok (.getstatic 38, 3) := by decide +kernel
theorem d2_30 : decode jdk_42_method_149_code 30 = .ok (.ifCond .eq 28, 3) := by decide +kernel
theorem d2_33 : decode jdk_42_method_149_code 33 = .ok (.aload_n 1, 1) := by decide +kernel
theorem d2_34 : decode jdk_42_method_149_code 34 = .ok (.iload_n 2, 1) := by decide +kernel
theorem d2_35 : decode jdk_42_method_149_code 35 = .ok (.iload_n 3, 1) := by decide +kernel
theorem d2_36 : decode jdk_42_method_149_code 36 = .ok (.invokestatic 177, 3) := by decide +kernel
theorem d2_39 : decode jdk_42_method_149_code 39 = .ok (.astore 5, 2) := by decide +kernel
theorem d2_41 : decode jdk_42_method_149_code 41 = .ok (.aload_n 0, 1) := by decide +kernel
theorem d2_42 : decode jdk_42_method_149_code 42 = .ok (.aload 5, 2) := by decide +kernel
theorem d2_44 : decode jdk_42_method_149_code 44 = .ok (.iload_n 3, 1) := by decide +kernel
theorem d2_45 : decode jdk_42_method_149_code 45 = .ok (.invokestatic 47, 3) := by decide +kernel
theorem d2_48 : decode jdk_42_method_149_code 48 = .ok (.putfield 15, 3) := by decide +kernel
theorem d2_51 : decode jdk_42_method_149_code 51 = .ok (.aload_n 0, 1) := by decide +kernel
theorem d2_52 : decode jdk_42_method_149_code 52 = .ok (.aload 5, 2) := by decide +kernel
theorem d2_54 : decode jdk_42_method_149_code 54 = .ok (.putfield 9, 3) := by decide +kernel
theorem d2_57 : decode jdk_42_method_149_code 57 = .ok (.return_, 1) := by decide +kernel
theorem d4_0 : decode jdk_52_method_16_code 0 = .ok (.iload_n 2, 1) := by decide +kernel
theorem d4_1 : decode jdk_52_method_16_code 1 = .ok (.newarray .byte, 2) := by decide +kernel
theorem d4_3 : decode jdk_52_method_16_code 3 = .ok (.astore_n 3, 1) := by decide +kernel
theorem d4_4 : decode jdk_52_method_16_code 4 = .ok (.aload_n 0, 1) := by decide +kernel
theorem d4_5 : decode jdk_52_method_16_code 5 = .ok (.iload_n 1, 1) := by decide +kernel
theorem d4_6 : decode jdk_52_method_16_code 6 = .ok (.aload_n 3, 1) := by decide +kernel
theorem d4_7 : decode jdk_52_method_16_code 7 = .ok (.iconst 0, 1) := by decide +kernel
theorem d4_8 : decode jdk_52_method_16_code 8 = .ok (.iload_n 2, 1) := by decide +kernel
theorem d4_9 : decode jdk_52_method_16_code 9 = .ok (.invokestatic 115, 3) := by decide +kernel
theorem d4_12 : decode jdk_52_method_16_code 12 = .ok (.istore 4, 2) := by decide +kernel
theorem d4_14 : decode jdk_52_method_16_code 14 = .ok (.iload 4, 2) := by decide +kernel
theorem d4_16 : decode jdk_52_method_16_code 16 = .ok (.iload_n 2, 1) := by decide +kernel
theorem d4_17 : decode jdk_52_method_16_code 17 = .ok (.if_icmp .eq 40, 3) := by decide +kernel
theorem d4_57 : decode jdk_52_method_16_code 57 = .ok (.aload_n 3, 1) := by decide +kernel
theorem d4_58 : decode jdk_52_method_16_code 58 = .ok (.areturn, 1) := by decide +kernel
theorem d5_0 : decode jdk_52_method_21_code 0 = .ok (.iconst 0, 1) := by decide +kernel
theorem d5_1 : decode jdk_52_method_21_code 1 = .ok (.istore 5, 2) := by decide +kernel
theorem d5_3 : decode jdk_52_method_21_code 3 = .ok (.iload 5, 2) := by decide +kernel
theorem d5_5 : decode jdk_52_method_21_code 5 = .ok (.iload 4, 2) := by decide +kernel
theorem d5_7 : decode jdk_52_method_21_code 7 = .ok (.if_icmp .ge 37, 3) := by decide +kernel
theorem d5_10 : decode jdk_52_method_21_code 10 = .ok (.aload_n 0, 1) := by decide +kernel
theorem d5_11 : decode jdk_52_method_21_code 11 = .ok (.iload_n 1, 1) := by decide +kernel
theorem d5_12 : decode jdk_52_method_21_code 12 = .ok (.caload, 1) := by decide +kernel
theorem d5_13 : decode jdk_52_method_21_code 13 = .ok (.istore 6, 2) := by decide +kernel
theorem d5_15 : decode jdk_52_method_21_code 15 = .ok (.iload 6, 2) := by decide +kernel
theorem d5_17 : decode jdk_52_method_21_code 17 = .ok (.sipush 255, 3) := by decide +kernel
theorem d5_20 : decode jdk_52_method_21_code 20 = .ok (.if_icmp .le 6, 3) := by decide +kernel
theorem d5_23 : decode jdk_52_method_21_code 23 = .ok (.iload 5, 2) := by decide +kernel
theorem d5_25 : decode jdk_52_method_21_code 25 = .ok (.ireturn, 1) := by decide +kernel
theorem d5_26 : decode jdk_52_method_21_code 26 = .ok (.aload_n 2, 1) := by decide +kernel
theorem d5_27 : decode jdk_52_method_21_code 27 = .ok (.iload_n 3, 1) := by decide +kernel
theorem d5_28 : decode jdk_52_method_21_code 28 = .ok (.iload 6, 2) := by decide +kernel
theorem d5_30 : decode jdk_52_method_21_code 30 = .ok (.i2b, 1) := by decide +kernel
theorem d5_31 : decode jdk_52_method_21_code 31 = .ok (.bastore, 1) := by decide +kernel
theorem d5_32 : decode jdk_52_method_21_code 32 = .ok (.iinc 1 1, 3) := by decide +kernel
theorem d5_35 : decode jdk_52_method_21_code 35 = .ok (.iinc 3 1, 3) := by decide +kernel
theorem d5_38 : decode jdk_52_method_21_code 38 = .ok (.iinc 5 1, 3) := by decide +kernel
theorem d5_41 : decode jdk_52_method_21_code 41 = .ok (.goto (-38), 3) := by decide +kernel
theorem d5_44 : decode jdk_52_method_21_code 44 = .ok (.iload 4, 2) := by decide +kernel
theorem d5_46 : decode jdk_52_method_21_code 46 = .ok (.ireturn, 1) := by decide +kernel
theorem d6_0 : decode jdk_52_method_15_code 0 = .ok (.iload_n 1, 1) := by decide +kernel
theorem d6_1 : decode jdk_52_method_15_code 1 = .ok (.aload_n 0, 1) := by decide +kernel
theorem d6_2 : decode jdk_52_method_15_code 2 = .ok (.arraylength, 1) := by decide +kernel
theorem d6_3 : decode jdk_52_method_15_code 3 = .ok (.isub, 1) := by decide +kernel
theorem d6_4 : decode jdk_52_method_15_code 4 = .ok (.bipush 31, 2) := by decide +kernel
theorem d6_6 : decode jdk_52_method_15_code 6 = .ok (.iushr, 1) := by decide +kernel
theorem d6_7 : decode jdk_52_method_15_code 7 = .ok (.i2b, 1) := by decide +kernel
theorem d6_8 : decode jdk_52_method_15_code 8 = .ok (.ireturn, 1) := by decide +kernel
theorem d7_0 : decode prog_1_method_1_code 0 = .ok (.aload_n 0, 1) := by decide +kernel
theorem d7_1 : decode prog_1_method_1_code 1 = .ok (.invokespecial 1, 3) := by decide +kernel
theorem d7_4 : decode prog_1_method_1_code 4 = .ok (.aload_n 0, 1) := by decide +kernel
theorem d7_5 : decode prog_1_method_1_code 5 = .ok (.aload_n 1, 1) := by decide +kernel
theorem d7_6 : decode prog_1_method_1_code 6 = .ok (.ldc 7, 2) := by decide +kernel
theorem d7_8 : decode prog_1_method_1_code 8 = .ok (.invokestatic 9, 3) := by decide +kernel
theorem d7_11 : decode prog_1_method_1_code 11 = .ok (.checkcast 15, 3) := by decide +kernel
theorem d7_14 : decode prog_1_method_1_code 14 = .ok (.putfield 17, 3) := by decide +kernel
theorem d7_17 : decode prog_1_method_1_code 17 = .ok (.aload_n 0, 1) := by decide +kernel
theorem d7_18 : decode prog_1_method_1_code 18 = .ok (.aload_n 2, 1) := by decide +kernel
theorem d7_19 : decode prog_1_method_1_code 19 = .ok (.putfield 22, 3) := by decide +kernel
theorem d7_22 : decode prog_1_method_1_code 22 = .ok (.aload_n 0, 1) := by decide +kernel
theorem d7_23 : decode prog_1_method_1_code 23 = .ok (.aload_n 3, 1) := by decide +kernel
theorem d7_24 : decode prog_1_method_1_code 24 = .ok (.ldc 25, 2) := by decide +kernel
theorem d7_26 : decode prog_1_method_1_code 26 = .ok (.invokestatic 9, 3) := by decide +kernel
theorem d7_29 : decode prog_1_method_1_code 29 = .ok (.checkcast 15, 3) := by decide +kernel
theorem d7_32 : decode prog_1_method_1_code 32 = .ok (.putfield 27, 3) := by decide +kernel
theorem d7_35 : decode prog_1_method_1_code 35 = .ok (.return_, 1) := by decide +kernel
theorem d8_0 : decode jdk_31_method_11_code 0 = .ok (.aload_n 0, 1) := by decide +kernel
theorem d8_1 : decode jdk_31_method_11_code 1 = .ok (.ifnonnull 12, 3) := by decide +kernel
theorem d8_13 : decode jdk_31_method_11_code 13 = .ok (.aload_n 0, 1) := by decide +kernel
theorem d8_14 : decode jdk_31_method_11_code 14 = .ok (.areturn, 1) := by decide +kernel
theorem d9_0 : decode prog_1_method_5_code 0 = .ok (.aload_n 0, 1) := by decide +kernel
theorem d9_1 : decode prog_1_method_5_code 1 = .ok (.getfield 22, 3) := by decide +kernel
theorem d9_4 : decode prog_1_method_5_code 4 = .ok (.ifnonnull 8, 3) := by decide +kernel
theorem d9_7 : decode prog_1_method_5_code 7 = .ok (.ldc 29, 2) := by decide +kernel
theorem d9_9 : decode prog_1_method_5_code 9 = .ok (.goto 30, 3) := by decide +kernel
theorem d9_12 : decode prog_1_method_5_code 12 = .ok (.new 31, 3) := by decide +kernel
theorem d9_15 : decode prog_1_method_5_code 15 = .ok (.dup, 1) := by decide +kernel
theorem d9_16 : decode prog_1_method_5_code 16 = .ok (.invokespecial 33, 3) := by decide +kernel
theorem d9_19 : decode prog_1_method_5_code 19 = .ok (.ldc 34, 2) := by decide +kernel
theorem d9_21 : decode prog_1_method_5_code 21 = .ok (.invokevirtual 36, 3) := by decide +kernel
theorem d9_24 : decode prog_1_method_5_code 24 = .ok (.aload_n 0, 1) := by decide +kernel
theorem d9_25 : decode prog_1_method_5_code 25 = .ok (.getfield 22, 3) := by decide +kernel
theorem d9_28 : decode prog_1_method_5_code 28 = .ok (.invokevirtual 36, 3) := by decide +kernel
theorem d9_31 : decode prog_1_method_5_code 31 = .ok (.ldc 40, 2) := by decide +kernel
theorem d9_33 : decode prog_1_method_5_code 33 = .ok (.invokevirtual 36, 3) := by decide +kernel
theorem d9_36 : decode prog_1_method_5_code 36 = .ok (.invokevirtual 42, 3) := by decide +kernel
theorem d9_39 : decode prog_1_method_5_code 39 = .ok (.astore_n 1, 1) := by decide +kernel
theorem d9_40 : decode prog_1_method_5_code 40 = .ok (.new 31, 3) := by decide +kernel
theorem d9_43 : decode prog_1_method_5_code 43 = .ok (.dup, 1) := by decide +kernel
theorem d9_44 : decode prog_1_method_5_code 44 = .ok (.invokespecial 33, 3) := by decide +kernel
theorem d9_47 : decode prog_1_method_5_code 47 = .ok (.aload_n 0, 1) := by decide +kernel
theorem d9_48 : decode prog_1_method_5_code 48 = .ok (.getfield 17, 3) := by decide +kernel
theorem d9_51 : decode prog_1_method_5_code 51 = .ok (.invokevirtual 36, 3) := by decide +kernel
theorem d9_54 : decode prog_1_method_5_code 54 = .ok (.aload_n 1, 1) := by decide +kernel
theorem d9_55 : decode prog_1_method_5_code 55 = .ok (.invokevirtual 36, 3) := by decide +kernel
theorem d9_58 : decode prog_1_method_5_code 58 = .ok (.ldc 46, 2) := by decide +kernel
theorem d9_60 : decode prog_1_method_5_code 60 = .ok (.invokevirtual 36, 3) := by decide +kernel
theorem d9_63 : decode prog_1_method_5_code 63 = .ok (.aload_n 0, 1) := by decide +kernel
theorem d9_64 : decode prog_1_method_5_code 64 = .ok (.getfield 27, 3) := by decide +kernel
theorem d9_67 : decode prog_1_method_5_code 67 = .ok (.invokevirtual 36, 3) := by decide +kernel
theorem d9_70 : decode prog_1_method_5_code 70 = .ok (.invokevirtual 42, 3) := by decide +kernel
theorem d9_73 : decode prog_1_method_5_code 73 = .ok (.areturn, 1) := by decide +kernel
theorem d10_0 : decode jdk_67_method_1_code 0 = .ok (.aload_n 0, 1) := by decide +kernel
theorem d10_1 : decode jdk_67_method_1_code 1 = .ok (.bipush 16, 2) := by decide +kernel
theorem d10_3 : decode jdk_67_method_1_code 3 = .ok (.invokespecial 1, 3) := by decide +kernel
theorem d10_6 : decode jdk_67_method_1_code 6 = .ok (.return_, 1) := by decide +kernel
theorem d11_0 : decode jdk_68_method_2_code 0 = .ok (.aload_n 0, 1) := by decide +kernel
theorem d11_1 : decode jdk_68_method_2_code 1 = .ok (.invokespecial 3, 3) := by decide +kernel
theorem d11_4 : decode jdk_68_method_2_code 4 = .ok (.getstatic 18, 3) := by decide +kernel
theorem d11_7 : decode jdk_68_method_2_code 7 = .ok (.ifCond .eq 18, 3) := by decide +kernel
theorem d11_10 : decode jdk_68_method_2_code 10 = .ok (.aload_n 0, 1) := by decide +kernel
theorem d11_11 : decode jdk_68_method_2_code 11 = .ok (.iload_n 1, 1) := by decide +kernel
theorem d11_12 : decode jdk_68_method_2_code 12 = .ok (.newarray .byte, 2) := by decide +kernel
theorem d11_14 : decode jdk_68_method_2_code 14 = .ok (.putfield 15, 3) := by decide +kernel
theorem d11_17 : decode jdk_68_method_2_code 17 = .ok (.aload_n 0, 1) := by decide +kernel
theorem d11_18 : decode jdk_68_method_2_code 18 = .ok (.iconst 0, 1) := by decide +kernel
theorem d11_19 : decode jdk_68_method_2_code 19 = .ok (.putfield 22, 3) := by decide +kernel
theorem d11_22 : decode jdk_68_method_2_code 22 = .ok (.goto 16, 3) := by decide +kernel
theorem d11_38 : decode jdk_68_method_2_code 38 = .ok (.return_, 1) := by decide +kernel
theorem d12_0 : decode jdk_67_method_7_code 0 = .ok (.aload_n 0, 1) := by decide +kernel
theorem d12_1 : decode jdk_67_method_7_code 1 = .ok (.aload_n 1, 1) := by decide +kernel
theorem d12_2 : decode jdk_67_method_7_code 2 = .ok (.invokespecial 29, 3) := by decide +kernel
theorem d12_5 : decode jdk_67_method_7_code 5 = .ok (.pop, 1) := by decide +kernel
theorem d12_6 : decode jdk_67_method_7_code 6 = .ok (.aload_n 0, 1) := by decide +kernel
theorem d12_7 : decode jdk_67_method_7_code 7 = .ok (.areturn, 1) := by decide +kernel
theorem d13_0 : decode jdk_68_method_22_code 0 = .ok (.aload_n 1, 1) := by decide +kernel
theorem d13_1 : decode jdk_68_method_22_code 1 = .ok (.ifnonnull 8, 3) := by decide +kernel
theorem d13_9 : decode jdk_68_method_22_code 9 = .ok (.aload_n 1, 1) := by decide +kernel
theorem d13_10 : decode jdk_68_method_22_code 10 = .ok (.invokevirtual 32, 3) := by decide +kernel
theorem d13_13 : decode jdk_68_method_22_code 13 = .ok (.istore_n 2, 1) := by decide +kernel
theorem d13_14 : decode jdk_68_method_22_code 14 = .ok (.aload_n 0, 1) := by decide +kernel
theorem d13_15 : decode jdk_68_method_22_code 15 = .ok (.aload_n 0, 1) := by decide +kernel
theorem d13_16 : decode jdk_68_method_22_code 16 = .ok (.getfield 79, 3) := by decide +kernel
theorem d13_19 : decode jdk_68_method_22_code 19 = .ok (.iload_n 2, 1) := by decide +kernel
theorem d13_20 : decode jdk_68_method_22_code 20 = .ok (.iadd, 1) := by decide +kernel
theorem d13_21 : decode jdk_68_method_22_code 21 = .ok (.invokevirtual 100, 3) := by decide +kernel
theorem d13_24 : decode jdk_68_method_22_code 24 = .ok (.aload_n 0, 1) := by decide +kernel
theorem d13_25 : decode jdk_68_method_22_code 25 = .ok (.aload_n 0, 1) := by decide +kernel
theorem d13_26 : decode jdk_68_method_22_code 26 = .ok (.getfield 79, 3) := by decide +kernel
theorem d13_29 : decode jdk_68_method_22_code 29 = .ok (.aload_n 1, 1) := by decide +kernel
theorem d13_30 : decode jdk_68_method_22_code 30 = .ok (.invokevirtual 208, 3) := by decide +kernel
theorem d13_33 : decode jdk_68_method_22_code 33 = .ok (.aload_n 0, 1) := by decide +kernel
theorem d13_34 : decode jdk_68_method_22_code 34 = .ok (.dup, 1) := by decide +kernel
theorem d13_35 : decode jdk_68_method_22_code 35 = .ok (.getfield 79, 3) := by decide +kernel
theorem d13_38 : decode jdk_68_method_22_code 38 = .ok (.iload_n 2, 1) := by decide +kernel
theorem d13_39 : decode jdk_68_method_22_code 39 = .ok (.iadd, 1) := by decide +kernel
theorem d13_40 : decode jdk_68_method_22_code 40 = .ok (.putfield 79, 3) := by decide +kernel
theorem d13_43 : decode jdk_68_method_22_code 43 = .ok (.aload_n 0, 1) := by decide +kernel
theorem d13_44 : decode jdk_68_method_22_code 44 = .ok (.areturn, 1) := by decide +kernel
theorem d14_0 : decode jdk_42_method_54_code 0 = .ok (.aload_n 0, 1) := by decide +kernel
theorem d14_1 : decode jdk_42_method_54_code 1 = .ok (.getfield 9, 3) := by decide +kernel
theorem d14_4 : decode jdk_42_method_54_code 4 = .ok (.arraylength, 1) := by decide +kernel
theorem d14_5 : decode jdk_42_method_54_code 5 = .ok (.aload_n 0, 1) := by decide +kernel
theorem d14_6 : decode jdk_42_method_54_code 6 = .ok (.invokevirtual 335, 3) := by decide +kernel
theorem d14_9 : decode jdk_42_method_54_code 9 = .ok (.ishr, 1) := by decide +kernel
theorem d14_10 : decode jdk_42_method_54_code 10 = .ok (.ireturn, 1) := by decide +kernel
theorem d15_0 : decode jdk_42_method_152_code 0 = .ok (.getstatic 38, 3) := by decide +kernel
theorem d15_3 : decode jdk_42_method_152_code 3 = .ok (.ifCond .eq 10, 3) := by decide +kernel
theorem d15_6 : decode jdk_42_method_152_code 6 = .ok (.aload_n 0, 1) := by decide +kernel
theorem d15_7 : decode jdk_42_method_152_code 7 = .ok (.getfield 15, 3) := by decide +kernel
theorem d15_10 : decode jdk_42_method_152_code 10 = .ok (.goto 4, 3) := by decide +kernel
theorem d15_14 : decode jdk_42_method_152_code 14 = .ok (.ireturn, 1) := by decide +kernel
theorem d16_0 : decode jdk_68_method_9_code 0 = .ok (.aload_n 0, 1) := by decide +kernel
theorem d16_1 : decode jdk_68_method_9_code 1 = .ok (.getfield 15, 3) := by decide +kernel
theorem d16_4 : decode jdk_68_method_9_code 4 = .ok (.arraylength, 1) := by decide +kernel
theorem d16_5 : decode jdk_68_method_9_code 5 = .ok (.aload_n 0, 1) := by decide +kernel
theorem d16_6 : decode jdk_68_method_9_code 6 = .ok (.getfield 22, 3) := by decide +kernel
theorem d16_9 : decode jdk_68_method_9_code 9 = .ok (.ishr, 1) := by decide +kernel
theorem d16_10 : decode jdk_68_method_9_code 10 = .ok (.istore_n 2, 1) := by decide +kernel
theorem d16_11 : decode jdk_68_method_9_code 11 = .ok (.iload_n 1, 1) := by decide +kernel
theorem d16_12 : decode jdk_68_method_9_code 12 = .ok (.iload_n 2, 1) := by decide +kernel
theorem d16_13 : decode jdk_68_method_9_code 13 = .ok (.isub, 1) := by decide +kernel
theorem d16_14 : decode jdk_68_method_9_code 14 = .ok (.ifCond .le 24, 3) := by decide +kernel
theorem d16_17 : decode jdk_68_method_9_code 17 = .ok (.aload_n 0, 1) := by decide +kernel
theorem d16_18 : decode jdk_68_method_9_code 18 = .ok (.aload_n 0, 1) := by decide +kernel
theorem d16_19 : decode jdk_68_method_9_code 19 = .ok (.getfield 15, 3) := by decide +kernel
theorem d16_22 : decode jdk_68_method_9_code 22 = .ok (.aload_n 0, 1) := by decide +kernel
theorem d16_23 : decode jdk_68_method_9_code 23 = .ok (.iload_n 1, 1) := by decide +kernel
theorem d16_24 : decode jdk_68_method_9_code 24 = .ok (.invokevirtual 104, 3) := by decide +kernel
theorem d16_27 : decode jdk_68_method_9_code 27 = .ok (.aload_n 0, 1) := by decide +kernel
theorem d16_28 : decode jdk_68_method_9_code 28 = .ok (.getfield 22, 3) := by decide +kernel
theorem d16_31 : decode jdk_68_method_9_code 31 = .ok (.ishl, 1) := by decide +kernel
theorem d16_32 : decode jdk_68_method_9_code 32 = .ok (.invokestatic 108, 3) := by decide +kernel
theorem d16_35 : decode jdk_68_method_9_code 35 = .ok (.putfield 15, 3) := by decide +kernel
theorem d16_38 : decode jdk_68_method_9_code 38 = .ok (.return_, 1) := by decide +kernel
theorem d17_0 : decode jdk_68_method_73_code 0 = .ok (.aload_n 0, 1) := by decide +kernel
theorem d17_1 : decode jdk_68_method_73_code 1 = .ok (.aload_n 2, 1) := by decide +kernel
theorem d17_2 : decode jdk_68_method_73_code 2 = .ok (.invokevirtual 397, 3) := by decide +kernel
theorem d17_5 : decode jdk_68_method_73_code 5 = .ok (.aload_n 2, 1) := by decide +kernel
theorem d17_6 : decode jdk_68_method_73_code 6 = .ok (.aload_n 0, 1) := by decide +kernel
theorem d17_7 : decode jdk_68_method_73_code 7 = .ok (.getfield 15, 3) := by decide +kernel
theorem d17_10 : decode jdk_68_method_73_code 10 = .ok (.iload_n 1, 1) := by decide +kernel
theorem d17_11 : decode jdk_68_method_73_code 11 = .ok (.aload_n 0, 1) := by decide +kernel
theorem d17_12 : decode jdk_68_method_73_code 12 = .ok (.getfield 22, 3) := by decide +kernel
theorem d17_15 : decode jdk_68_method_73_code 15 = .ok (.invokevirtual 399, 3) := by decide +kernel
theorem d17_18 : decode jdk_68_method_73_code 18 = .ok (.return_, 1) := by decide +kernel
theorem d18_0 : decode jdk_68_method_71_code 0 = .ok (.getstatic 18, 3) := by decide +kernel
theorem d18_3 : decode jdk_68_method_71_code 3 = .ok (.ifCond .eq 18, 3) := by decide +kernel
theorem d18_6 : decode jdk_68_method_71_code 6 = .ok (.aload_n 0, 1) := by decide +kernel
theorem d18_7 : decode jdk_68_method_71_code 7 = .ok (.getfield 22, 3) := by decide +kernel
theorem d18_10 : decode jdk_68_method_71_code 10 = .ok (.aload_n 1, 1) := by decide +kernel
theorem d18_11 : decode jdk_68_method_71_code 11 = .ok (.invokevirtual 40, 3) := by decide +kernel
theorem d18_14 : decode jdk_68_method_71_code 14 = .ok (.if_icmp .eq 7, 3) := by decide +kernel
theorem d18_21 : decode jdk_68_method_71_code 21 = .ok (.return_, 1) := by decide +kernel
theorem d19_0 : decode jdk_42_method_147_code 0 = .ok (.aload_n 0, 1) := by decide +kernel
theorem d19_1 : decode jdk_42_method_147_code 1 = .ok (.invokevirtual 335, 3) := by decide +kernel
theorem d19_4 : decode jdk_42_method_147_code 4 = .ok (.iload_n 3, 1) := by decide +kernel
theorem d19_5 : decode jdk_42_method_147_code 5 = .ok (.if_icmp .ne 23, 3) := by decide +kernel
theorem d19_8 : decode jdk_42_method_147_code 8 = .ok (.aload_n 0, 1) := by decide +kernel
theorem d19_9 : decode jdk_42_method_147_code 9 = .ok (.getfield 9, 3) := by decide +kernel
theorem d19_12 : decode jdk_42_method_147_code 12 = .ok (.iconst 0, 1) := by decide +kernel
theorem d19_13 : decode jdk_42_method_147_code 13 = .ok (.aload_n 1, 1) := by decide +kernel
theorem d19_14 : decode jdk_42_method_147_code 14 = .ok (.iload_n 2, 1) := by decide +kernel
theorem d19_15 : decode jdk_42_method_147_code 15 = .ok (.iload_n 3, 1) := by decide +kernel
theorem d19_16 : decode jdk_42_method_147_code 16 = .ok (.ishl, 1) := by decide +kernel
theorem d19_17 : decode jdk_42_method_147_code 17 = .ok (.aload_n 0, 1) := by decide +kernel
theorem d19_18 : decode jdk_42_method_147_code 18 = .ok (.getfield 9, 3) := by decide +kernel
theorem d19_21 : decode jdk_42_method_147_code 21 = .ok (.arraylength, 1) := by decide +kernel
theorem d19_22 : decode jdk_42_method_147_code 22 = .ok (.invokestatic 212, 3) := by decide +kernel
theorem d19_25 : decode jdk_42_method_147_code 25 = .ok (.goto 18, 3) := by decide +kernel
theorem d19_43 : decode jdk_42_method_147_code 43 = .ok (.return_, 1) := by decide +kernel
theorem d20_0 : decode jdk_67_method_42_code 0 = .ok (.new 18, 3) := by decide +kernel
theorem d20_3 : decode jdk_67_method_42_code 3 = .ok (.dup, 1) := by decide +kernel
theorem d20_4 : decode jdk_67_method_42_code 4 = .ok (.aload_n 0, 1) := by decide +kernel
theorem d20_5 : decode jdk_67_method_42_code 5 = .ok (.invokespecial 137, 3) := by decide +kernel
theorem d20_8 : decode jdk_67_method_42_code 8 = .ok (.areturn, 1) := by decide +kernel
theorem d21_0 : decode jdk_42_method_53_code 0 = .ok (.aload_n 0, 1) := by decide +kernel
theorem d21_1 : decode jdk_42_method_53_code 1 = .ok (.aload_n 1, 1) := by decide +kernel
theorem d21_2 : decode jdk_42_method_53_code 2 = .ok (.aconst_null, 1) := by decide +kernel
theorem d21_3 : decode jdk_42_method_53_code 3 = .ok (.invokespecial 489, 3) := by decide +kernel
theorem d21_6 : decode jdk_42_method_53_code 6 = .ok (.return_, 1) := by decide +kernel
theorem d22_0 : decode jdk_42_method_150_code 0 = .ok (.aload_n 0, 1) := by decide +kernel
theorem d22_1 : decode jdk_42_method_150_code 1 = .ok (.invokespecial 1, 3) := by decide +kernel
theorem d22_4 : decode jdk_42_method_150_code 4 = .ok (.aload_n 1, 1) := by decide +kernel
theorem d22_5 : decode jdk_42_method_150_code 5 = .ok (.invokevirtual 552, 3) := by decide +kernel
theorem d22_8 : decode jdk_42_method_150_code 8 = .ok (.astore_n 3, 1) := by decide +kernel
theorem d22_9 : decode jdk_42_method_150_code 9 = .ok (.aload_n 1, 1) := by decide +kernel
theorem d22_10 : decode jdk_42_method_150_code 10 = .ok (.invokevirtual 549, 3) := by decide +kernel
theorem d22_13 : decode jdk_42_method_150_code 13 = .ok (.istore 4, 2) := by decide +kernel
theorem d22_15 : decode jdk_42_method_150_code 15 = .ok (.aload_n 1, 1) := by decide +kernel
theorem d22_16 : decode jdk_42_method_150_code 16 = .ok (.invokevirtual 1047, 3) := by decide +kernel
theorem d22_19 : decode jdk_42_method_150_code 19 = .ok (.ifCond .eq 22, 3) := by decide +kernel
theorem d22_22 : decode jdk_42_method_150_code 22 = .ok (.aload_n 0, 1) := by decide +kernel
theorem d22_23 : decode jdk_42_method_150_code 23 = .ok (.iconst 0, 1) := by decide +kernel
theorem d22_24 : decode jdk_42_method_150_code 24 = .ok (.putfield 15, 3) := by decide +kernel
theorem d22_27 : decode jdk_42_method_150_code 27 = .ok (.aload_n 0, 1) := by decide +kernel
theorem d22_28 : decode jdk_42_method_150_code 28 = .ok (.aload_n 3, 1) := by decide +kernel
theorem d22_29 : decode jdk_42_method_150_code 29 = .ok (.iconst 0, 1) := by decide +kernel
theorem d22_30 : decode jdk_42_method_150_code 30 = .ok (.iload 4, 2) := by decide +kernel
theorem d22_32 : decode jdk_42_method_150_code 32 = .ok (.invokestatic 54, 3) := by decide +kernel
theorem d22_35 : decode jdk_42_method_150_code 35 = .ok (.putfield 9, 3) := by decide +kernel
theorem d22_38 : decode jdk_42_method_150_code 38 = .ok (.goto 59, 3) := by decide +kernel
theorem d22_97 : decode jdk_42_method_150_code 97 = .ok (.return_, 1) := by decide +kernel
theorem d23_0 : decode jdk_68_method_64_code 0 = .ok (.aload_n 0, 1) := by decide +kernel
theorem d23_1 : decode jdk_68_method_64_code 1 = .ok (.getfield 15, 3) := by decide +kernel
theorem d23_4 : decode jdk_68_method_64_code 4 = .ok (.areturn, 1) := by decide +kernel
theorem d24_0 : decode jdk_67_method_93_code 0 = .ok (.aload_n 0, 1) := by decide +kernel
theorem d24_1 : decode jdk_67_method_93_code 1 = .ok (.invokespecial 343, 3) := by decide +kernel
theorem d24_4 : decode jdk_67_method_93_code 4 = .ok (.ireturn, 1) := by decide +kernel
theorem d25_0 : decode jdk_68_method_6_code 0 = .ok (.aload_n 0, 1) := by decide +kernel
theorem d25_1 : decode jdk_68_method_6_code 1 = .ok (.getfield 79, 3) := by decide +kernel
theorem d25_4 : decode jdk_68_method_6_code 4 = .ok (.ireturn, 1) := by decide +kernel
theorem d26_0 : decode jdk_68_method_68_code 0 = .ok (.getstatic 18, 3) := by decide +kernel
theorem d26_3 : decode jdk_68_method_68_code 3 = .ok (.ifCond .eq 14, 3) := by decide +kernel
theorem d26_6 : decode jdk_68_method_68_code 6 = .ok (.aload_n 0, 1) := by decide +kernel
theorem d26_7 : decode jdk_68_method_68_code 7 = .ok (.getfield 22, 3) := by decide +kernel
theorem d26_10 : decode jdk_68_method_68_code 10 = .ok (.ifCond .ne 7, 3) := by decide +kernel
theorem d26_13 : decode jdk_68_method_68_code 13 = .ok (.iconst 1, 1) := by decide +kernel
theorem d26_14 : decode jdk_68_method_68_code 14 = .ok (.goto 4, 3) := by decide +kernel
theorem d26_18 : decode jdk_68_method_68_code 18 = .ok (.ireturn, 1) := by decide +kernel
theorem d27_0 : decode jdk_65_method_132_code 0 = .ok (.iload_n 1, 1) := by decide +kernel
theorem d27_1 : decode jdk_65_method_132_code 1 = .ok (.ifCond .ne 9, 3) := by decide +kernel
theorem d27_4 : decode jdk_65_method_132_code 4 = .ok (.iload_n 2, 1) := by decide +kernel
theorem d27_5 : decode jdk_65_method_132_code 5 = .ok (.aload_n 0, 1) := by decide +kernel
theorem d27_6 : decode jdk_65_method_132_code 6 = .ok (.arraylength, 1) := by decide +kernel
theorem d27_7 : decode jdk_65_method_132_code 7 = .ok (.if_icmp .eq 10, 3) := by decide +kernel
theorem d27_10 : decode jdk_65_method_132_code 10 = .ok (.aload_n 0, 1) := by decide +kernel
theorem d27_11 : decode jdk_65_method_132_code 11 = .ok (.iload_n 1, 1) := by decide +kernel
theorem d27_12 : decode jdk_65_method_132_code 12 = .ok (.iload_n 2, 1) := by decide +kernel
theorem d27_13 : decode jdk_65_method_132_code 13 = .ok (.invokestatic 339, 3) := by decide +kernel
theorem d27_16 : decode jdk_65_method_132_code 16 = .ok (.areturn, 1) := by decide +kernel
theorem d28_0 : decode jdk_65_method_133_code 0 = .ok (.iload_n 1, 1) := by decide +kernel
theorem d28_1 : decode jdk_65_method_133_code 1 = .ok (.iload_n 2, 1) := by decide +kernel
theorem d28_2 : decode jdk_65_method_133_code 2 = .ok (.invokestatic 343, 3) := by decide +kernel
theorem d28_5 : decode jdk_65_method_133_code 5 = .ok (.iload_n 2, 1) := by decide +kernel
theorem d28_6 : decode jdk_65_method_133_code 6 = .ok (.iload_n 1, 1) := by decide +kernel
theorem d28_7 : decode jdk_65_method_133_code 7 = .ok (.isub, 1) := by decide +kernel
theorem d28_8 : decode jdk_65_method_133_code 8 = .ok (.istore_n 3, 1) := by decide +kernel
theorem d28_9 : decode jdk_65_method_133_code 9 = .ok (.iload_n 3, 1) := by decide +kernel
theorem d28_10 : decode jdk_65_method_133_code 10 = .ok (.newarray .byte, 2) := by decide +kernel
theorem d28_12 : decode jdk_65_method_133_code 12 = .ok (.astore 4, 2) := by decide +kernel
theorem d28_14 : decode jdk_65_method_133_code 14 = .ok (.aload_n 0, 1) := by decide +kernel
theorem d28_15 : decode jdk_65_method_133_code 15 = .ok (.iload_n 1, 1) := by decide +kernel
theorem d28_16 : decode jdk_65_method_133_code 16 = .ok (.aload 4, 2) := by decide +kernel
theorem d28_18 : decode jdk_65_method_133_code 18 = .ok (.iconst 0, 1) := by decide +kernel
theorem d28_19 : decode jdk_65_method_133_code 19 = .ok (.aload_n 0, 1) := by decide +kernel
theorem d28_20 : decode jdk_65_method_133_code 20 = .ok (.arraylength, 1) := by decide +kernel
theorem d28_21 : decode jdk_65_method_133_code 21 = .ok (.iload_n 1, 1) := by decide +kernel
theorem d28_22 : decode jdk_65_method_133_code 22 = .ok (.isub, 1) := by decide +kernel
theorem d28_23 : decode jdk_65_method_133_code 23 = .ok (.iload_n 3, 1) := by decide +kernel
theorem d28_24 : decode jdk_65_method_133_code 24 = .ok (.invokestatic 304, 3) := by decide +kernel
theorem d28_27 : decode jdk_65_method_133_code 27 = .ok (.invokestatic 150, 3) := by decide +kernel
theorem d28_30 : decode jdk_65_method_133_code 30 = .ok (.aload 4, 2) := by decide +kernel
theorem d28_32 : decode jdk_65_method_133_code 32 = .ok (.areturn, 1) := by decide +kernel
theorem d29_0 : decode jdk_65_method_131_code 0 = .ok (.iload_n 1, 1) := by decide +kernel
theorem d29_1 : decode jdk_65_method_131_code 1 = .ok (.iload_n 0, 1) := by decide +kernel
theorem d29_2 : decode jdk_65_method_131_code 2 = .ok (.if_icmp .ge 35, 3) := by decide +kernel
theorem d29_37 : decode jdk_65_method_131_code 37 = .ok (.return_, 1) := by decide +kernel
theorem d30_0 : decode jdk_29_method_69_code 0 = .ok (.iload_n 0, 1) := by decide +kernel
theorem d30_1 : decode jdk_29_method_69_code 1 = .ok (.iload_n 1, 1) := by decide +kernel
theorem d30_2 : decode jdk_29_method_69_code 2 = .ok (.if_icmp .gt 7, 3) := by decide +kernel
theorem d30_5 : decode jdk_29_method_69_code 5 = .ok (.iload_n 0, 1) := by decide +kernel
theorem d30_6 : decode jdk_29_method_69_code 6 = .ok (.goto 4, 3) := by decide +kernel
theorem d30_9 : decode jdk_29_method_69_code 9 = .ok (.iload_n 1, 1) := by decide +kernel
theorem d30_10 : decode jdk_29_method_69_code 10 = .ok (.ireturn, 1) := by decide +kernel
theorem d31_0 : decode jdk_42_method_66_code 0 = .ok (.aload_n 0, 1) := by decide +kernel
theorem d31_1 : decode jdk_42_method_66_code 1 = .ok (.aload_n 1, 1) := by decide +kernel
theorem d31_2 : decode jdk_42_method_66_code 2 = .ok (.if_acmp .ne 5, 3) := by decide +kernel
theorem d31_7 : decode jdk_42_method_66_code 7 = .ok (.aload_n 1, 1) := by decide +kernel
theorem d31_8 : decode jdk_42_method_66_code 8 = .ok (.instanceof 10, 3) := by decide +kernel
theorem d31_11 : decode jdk_42_method_66_code 11 = .ok (.ifCond .eq 43, 3) := by decide +kernel
theorem d31_14 : decode jdk_42_method_66_code 14 = .ok (.aload_n 1, 1) := by decide +kernel
theorem d31_15 : decode jdk_42_method_66_code 15 = .ok (.checkcast 10, 3) := by decide +kernel
theorem d31_18 : decode jdk_42_method_66_code 18 = .ok (.astore_n 2, 1) := by decide +kernel
theorem d31_19 : decode jdk_42_method_66_code 19 = .ok (.getstatic 38, 3) := by decide +kernel
theorem d31_22 : decode jdk_42_method_66_code 22 = .ok (.ifCond .eq 14, 3) := by decide +kernel
theorem d31_25 : decode jdk_42_method_66_code 25 = .ok (.aload_n 0, 1) := by decide +kernel
theorem d31_26 : decode jdk_42_method_66_code 26 = .ok (.getfield 15, 3) := by decide +kernel
theorem d31_29 : decode jdk_42_method_66_code 29 = .ok (.aload_n 2, 1) := by decide +kernel
theorem d31_30 : decode jdk_42_method_66_code 30 = .ok (.getfield 15, 3) := by decide +kernel
theorem d31_33 : decode jdk_42_method_66_code 33 = .ok (.if_icmp .ne 21, 3) := by decide +kernel
theorem d31_36 : decode jdk_42_method_66_code 36 = .ok (.aload_n 0, 1) := by decide +kernel
theorem d31_37 : decode jdk_42_method_66_code 37 = .ok (.getfield 9, 3) := by decide +kernel
theorem d31_40 : decode jdk_42_method_66_code 40 = .ok (.aload_n 2, 1) := by decide +kernel
theorem d31_41 : decode jdk_42_method_66_code 41 = .ok (.getfield 9, 3) := by decide +kernel
theorem d31_44 : decode jdk_42_method_66_code 44 = .ok (.invokestatic 541, 3) := by decide +kernel
theorem d31_47 : decode jdk_42_method_66_code 47 = .ok (.ifCond .eq 7, 3) := by decide +kernel
theorem d31_50 : decode jdk_42_method_66_code 50 = .ok (.iconst 1, 1) := by decide +kernel
theorem d31_51 : decode jdk_42_method_66_code 51 = .ok (.goto 4, 3) := by decide +kernel
theorem d31_55 : decode jdk_42_method_66_code 55 = .ok (.ireturn, 1) := by decide +kernel
theorem d32_0 : decode jdk_43_method_13_code 0 = .ok (.aload_n 0, 1) := by decide +kernel
theorem d32_1 : decode jdk_43_method_13_code 1 = .ok (.arraylength, 1) := by decide +kernel
theorem d32_2 : decode jdk_43_method_13_code 2 = .ok (.aload_n 1, 1) := by decide +kernel
theorem d32_3 : decode jdk_43_method_13_code 3 = .ok (.arraylength, 1) := by decide +kernel
theorem d32_4 : decode jdk_43_method_13_code 4 = .ok (.if_icmp .ne 30, 3) := by decide +kernel
theorem d32_7 : decode jdk_43_method_13_code 7 = .ok (.iconst 0, 1) := by decide +kernel
theorem d32_8 : decode jdk_43_method_13_code 8 = .ok (.istore_n 2, 1) := by decide +kernel
theorem d32_9 : decode jdk_43_method_13_code 9 = .ok (.iload_n 2, 1) := by decide +kernel
theorem d32_10 : decode jdk_43_method_13_code 10 = .ok (.aload_n 0, 1) := by decide +kernel
theorem d32_11 : decode jdk_43_method_13_code 11 = .ok (.arraylength, 1) := by decide +kernel
theorem d32_12 : decode jdk_43_method_13_code 12 = .ok (.if_icmp .ge 20, 3) := by decide +kernel
theorem d32_15 : decode jdk_43_method_13_code 15 = .ok (.aload_n 0, 1) := by decide +kernel
theorem d32_16 : decode jdk_43_method_13_code 16 = .ok (.iload_n 2, 1) := by decide +kernel
theorem d32_17 : decode jdk_43_method_13_code 17 = .ok (.baload, 1) := by decide +kernel
theorem d32_18 : decode jdk_43_method_13_code 18 = .ok (.aload_n 1, 1) := by decide +kernel
theorem d32_19 : decode jdk_43_method_13_code 19 = .ok (.iload_n 2, 1) := by decide +kernel
theorem d32_20 : decode jdk_43_method_13_code 20 = .ok (.baload, 1) := by decide +kernel
theorem d32_21 : decode jdk_43_method_13_code 21 = .ok (.if_icmp .eq 5, 3) := by decide +kernel
theorem d32_26 : decode jdk_43_method_13_code 26 = .ok (.iinc 2 1, 3) := by decide +kernel
theorem d32_29 : decode jdk_43_method_13_code 29 = .ok (.goto (-20), 3) := by decide +kernel
theorem d32_32 : decode jdk_43_method_13_code 32 = .ok (.iconst 1, 1) := by decide +kernel
theorem d32_33 : decode jdk_43_method_13_code 33 = .ok (.ireturn, 1) := by decide +kernel
theorem d33_0 : decode jdk_68_method_10_code 0 = .ok (.aload_n 0, 1) := by decide +kernel
theorem d33_1 : decode jdk_68_method_10_code 1 = .ok (.getfield 15, 3) := by decide +kernel
theorem d33_4 : decode jdk_68_method_10_code 4 = .ok (.arraylength, 1) := by decide +kernel
theorem d33_5 : decode jdk_68_method_10_code 5 = .ok (.istore_n 2, 1) := by decide +kernel
theorem d33_6 : decode jdk_68_method_10_code 6 = .ok (.iload_n 1, 1) := by decide +kernel
theorem d33_7 : decode jdk_68_method_10_code 7 = .ok (.aload_n 0, 1) := by decide +kernel
theorem d33_8 : decode jdk_68_method_10_code 8 = .ok (.getfield 22, 3) := by decide +kernel
theorem d33_11 : decode jdk_68_method_10_code 11 = .ok (.ishl, 1) := by decide +kernel
theorem d33_12 : decode jdk_68_method_10_code 12 = .ok (.istore_n 3, 1) := by decide +kernel
theorem d33_13 : decode jdk_68_method_10_code 13 = .ok (.iload_n 3, 1) := by decide +kernel
theorem d33_14 : decode jdk_68_method_10_code 14 = .ok (.iload_n 2, 1) := by decide +kernel
theorem d33_15 : decode jdk_68_method_10_code 15 = .ok (.isub, 1) := by decide +kernel
theorem d33_16 : decode jdk_68_method_10_code 16 = .ok (.istore 4, 2) := by decide +kernel
theorem d33_18 : decode jdk_68_method_10_code 18 = .ok (.iload_n 2, 1) := by decide +kernel
theorem d33_19 : decode jdk_68_method_10_code 19 = .ok (.iload 4, 2) := by decide +kernel
theorem d33_21 : decode jdk_68_method_10_code 21 = .ok (.iload_n 2, 1) := by decide +kernel
theorem d33_22 : decode jdk_68_method_10_code 22 = .ok (.iconst 2, 1) := by decide +kernel
theorem d33_23 : decode jdk_68_method_10_code 23 = .ok (.aload_n 0, 1) := by decide +kernel
theorem d33_24 : decode jdk_68_method_10_code 24 = .ok (.getfield 22, 3) := by decide +kernel
theorem d33_27 : decode jdk_68_method_10_code 27 = .ok (.ishl, 1) := by decide +kernel
theorem d33_28 : decode jdk_68_method_10_code 28 = .ok (.iadd, 1) := by decide +kernel
theorem d33_29 : decode jdk_68_method_10_code 29 = .ok (.invokestatic 114, 3) := by decide +kernel
theorem d33_32 : decode jdk_68_method_10_code 32 = .ok (.istore 5, 2) := by decide +kernel
theorem d33_34 : decode jdk_68_method_10_code 34 = .ok (.iload 5, 2) := by decide +kernel
theorem d33_36 : decode jdk_68_method_10_code 36 = .ok (.ldc 39, 2) := by decide +kernel
theorem d33_38 : decode jdk_68_method_10_code 38 = .ok (.if_icmp .ne 13, 3) := by decide +kernel
theorem d33_51 : decode jdk_68_method_10_code 51 = .ok (.iload 5, 2) := by decide +kernel
theorem d33_53 : decode jdk_68_method_10_code 53 = .ok (.aload_n 0, 1) := by decide +kernel
theorem d33_54 : decode jdk_68_method_10_code 54 = .ok (.getfield 22, 3) := by decide +kernel
theorem d33_57 : decode jdk_68_method_10_code 57 = .ok (.ishr, 1) := by decide +kernel
theorem d33_58 : decode jdk_68_method_10_code 58 = .ok (.ireturn, 1) := by decide +kernel
theorem d34_0 : decode jdk_48_method_27_code 0 = .ok (.iload_n 0, 1) := by decide +kernel
theorem d34_1 : decode jdk_48_method_27_code 1 = .ok (.iload_n 1, 1) := by decide +kernel
theorem d34_2 : decode jdk_48_method_27_code 2 = .ok (.iload_n 2, 1) := by decide +kernel
theorem d34_3 : decode jdk_48_method_27_code 3 = .ok (.invokestatic 194, 3) := by decide +kernel
theorem d34_6 : decode jdk_48_method_27_code 6 = .ok (.iadd, 1) := by decide +kernel
theorem d34_7 : decode jdk_48_method_27_code 7 = .ok (.istore_n 3, 1) := by decide +kernel
theorem d34_8 : decode jdk_48_method_27_code 8 = .ok (.iconst 0, 1) := by decide +kernel
theorem d34_9 : decode jdk_48_method_27_code 9 = .ok (.iload_n 3, 1) := by decide +kernel
theorem d34_10 : decode jdk_48_method_27_code 10 = .ok (.if_icmp .ge 11, 3) := by decide +kernel
theorem d34_13 : decode jdk_48_method_27_code 13 = .ok (.iload_n 3, 1) := by decide +kernel
theorem d34_14 : decode jdk_48_method_27_code 14 = .ok (.ldc 200, 2) := by decide +kernel
theorem d34_16 : decode jdk_48_method_27_code 16 = .ok (.if_icmp .gt 5, 3) := by decide +kernel
theorem d34_19 : decode jdk_48_method_27_code 19 = .ok (.iload_n 3, 1) := by decide +kernel
theorem d34_20 : decode jdk_48_method_27_code 20 = .ok (.ireturn, 1) := by decide +kernel
theorem d35_0 : decode jdk_29_method_65_code 0 = .ok (.iload_n 0, 1) := by decide +kernel
theorem d35_1 : decode jdk_29_method_65_code 1 = .ok (.iload_n 1, 1) := by decide +kernel
theorem d35_2 : decode jdk_29_method_65_code 2 = .ok (.if_icmp .lt 7, 3) := by decide +kernel
theorem d35_5 : decode jdk_29_method_65_code 5 = .ok (.iload_n 0, 1) := by decide +kernel
theorem d35_6 : decode jdk_29_method_65_code 6 = .ok (.goto 4, 3) := by decide +kernel
theorem d35_9 : decode jdk_29_method_65_code 9 = .ok (.iload_n 1, 1) := by decide +kernel
theorem d35_10 : decode jdk_29_method_65_code 10 = .ok (.ireturn, 1) := by decide +kernel
theorem d36_0 : decode jdk_65_method_121_code 0 = .ok (.iload_n 1, 1) := by decide +kernel
theorem d36_1 : decode jdk_65_method_121_code 1 = .ok (.aload_n 0, 1) := by decide +kernel
theorem d36_2 : decode jdk_65_method_121_code 2 = .ok (.arraylength, 1) := by decide +kernel
theorem d36_3 : decode jdk_65_method_121_code 3 = .ok (.if_icmp .ne 11, 3) := by decide +kernel
theorem d36_14 : decode jdk_65_method_121_code 14 = .ok (.iload_n 1, 1) := by decide +kernel
theorem d36_15 : decode jdk_65_method_121_code 15 = .ok (.newarray .byte, 2) := by decide +kernel
theorem d36_17 : decode jdk_65_method_121_code 17 = .ok (.astore_n 2, 1) := by decide +kernel
theorem d36_18 : decode jdk_65_method_121_code 18 = .ok (.aload_n 0, 1) := by decide +kernel
theorem d36_19 : decode jdk_65_method_121_code 19 = .ok (.iconst 0, 1) := by decide +kernel
theorem d36_20 : decode jdk_65_method_121_code 20 = .ok (.aload_n 2, 1) := by decide +kernel
theorem d36_21 : decode jdk_65_method_121_code 21 = .ok (.iconst 0, 1) := by decide +kernel
theorem d36_22 : decode jdk_65_method_121_code 22 = .ok (.aload_n 0, 1) := by decide +kernel
theorem d36_23 : decode jdk_65_method_121_code 23 = .ok (.arraylength, 1) := by decide +kernel
theorem d36_24 : decode jdk_65_method_121_code 24 = .ok (.iload_n 1, 1) := by decide +kernel
theorem d36_25 : decode jdk_65_method_121_code 25 = .ok (.invokestatic 304, 3) := by decide +kernel
theorem d36_28 : decode jdk_65_method_121_code 28 = .ok (.invokestatic 150, 3) := by decide +kernel
theorem d36_31 : decode jdk_65_method_121_code 31 = .ok (.aload_n 2, 1) := by decide +kernel
theorem d36_32 : decode jdk_65_method_121_code 32 = .ok (.areturn, 1) := by decide +kernel
theorem pd0 : parseMethodDescriptor "([CI[BII)I" = some ⟨[(.array .char), .int, (.array .byte), .int, .int], some .int⟩ := by decide +kernel
theorem pd1 : parseMethodDescriptor "([CII)[B" = some ⟨[(.array .char), .int, .int], some (.array .byte)⟩ := by decide +kernel
theorem pd2 : parseMethodDescriptor "([BI)B" = some ⟨[(.array .byte), .int], some .byte⟩ := by decide +kernel
theorem pd3 : parseMethodDescriptor "([CIILjava/lang/Void;)V" = some ⟨[(.array .char), .int, .int, (.object "java/lang/Void")], none⟩ := by decide +kernel
theorem pd4 : parseMethodDescriptor "()B" = some ⟨[], some .byte⟩ := by decide +kernel
theorem pd5 : parseMethodDescriptor "(II)V" = some ⟨[.int, .int], none⟩ := by decide +kernel
theorem pd6 : parseMethodDescriptor "(II)I" = some ⟨[.int, .int], some .int⟩ := by decide +kernel
theorem pd7 : parseMethodDescriptor "([BII)[B" = some ⟨[(.array .byte), .int, .int], some (.array .byte)⟩ := by decide +kernel
theorem pd8 : parseMethodDescriptor "(I)V" = some ⟨[.int], none⟩ := by decide +kernel
theorem pd9 : parseMethodDescriptor "(III)I" = some ⟨[.int, .int, .int], some .int⟩ := by decide +kernel
theorem pd10 : parseMethodDescriptor "(I)I" = some ⟨[.int], some .int⟩ := by decide +kernel
theorem pd11 : parseMethodDescriptor "([BI)[B" = some ⟨[(.array .byte), .int], some (.array .byte)⟩ := by decide +kernel
theorem pd12 : parseMethodDescriptor "(Ljava/lang/String;)V" = some ⟨[(.object "java/lang/String")], none⟩ := by decide +kernel
theorem pd13 : parseMethodDescriptor "([BIB)V" = some ⟨[(.array .byte), .int, .byte], none⟩ := by decide +kernel
theorem pd14 : parseMethodDescriptor "()I" = some ⟨[], some .int⟩ := by decide +kernel
theorem pd15 : parseMethodDescriptor "(ILjava/lang/String;)V" = some ⟨[.int, (.object "java/lang/String")], none⟩ := by decide +kernel
theorem pd16 : parseMethodDescriptor "(Ljava/lang/String;)Ljava/lang/AbstractStringBuilder;" = some ⟨[(.object "java/lang/String")], some (.object "java/lang/AbstractStringBuilder")⟩ := by decide +kernel
theorem pd17 : parseMethodDescriptor "()[B" = some ⟨[], some (.array .byte)⟩ := by decide +kernel
theorem pd18 : parseMethodDescriptor "()Z" = some ⟨[], some .boolean⟩ := by decide +kernel
theorem pd19 : parseMethodDescriptor "(Ljava/lang/AbstractStringBuilder;Ljava/lang/Void;)V" = some ⟨[(.object "java/lang/AbstractStringBuilder"), (.object "java/lang/Void")], none⟩ := by decide +kernel
theorem pd20 : parseMethodDescriptor "(Ljava/lang/StringBuilder;)V" = some ⟨[(.object "java/lang/StringBuilder")], none⟩ := by decide +kernel
theorem pd21 : parseMethodDescriptor "([B[B)Z" = some ⟨[(.array .byte), (.array .byte)], some .boolean⟩ := by decide +kernel
theorem pd22 : parseMethodDescriptor "(Ljava/lang/Object;Ljava/lang/String;)Ljava/lang/Object;" = some ⟨[(.object "java/lang/Object"), (.object "java/lang/String")], some (.object "java/lang/Object")⟩ := by decide +kernel
theorem pd23 : parseMethodDescriptor "()V" = some ⟨[], none⟩ := by decide +kernel
theorem pd24 : parseMethodDescriptor "(Ljava/lang/String;)Ljava/lang/StringBuilder;" = some ⟨[(.object "java/lang/String")], some (.object "java/lang/StringBuilder")⟩ := by decide +kernel
theorem pd25 : parseMethodDescriptor "()Ljava/lang/String;" = some ⟨[], some (.object "java/lang/String")⟩ := by decide +kernel
theorem pd26 : parseMethodDescriptor "([C)V" = some ⟨[(.array .char)], none⟩ := by decide +kernel
theorem pd27 : parseMethodDescriptor "(Ljava/lang/String;Ljava/lang/String;Ljava/lang/String;)V" = some ⟨[(.object "java/lang/String"), (.object "java/lang/String"), (.object "java/lang/String")], none⟩ := by decide +kernel
theorem pd28 : parseMethodDescriptor "(Ljava/lang/Object;)Z" = some ⟨[(.object "java/lang/Object")], some .boolean⟩ := by decide +kernel
theorem pn0 : plainName "java/lang/StringUTF16" = true := by first | (simp [plainName, overriddenIn]; done) | decide +kernel
theorem pn1 : plainName "java/lang/String" = true := by first | (simp [plainName, overriddenIn]; done) | decide +kernel
theorem pn2 : plainName "java/util/Arrays" = true := by first | (simp [plainName, overriddenIn]; done) | decide +kernel
theorem pn3 : plainName "java/lang/AbstractStringBuilder" = true := by first | (simp [plainName, overriddenIn]; done) | decide +kernel
theorem pn4 : plainName "java/lang/StringBuilder" = true := by first | (simp [plainName, overriddenIn]; done) | decide +kernel
theorem pn5 : plainName "jdk/internal/util/ArraysSupport" = true := by first | (simp [plainName, overriddenIn]; done) | decide +kernel
theorem pn6 : plainName "java/util/Objects" = true := by first | (simp [plainName, overriddenIn]; done) | decide +kernel
theorem pn7 : plainName "java/lang/StringLatin1" = true := by first | (simp [plainName, overriddenIn]; done) | decide +kernel
theorem pn8 : plainName "com/example/orderly_settings/orderlysettings/BindingProblem" = true := by first | (simp [plainName, overriddenIn]; done) | decide +kernel
theorem pn9 : plainName "com/example/orderly_settings/orderlysettings/BindingProblemToStringPinLaw" = true := by first | (simp [plainName, overriddenIn]; done) | decide +kernel
def codF (z : Int32) (n : Nat) : Int32 := nar .byte (lo8 (XT.ushr (z - Int32.ofNat n) 31))
set_option maxRecDepth 65536 in
set_option maxHeartbeats 4000000 in
theorem c_coderLen {l : Launch} {Z : State} {a0 : Array Value} {EL : List (String × Nat)} (hG : oG a0 Z EL) (d : Nat) (ws : List Value) (z : Int32) (h : Heap) (B : oArr Z h d .byte ws) :
    oCtr [] l Z a0 EL True (⟨"java/lang/StringUTF16", "coderFromArrayLen", "([BI)B"⟩ : MethodName) jdk_52_method_15_code 2 (some .byte) ({ frames := 0, cells := 0, slots := 0, locals := 0 } : Room) #[.ref d, .int z] [] h (fun v h' => v = some (.int (codF z ws.length)) ∧ h' = h) oNo := by
  refine oCtr.enter (Ls := #[.val (.ref d), .val (.int z)]) (plainFor_of_name pn0) hG.2.1 (fun m => by first | (simp [entryFrame, mkF, argsToLocals, Value.category]; done) | rfl) ?_
  intro pP eE sS mM bB tT cC
  refine oGo.iload_n (pc' := 1) d6_0 rfl rfl ?_
  refine oGo.aload_n (pc' := 2) d6_1 rfl rfl rfl ?_
  refine oGo.arraylength (pc' := 3) (z := (Int32.ofNat ws.length)) d6_2 rfl B rfl ?_
  refine oGo.isub (pc' := 4) d6_3 rfl ?_
  refine oGo.bipush (pc' := 6) (v := 31) d6_4 rfl (by decide) ?_
  refine oGo.iushr (pc' := 7) d6_6 rfl ?_
  refine oGo.i2b (pc' := 8) d6_7 rfl ?_
  exact oGo.nreturn d6_8 rfl (by simp) rfl (by decide) (by decide) ⟨rfl, rfl⟩ (fun _ q => q.elim)
theorem codF0 (n : Nat) : codF (Int32.ofNat n) n = 0 := by
  unfold codF; rw [show Int32.ofNat n - Int32.ofNat n = 0 from by simp]; decide
set_option maxRecDepth 65536 in
set_option maxHeartbeats 4000000 in
theorem c_coder {l : Launch} {Z : State} {a0 : Array Value} {EL : List (String × Nat)} (hG : oG a0 Z EL) (x : Nat) (cd : Int32) (hc : cd = 0 ∨ cd = 1) (h : Heap) (F : Fld Z h x "java/lang/String" "coder" "B" (.int cd)) :
    oCtr [] l Z a0 EL True (⟨"java/lang/String", "coder", "()B"⟩ : MethodName) jdk_42_method_152_code 1 (some .byte) ({ frames := 0, cells := 0, slots := 0, locals := 0 } : Room) #[.ref x] [] h (fun v h' => v = some (.int cd) ∧ h' = h) oNo := by
  obtain ⟨z, hzs, hz⟩ := sCOMPACT hG
  refine oCtr.enter (Ls := #[.val (.ref x)]) (plainFor_of_name pn1) hG.2.1 (fun m => by first | (simp [entryFrame, mkF, argsToLocals, Value.category]; done) | rfl) ?_
  intro pP eE sS mM bB tT cC
  refine oGo.getstatic (pc' := 3) d15_0 rfl (w14 hG) Via.refl hzs ?_
  refine oGo.if_eq (pc1 := 6) (pc2 := 13) d15_3 rfl (by decide) (fun q => absurd q hz) (fun q1 => ?_)
  refine oGo.aload_n (pc' := 7) d15_6 rfl rfl rfl ?_
  refine oGo.getfield (pc' := 10) d15_7 rfl (w26 hG) Via.refl F ?_
  refine oGo.goto (pc' := 14) d15_10 (by decide) ?_
  exact oGo.nreturn d15_14 rfl (by simp) (by rcases hc with rfl | rfl <;> decide) (by decide) (by decide) ⟨rfl, rfl⟩ (fun _ q => q.elim)
abbrev q_cmp5 (Z : State) (h : Heap) (d : Nat) (cs : List Int32) : Option Value → Heap → Prop := fun v h' => Keep h h' [d] ∧ ∃ r : Nat, v = some (.int (Int32.ofNat r)) ∧ ((r = cs.length ∧ oArr Z h' d .byte (oI (cs.map lo8)) ∧ ∀ c ∈ cs, ¬ 255 < c) ∨ (r < cs.length ∧ ∃ c, cs[r]? = some c ∧ 255 < c))
set_option maxRecDepth 65536 in
set_option maxHeartbeats 4000000 in
theorem c_cmp5 {l : Launch} {Z : State} {a0 : Array Value} {EL : List (String × Nat)} (hG : oG a0 Z EL) (b d : Nat) (cs : List Int32) (ws : List Value) (h : Heap) (A : oArr Z h b .char (oI cs)) (B : oArr Z h d .byte ws) (hl : ws.length = cs.length) (hne : b ≠ d) :
    oCtr [] l Z a0 EL True (⟨"java/lang/StringUTF16", "compress", "([CI[BII)I"⟩ : MethodName) jdk_52_method_21_code 7 (some .int) ({ frames := 0, cells := 0, slots := 0, locals := 0 } : Room) #[.ref b, .int (0 : Int32), .ref d, .int (0 : Int32), .int (Int32.ofNat cs.length)] [d] h ((q_cmp5 Z h d cs)) oNo := by
  refine oCtr.enter (Ls := #[.val (.ref b), .val (.int (0 : Int32)), .val (.ref d), .val (.int (0 : Int32)), .val (.int (Int32.ofNat cs.length)), .unset, .unset]) (plainFor_of_name pn0) hG.2.1 (fun m => by first | (simp [entryFrame, mkF, argsToLocals, Value.category]; done) | rfl) ?_
  intro pP eE sS mM bB tT cC
  have hb31 : cs.length < 2147483648 := by obtain ⟨_, _, _, q, _⟩ := A; simpa using q
  refine oGo.iconst (pc' := 1) (v := 0) d5_0 rfl (by decide) ?_
  refine oGo.istore (pc' := 3) (Ls' := #[.val (.ref b), .val (.int (0 : Int32)), .val (.ref d), .val (.int (0 : Int32)), .val (.int (Int32.ofNat cs.length)), .val (.int (0 : Int32)), .unset]) d5_1 rfl rfl ?_
  have loop : ∀ (r i : Nat) (h1 : Heap) (vs : List Value) (s6 : Slot), r + i = cs.length → Keep h h1 [d] → oArr Z h1 d .byte vs → vs.length = cs.length → vs.take i = (oI (cs.map lo8)).take i → (∀ c ∈ cs.take i, ¬ 255 < c) → oSl s6 → oGo l Z a0 EL True pP eE sS mM #[.ref b, .int (0 : Int32), .ref d, .int (0 : Int32), .int (Int32.ofNat cs.length)] bB tT cC ({ frames := 0, cells := 0, slots := 0, locals := 0 } : Room) "java/lang/StringUTF16" jdk_52_method_21_code 7 (some .int) "compress" (q_cmp5 Z h d cs) oNo [d] h1 0 0 3 #[.val (.ref b), .val (.int (Int32.ofNat i)), .val (.ref d), .val (.int (Int32.ofNat i)), .val (.int (Int32.ofNat cs.length)), .val (.int (Int32.ofNat i)), s6] [] := by
    intro r
    induction r with
    | zero =>
      intro i h1 vs s6 hr K B1 hv ht hc hs6
      obtain rfl : i = cs.length := by omega
      refine oGo.iload (pc' := 5) d5_3 rfl rfl ?_
      refine oGo.iload (pc' := 7) d5_5 rfl rfl ?_
      refine oGo.icmp_ge (pc1 := 10) (pc2 := 44) d5_7 rfl (by decide) (fun q1 => ?_) (fun q => absurd q (by rw [own_lt hb31 hb31]; omega))
      refine oGo.iload (pc' := 46) d5_44 rfl rfl ?_
      exact oGo.ireturn d5_46 rfl (by decide) (by decide) ⟨K, cs.length, rfl, Or.inl ⟨rfl, by rw [List.take_of_length_le (by omega), List.take_of_length_le (by simp)] at ht; rw [← ht]; exact B1, by simpa using hc⟩⟩ (fun _ q => q.elim)
    | succ r ih =>
      intro i h1 vs s6 hr K B1 hv ht hc hs6
      have hi : i < cs.length := by omega
      obtain ⟨c, hci⟩ : ∃ c, cs[i]? = some c := ⟨_, List.getElem?_eq_getElem hi⟩
      have A1 := oArr.keep A K (own_nin1 hne)
      refine oGo.iload (pc' := 5) d5_3 rfl rfl ?_
      refine oGo.iload (pc' := 7) d5_5 rfl rfl ?_
      refine oGo.icmp_ge (pc1 := 10) (pc2 := 44) d5_7 rfl (by decide) (fun q => absurd ((own_lt (by omega) hb31).mpr hi) q) (fun q2 => ?_)
      refine oGo.aload_n (pc' := 11) d5_10 rfl rfl rfl ?_
      refine oGo.iload_n (pc' := 12) d5_11 rfl rfl ?_
      refine oGo.caload (pc' := 13) (i := i) d5_12 rfl A1 rfl (by rw [List.getElem?_map, hci]; rfl) ?_
      refine oGo.istoreS (pc' := 15) (Ls' := #[.val (.ref b), .val (.int (Int32.ofNat i)), .val (.ref d), .val (.int (Int32.ofNat i)), .val (.int (Int32.ofNat cs.length)), .val (.int (Int32.ofNat i)), .val (.int c)]) d5_13 rfl hs6 rfl rfl ?_
      refine oGo.iload (pc' := 17) d5_15 rfl rfl ?_
      refine oGo.sipush (pc' := 20) (v := 255) d5_17 rfl (by decide) ?_
      refine oGo.icmp_le (pc1 := 23) (pc2 := 26) d5_20 rfl (by decide) (fun q => ?_) (fun q => ?_)
      · refine oGo.aload_n (pc' := 27) d5_26 rfl rfl rfl ?_
        refine oGo.iload_n (pc' := 28) d5_27 rfl rfl ?_
        refine oGo.iload (pc' := 30) d5_28 rfl rfl ?_
        refine oGo.i2b (pc' := 31) d5_30 rfl ?_
        refine oGo.bastore (pc' := 32) (i := i) (w := lo8 c) d5_31 rfl B1 rfl (by omega) (lo8_idem c) (by simp) ?_
        intro h2 W sh2 B2
        refine oGo.iinc (pc' := 35) (y := 1) (Ls' := #[.val (.ref b), .val (.int ((Int32.ofNat i) + (1 : Int32))), .val (.ref d), .val (.int (Int32.ofNat i)), .val (.int (Int32.ofNat cs.length)), .val (.int (Int32.ofNat i)), .val (.int c)]) d5_32 rfl rfl (by decide) rfl ?_
        refine oGo.iinc (pc' := 38) (y := 1) (Ls' := #[.val (.ref b), .val (.int ((Int32.ofNat i) + (1 : Int32))), .val (.ref d), .val (.int ((Int32.ofNat i) + (1 : Int32))), .val (.int (Int32.ofNat cs.length)), .val (.int (Int32.ofNat i)), .val (.int c)]) d5_35 rfl rfl (by decide) rfl ?_
        refine oGo.iinc (pc' := 41) (y := 1) (Ls' := #[.val (.ref b), .val (.int ((Int32.ofNat i) + (1 : Int32))), .val (.ref d), .val (.int ((Int32.ofNat i) + (1 : Int32))), .val (.int (Int32.ofNat cs.length)), .val (.int ((Int32.ofNat i) + (1 : Int32))), .val (.int c)]) d5_38 rfl rfl (by decide) rfl ?_
        refine oGo.goto (pc' := 3) d5_41 (by decide) ?_
        rw [own_succ]
        refine ih (i + 1) h2 _ _ (by omega) (K.wr W (Or.inl (by simp))) B2 (by simpa using hv) ?_ ?_ (Or.inr ⟨_, rfl, rfl⟩)
        · rw [own_take_set _ _ _ (by omega), ht, own_take_succ (oI (cs.map lo8)) i (.int (lo8 c)) (by simp [hci])]
        · intro c' hc'
          rw [own_take_succ cs i c hci] at hc'
          rcases List.mem_append.mp hc' with q' | q'
          · exact hc c' q'
          · rw [List.mem_singleton.mp q']; exact q
      · refine oGo.iload (pc' := 25) d5_23 rfl rfl ?_
        exact oGo.ireturn d5_25 rfl (by decide) (by decide) ⟨K, i, rfl, Or.inr ⟨hi, c, hci, q⟩⟩ (fun _ q => q.elim)
  exact loop cs.length 0 h ws _ rfl (Keep.refl _ _) B hl rfl (by simp) (Or.inl rfl)
abbrev q_cmp3 (Z : State) (h : Heap) (cs : List Int32) : Option Value → Heap → Prop := fun v h' => Keep h h' [] ∧ ∃ t : Nat, v = some (.ref t) ∧ h.size ≤ t ∧ oArr Z h' t .byte (oI (cs.map lo8))
set_option maxRecDepth 65536 in
set_option maxHeartbeats 4000000 in
theorem c_cmp3 {l : Launch} {Z : State} {a0 : Array Value} {EL : List (String × Nat)} (hG : oG a0 Z EL) (b : Nat) (cs : List Int32) (hn : cs.length ≤ 20) (hcs : ∀ c ∈ cs, ¬ c < 0 ∧ ¬ 255 < c) (h : Heap) (A : oArr Z h b .char (oI cs)) :
    oCtr [] l Z a0 EL True (⟨"java/lang/StringUTF16", "compress", "([CII)[B"⟩ : MethodName) jdk_52_method_16_code 6 (some (.array .byte)) ({ frames := 1, cells := 1, slots := 20, locals := 18 } : Room) #[.ref b, .int (0 : Int32), .int (Int32.ofNat cs.length)] [] h ((q_cmp3 Z h cs)) oNo := by
  refine oCtr.enter (Ls := #[.val (.ref b), .val (.int (0 : Int32)), .val (.int (Int32.ofNat cs.length)), .unset, .unset, .unset]) (plainFor_of_name pn0) hG.2.1 (fun m => by first | (simp [entryFrame, mkF, argsToLocals, Value.category]; done) | rfl) ?_
  intro pP eE sS mM bB tT cC
  have hb31 : cs.length < 2147483648 := by omega
  have hbl : b < h.size := A.lt
  refine oGo.iload_n (pc' := 1) d4_0 rfl rfl ?_
  refine oGo.newarray (pc' := 3) (k' := 1) (n' := 20) (i := cs.length) d4_1 rfl (w19 hG) rfl 20 (hn) (by decide) rfl rfl (by decide) (by decide) (by decide) ?_
  intro h1 a2 qa2 la2 E3 A4'
  have A4 : oArr Z h1 a2 .byte (List.replicate (cs.length) (.int 0)) := A4'
  refine oGo.astore_n (pc' := 4) (Ls' := #[.val (.ref b), .val (.int (0 : Int32)), .val (.int (Int32.ofNat cs.length)), .val (.ref a2), .unset, .unset]) d4_3 rfl rfl rfl ?_
  refine oGo.aload_n (pc' := 5) d4_4 rfl rfl rfl ?_
  refine oGo.iload_n (pc' := 6) d4_5 rfl rfl ?_
  refine oGo.aload_n (pc' := 7) d4_6 rfl rfl rfl ?_
  refine oGo.iconst (pc' := 8) (v := 0) d4_7 rfl (by decide) ?_
  refine oGo.iload_n (pc' := 9) d4_8 rfl rfl ?_
  have f5 := oArr.ext E3 A
  refine oGo.invokestatic (pc' := 12) (k' := 1) (n' := 20) (argsL := [.ref b, .int (0 : Int32), .ref a2, .int (0 : Int32), .int (Int32.ofNat cs.length)]) (rest := []) d4_9 rfl (w20 hG) (w21 hG) (w17 hG) (w22 hG) (by decide) pd0 rfl rfl rfl (c_cmp5 hG b a2 cs _ _ f5 A4 (by simp) (by omega)) (by simp) (by decide) (Nat.le_of_ble_eq_true rfl) rfl rfl (by decide) (by decide) ?_
  intro v6 h7 sh7 q8
  obtain ⟨K3, r, rfl, hr⟩ := q8
  obtain ⟨rfl, B3⟩ : r = cs.length ∧ oArr Z h7 a2 .byte (oI (cs.map lo8)) := by
    rcases hr with ⟨h1, h2, -⟩ | ⟨-, c, h2, h3⟩
    · exact ⟨h1, h2⟩
    · exact absurd h3 (hcs c (List.mem_of_getElem? h2)).2
  refine ⟨_, fun _ hx => Or.inl hx, ?_⟩
  show oGo l Z a0 EL True pP eE sS mM _ bB tT cC _ _ _ _ _ _ _ _ [a2] h7 1 20 12 #[.val (.ref b), .val (.int (0 : Int32)), .val (.int (Int32.ofNat cs.length)), .val (.ref a2), .unset, .unset] [.int (Int32.ofNat cs.length)]
  refine oGo.istore (pc' := 14) (Ls' := #[.val (.ref b), .val (.int (0 : Int32)), .val (.int (Int32.ofNat cs.length)), .val (.ref a2), .val (.int (Int32.ofNat cs.length)), .unset]) d4_12 rfl rfl ?_
  refine oGo.iload (pc' := 16) d4_14 rfl rfl ?_
  refine oGo.iload_n (pc' := 17) d4_16 rfl rfl ?_
  refine oGo.icmp_eq (pc1 := 20) (pc2 := 57) d4_17 rfl (by decide) (fun q9 => ?_) (fun q => absurd rfl q)
  refine oGo.aload_n (pc' := 58) d4_57 rfl rfl rfl ?_
  exact oGo.areturn d4_58 rfl rfl rfl rfl (by decide) (by decide) ⟨(((Keep.refl h []).ext E3).trans K3 (own_new1 (by omega))), a2, rfl, by omega, B3⟩ (fun _ q => q.elim)
abbrev q_strI (Z : State) (h : Heap) (x : Nat) (cs : List Int32) : Option Value → Heap → Prop := fun v h' => v = none ∧ Keep h h' [x] ∧ ∃ t : Nat, oS Z h' x t cs
set_option maxRecDepth 65536 in
set_option maxHeartbeats 4000000 in
theorem c_strI4 {l : Launch} {Z : State} {a0 : Array Value} {EL : List (String × Nat)} (hG : oG a0 Z EL) (x b : Nat) (cs : List Int32) (hn0 : 0 < cs.length) (hn : cs.length ≤ 20) (hcs : ∀ c ∈ cs, ¬ c < 0 ∧ ¬ 255 < c) (u w0 : Value) (h : Heap) (A : oArr Z h b .char (oI cs)) (E : Exa Z h x "java/lang/String") (F1 : Fld Z h x "java/lang/String" "value" "[B" u) (F2 : Fld Z h x "java/lang/String" "coder" "B" w0) :
    oCtr [] l Z a0 EL True (⟨"java/lang/String", "<init>", "([CIILjava/lang/Void;)V"⟩ : MethodName) jdk_42_method_149_code 6 none ({ frames := 2, cells := 1, slots := 20, locals := 35 } : Room) #[.ref x, .ref b, .int (0 : Int32), .int (Int32.ofNat cs.length), .null] [x] h ((q_strI Z h x cs)) oNo := by
  obtain ⟨z, hzs, hz⟩ := sCOMPACT hG
  have hb31 : cs.length < 2147483648 := by omega
  have hxl : x < h.size := E.lt
  refine oCtr.enter (Ls := #[.val (.ref x), .val (.ref b), .val (.int (0 : Int32)), .val (.int (Int32.ofNat cs.length)), .val .null, .unset]) (plainFor_of_name pn1) hG.2.1 (fun m => by first | (simp [entryFrame, mkF, argsToLocals, Value.category]; done) | rfl) ?_
  intro pP eE sS mM bB tT cC
  refine oGo.aload_n (pc' := 1) d2_0 rfl rfl rfl ?_
  refine oGo.objinit (pc' := 4) d2_1 rfl (w11 hG) (w12 hG) (w13 hG) rfl (by decide) (Nat.le_of_ble_eq_true rfl) ?_
  refine oGo.iload_n (pc' := 5) d2_4 rfl rfl ?_
  refine oGo.if_ne (pc1 := 8) (pc2 := 27) d2_5 rfl (by decide) (fun q1 => ?_) (fun q => absurd ((own_eq (b := 0) hb31 (by omega)).mp q) (by omega))
  refine oGo.getstatic (pc' := 30) d2_27 rfl (w14 hG) Via.refl hzs ?_
  refine oGo.if_eq (pc1 := 33) (pc2 := 58) d2_30 rfl (by decide) (fun q => absurd q hz) (fun q2 => ?_)
  refine oGo.aload_n (pc' := 34) d2_33 rfl rfl rfl ?_
  refine oGo.iload_n (pc' := 35) d2_34 rfl rfl ?_
  refine oGo.iload_n (pc' := 36) d2_35 rfl rfl ?_
  refine oGo.invokestatic (pc' := 39) (k' := 1) (n' := 20) (argsL := [.ref b, .int (0 : Int32), .int (Int32.ofNat cs.length)]) (rest := []) d2_36 rfl (w15 hG) (w16 hG) (w17 hG) (w18 hG) (by decide) pd1 rfl rfl rfl (c_cmp3 hG b cs hn hcs h A) (by simp) (by decide) (Nat.le_of_ble_eq_true rfl) rfl rfl (by decide) (by decide) ?_
  intro v3 h4 sh4 q5
  obtain ⟨K2, t, rfl, ht, B2⟩ := q5
  refine ⟨_, fun _ hx => Or.inl hx, ?_⟩
  show oGo l Z a0 EL True pP eE sS mM _ bB tT cC _ _ _ _ _ _ _ _ [x] h4 1 20 39 #[.val (.ref x), .val (.ref b), .val (.int (0 : Int32)), .val (.int (Int32.ofNat cs.length)), .val .null, .unset] [.ref t]
  refine oGo.astore (pc' := 41) (Ls' := #[.val (.ref x), .val (.ref b), .val (.int (0 : Int32)), .val (.int (Int32.ofNat cs.length)), .val .null, .val (.ref t)]) d2_39 rfl rfl rfl ?_
  refine oGo.aload_n (pc' := 42) d2_41 rfl rfl rfl ?_
  refine oGo.aload (pc' := 44) d2_42 rfl rfl rfl ?_
  refine oGo.iload_n (pc' := 45) d2_44 rfl rfl ?_
  refine oGo.invokestatic (pc' := 48) (k' := 1) (n' := 20) (argsL := [.ref t, .int (Int32.ofNat cs.length)]) (rest := [.ref x]) d2_45 rfl (w23 hG) (w24 hG) (w17 hG) (w25 hG) (by decide) pd2 rfl rfl rfl (c_coderLen hG t _ (Int32.ofNat cs.length) _ B2) (by simp) (by decide) (Nat.le_of_ble_eq_true rfl) rfl rfl (by decide) (by decide) ?_
  intro v6 h7 sh7 q8
  obtain ⟨rfl, ee⟩ := q8
  obtain rfl := ee.symm
  refine ⟨_, fun _ hx => Or.inl hx, ?_⟩
  show oGo l Z a0 EL True pP eE sS mM _ bB tT cC _ _ _ _ _ _ _ _ [x] h4 1 20 48 #[.val (.ref x), .val (.ref b), .val (.int (0 : Int32)), .val (.int (Int32.ofNat cs.length)), .val .null, .val (.ref t)] [.int (codF (Int32.ofNat cs.length) (oI (cs.map lo8)).length), .ref x]
  rw [List.length_map, List.length_map, codF0]
  have f9 := Fld.keep F2 K2 nin0
  have f10 := Exa.keep E K2
  refine oGo.putfield (pc' := 51) (ty := .byte) d2_48 rfl (w26 hG) Via.refl f9 f10 (Or.inr ⟨(w27 hG), rfl, rfl⟩) (w1 hG) (by decide) (by decide) (by decide) (by simp) ?_
  intro h11 W12 sh11
  have f13 := Fld.same W12 f9
  refine oGo.aload_n (pc' := 52) d2_51 rfl rfl rfl ?_
  refine oGo.aload (pc' := 54) d2_52 rfl rfl rfl ?_
  have f14 := Fld.keep F1 K2 nin0
  have f15 := Fld.other W12 f14 (Or.inr (slot_ne (C := "java/lang/String") (Or.inr (w29 hG)) (Or.inr (w27 hG)) (by decide) (t := (.array .byte)) (t' := .byte) (by decide) (by decide)))
  have f16 := Exa.wr W12 f10
  refine oGo.putfield (pc' := 57) (ty := (.array .byte)) d2_54 rfl (w28 hG) Via.refl f15 f16 (Or.inr ⟨(w29 hG), rfl, rfl⟩) (w1 hG) (by decide) rfl rfl (by simp) ?_
  intro h17 W18 sh17
  have f19 := Fld.same W18 f15
  have f20 := Fld.other W18 f13 (Or.inr (slot_ne (C := "java/lang/String") (Or.inr (w27 hG)) (Or.inr (w29 hG)) (by decide) (t := .byte) (t' := (.array .byte)) (by decide) (by decide)))
  have f21 := Exa.wr W18 f16
  have f22 := oArr.other W12 B2 (own_ne (by omega))
  have f23 := oArr.other W18 f22 (own_ne (by omega))
  exact oGo.return_ d2_57 rfl (by decide) (by decide) ⟨rfl, (((Keep.refl h [x]).trans K2 (by simp)).wr W12 (Or.inl (by simp))).wr W18 (Or.inl (by simp)), t, f21, f19, f20, f23, hcs⟩ (fun _ q => q.elim)
set_option maxRecDepth 65536 in
set_option maxHeartbeats 4000000 in
theorem c_strI1 {l : Launch} {Z : State} {a0 : Array Value} {EL : List (String × Nat)} (hG : oG a0 Z EL) (x b : Nat) (cs : List Int32) (hn0 : 0 < cs.length) (hn : cs.length ≤ 20) (hcs : ∀ c ∈ cs, ¬ c < 0 ∧ ¬ 255 < c) (u w0 : Value) (h : Heap) (A : oArr Z h b .char (oI cs)) (E : Exa Z h x "java/lang/String") (F1 : Fld Z h x "java/lang/String" "value" "[B" u) (F2 : Fld Z h x "java/lang/String" "coder" "B" w0) :
    oCtr [] l Z a0 EL True (⟨"java/lang/String", "<init>", "([C)V"⟩ : MethodName) jdk_42_method_3_code 2 none ({ frames := 3, cells := 1, slots := 20, locals := 52 } : Room) #[.ref x, .ref b] [x] h ((q_strI Z h x cs)) oNo := by
  refine oCtr.enter (Ls := #[.val (.ref x), .val (.ref b)]) (plainFor_of_name pn1) hG.2.1 (fun m => by first | (simp [entryFrame, mkF, argsToLocals, Value.category]; done) | rfl) ?_
  intro pP eE sS mM bB tT cC
  refine oGo.aload_n (pc' := 1) d1_0 rfl rfl rfl ?_
  refine oGo.aload_n (pc' := 2) d1_1 rfl rfl rfl ?_
  refine oGo.iconst (pc' := 3) (v := 0) d1_2 rfl (by decide) ?_
  refine oGo.aload_n (pc' := 4) d1_3 rfl rfl rfl ?_
  refine oGo.arraylength (pc' := 5) (z := (Int32.ofNat cs.length)) d1_4 rfl A (by rw [List.length_map]) ?_
  refine oGo.aconst_null (pc' := 6) d1_5 rfl ?_
  refine oGo.invokespecial (pc' := 9) (k' := 1) (n' := 20) (a := x) (argsL := [.ref b, .int (0 : Int32), .int (Int32.ofNat cs.length), .null]) (rest := []) d1_6 rfl rfl (w7 hG) (w8 hG) (w2 hG) (w10 hG) (by decide) pd3 rfl rfl rfl (c_strI4 hG x b cs hn0 hn hcs u w0 h A E F1 F2) (by simp) (by decide) (Nat.le_of_ble_eq_true rfl) rfl rfl (by decide) (by decide) ?_
  intro v1 h2 sh2 q3
  obtain ⟨rfl, hq⟩ := q3
  refine ⟨_, fun _ hx => Or.inl hx, ?_⟩
  show oGo l Z a0 EL True pP eE sS mM _ bB tT cC _ _ _ _ _ _ _ _ [x] h2 1 20 9 #[.val (.ref x), .val (.ref b)] []
  exact oGo.return_ d1_9 rfl (by decide) (by decide) ⟨rfl, hq⟩ (fun _ q => q.elim)
set_option maxRecDepth 65536 in
set_option maxHeartbeats 4000000 in
theorem c_length {l : Launch} {Z : State} {a0 : Array Value} {EL : List (String × Nat)} (hG : oG a0 Z EL) (x t : Nat) (cs : List Int32) (h : Heap) (Sx : oS Z h x t cs) :
    oCtr [] l Z a0 EL True (⟨"java/lang/String", "length", "()I"⟩ : MethodName) jdk_42_method_54_code 1 (some .int) ({ frames := 1, cells := 0, slots := 0, locals := 13 } : Room) #[.ref x] [] h (fun v h' => v = some (.int (Int32.ofNat cs.length)) ∧ h' = h) oNo := by
  refine oCtr.enter (Ls := #[.val (.ref x)]) (plainFor_of_name pn1) hG.2.1 (fun m => by first | (simp [entryFrame, mkF, argsToLocals, Value.category]; done) | rfl) ?_
  intro pP eE sS mM bB tT cC
  refine oGo.aload_n (pc' := 1) d14_0 rfl rfl rfl ?_
  refine oGo.getfield (pc' := 4) d14_1 rfl (w28 hG) Via.refl Sx.2.1 ?_
  refine oGo.arraylength (pc' := 5) (z := (Int32.ofNat cs.length)) d14_4 rfl Sx.2.2.2.1 (by rw [List.length_map, List.length_map]) ?_
  refine oGo.aload_n (pc' := 6) d14_5 rfl rfl rfl ?_
  refine oGo.invokevirtual (pc' := 9) (k' := 0) (n' := 0) (a := x) (argsL := []) (rest := [.int (Int32.ofNat cs.length)]) d14_6 rfl (w92 hG) (w93 hG) (w95 hG) (w95 hG) rfl (w94 hG) (w2 hG) (w96 hG) (by decide) pd4 rfl rfl rfl Sx.1 (c_coder hG x 0 (Or.inl rfl) h Sx.2.2.1) (by simp) (by decide) (Nat.le_of_ble_eq_true rfl) rfl rfl (by decide) (by decide) ?_
  intro v1 h2 sh2 q3
  obtain ⟨rfl, ee⟩ := q3
  obtain rfl := ee.symm
  refine ⟨_, fun _ hx => Or.inl hx, ?_⟩
  show oGo l Z a0 EL True pP eE sS mM _ bB tT cC _ _ _ _ _ _ _ _ [] h 0 0 9 #[.val (.ref x)] [.int (0 : Int32), .int (Int32.ofNat cs.length)]
  refine oGo.ishr (pc' := 10) d14_9 rfl ?_
  exact oGo.ireturn d14_10 rfl (by decide) (by decide) ⟨by rw [shr0], rfl⟩ (fun _ q => q.elim)
def oSB (Z : State) (h : Heap) (sb b : Nat) (cs : List Int32) (cap : Nat) : Prop := Exa Z h sb "java/lang/StringBuilder" ∧ Fld Z h sb "java/lang/AbstractStringBuilder" "value" "[B" (.ref b) ∧ Fld Z h sb "java/lang/AbstractStringBuilder" "coder" "B" (.int 0) ∧ Fld Z h sb "java/lang/AbstractStringBuilder" "count" "I" (.int (Int32.ofNat cs.length)) ∧
  ∃ vs, oArr Z h b .byte vs ∧ vs.length = cap ∧ vs.take cs.length = oI (cs.map lo8) ∧ cs.length ≤ cap
abbrev oBuf (Z : State) (sb : Nat) : Option Value → Heap → Addr → Prop := fun _ h' x => Fld Z h' sb "java/lang/AbstractStringBuilder" "value" "[B" (.ref x)
def capF (cap m : Nat) : Nat := if m ≤ cap then cap else max m (2 * cap + 2)
section SB
variable {Z : State} {h h' : Heap} {sb b a : Addr} {cs : List Int32} {cap : Nat} {ws : List Addr}
theorem oSB.ext (S : oSB Z h sb b cs cap) (E : Ext h h') : oSB Z h' sb b cs cap := by
  obtain ⟨h1, h2, h3, h4, vs, h5, h6⟩ := S; exact ⟨h1.ext E, h2.ext E, h3.ext E, h4.ext E, vs, h5.ext E, h6⟩
theorem oSB.keep (S : oSB Z h sb b cs cap) (K : Keep h h' ws) (q : sb ∉ ws) (r : b ∉ ws) : oSB Z h' sb b cs cap := by
  obtain ⟨h1, h2, h3, h4, vs, h5, h6⟩ := S; exact ⟨h1.keep K, h2.keep K q, h3.keep K q, h4.keep K q, vs, h5.keep K r, h6⟩
theorem oFld_det {C n d : String} {v w : Value} (F : Fld Z h a C n d v) (G : Fld Z h a C n d w) : v = w := Classical.byContradiction fun q => absurd rfl (Fld.ne F G q)
end SB
theorem oSB_ne {a0 : Array Value} {Z : State} {EL : List (String × Nat)} (hG : oG a0 Z EL) {h : Heap} {sb b : Addr} {cs : List Int32} {cap : Nat} (S : oSB Z h sb b cs cap) : sb ≠ b := by
  obtain ⟨h1, -, -, -, vs, ⟨cl, h2, -⟩, -⟩ := S
  exact ne_arr h1 (w59 hG) h2
set_option maxRecDepth 65536 in
set_option maxHeartbeats 4000000 in
theorem c_min {l : Launch} {Z : State} {a0 : Array Value} {EL : List (String × Nat)} (hG : oG a0 Z EL) (i j : Nat) (hi : i < 2147483648) (hj : j < 2147483648) (h : Heap)  :
    oCtr [] l Z a0 EL True (⟨"java/lang/Math", "min", "(II)I"⟩ : MethodName) jdk_29_method_69_code 2 (some .int) ({ frames := 0, cells := 0, slots := 0, locals := 0 } : Room) #[.int (Int32.ofNat i), .int (Int32.ofNat j)] [] h (fun v h' => v = some (.int (Int32.ofNat (min i j))) ∧ h' = h) oNo := by
  refine oCtr.enter (Ls := #[.val (.int (Int32.ofNat i)), .val (.int (Int32.ofNat j))]) (Jvm.Free.JP.mathPlain rfl (by decide +kernel)) hG.2.1 (fun m => by first | (simp [entryFrame, mkF, argsToLocals, Value.category]; done) | rfl) ?_
  intro pP eE sS mM bB tT cC
  refine oGo.iload_n (pc' := 1) d30_0 rfl rfl ?_
  refine oGo.iload_n (pc' := 2) d30_1 rfl rfl ?_
  refine oGo.icmp_gt (pc1 := 5) (pc2 := 9) d30_2 rfl (by decide) (fun q => ?_) (fun q => ?_)
  · refine oGo.iload_n (pc' := 10) d30_9 rfl rfl ?_
    exact oGo.ireturn d30_10 rfl (by decide) (by decide) ⟨by rw [Nat.min_eq_right (by rw [own_lt hj hi] at q; omega)], rfl⟩ (fun _ q => q.elim)
  · refine oGo.iload_n (pc' := 6) d30_5 rfl rfl ?_
    refine oGo.goto (pc' := 10) d30_6 (by decide) ?_
    exact oGo.ireturn d30_10 rfl (by decide) (by decide) ⟨by rw [Nat.min_eq_left (by rw [own_lt hj hi] at q; omega)], rfl⟩ (fun _ q => q.elim)
set_option maxRecDepth 65536 in
set_option maxHeartbeats 4000000 in
theorem c_max {l : Launch} {Z : State} {a0 : Array Value} {EL : List (String × Nat)} (hG : oG a0 Z EL) (i j : Nat) (hi : i < 2147483648) (hj : j < 2147483648) (h : Heap)  :
    oCtr [] l Z a0 EL True (⟨"java/lang/Math", "max", "(II)I"⟩ : MethodName) jdk_29_method_65_code 2 (some .int) ({ frames := 0, cells := 0, slots := 0, locals := 0 } : Room) #[.int (Int32.ofNat i), .int (Int32.ofNat j)] [] h (fun v h' => v = some (.int (Int32.ofNat (max i j))) ∧ h' = h) oNo := by
  refine oCtr.enter (Ls := #[.val (.int (Int32.ofNat i)), .val (.int (Int32.ofNat j))]) (Jvm.Free.JP.mathPlain rfl (by decide +kernel)) hG.2.1 (fun m => by first | (simp [entryFrame, mkF, argsToLocals, Value.category]; done) | rfl) ?_
  intro pP eE sS mM bB tT cC
  refine oGo.iload_n (pc' := 1) d35_0 rfl rfl ?_
  refine oGo.iload_n (pc' := 2) d35_1 rfl rfl ?_
  refine oGo.icmp_lt (pc1 := 5) (pc2 := 9) d35_2 rfl (by decide) (fun q => ?_) (fun q => ?_)
  · refine oGo.iload_n (pc' := 10) d35_9 rfl rfl ?_
    exact oGo.ireturn d35_10 rfl (by decide) (by decide) ⟨by rw [Nat.max_eq_right (by rw [own_lt hi hj] at q; omega)], rfl⟩ (fun _ q => q.elim)
  · refine oGo.iload_n (pc' := 6) d35_5 rfl rfl ?_
    refine oGo.goto (pc' := 10) d35_6 (by decide) ?_
    exact oGo.ireturn d35_10 rfl (by decide) (by decide) ⟨by rw [Nat.max_eq_left (by rw [own_lt hi hj] at q; omega)], rfl⟩ (fun _ q => q.elim)
set_option maxRecDepth 65536 in
set_option maxHeartbeats 4000000 in
theorem c_checkLength {l : Launch} {Z : State} {a0 : Array Value} {EL : List (String × Nat)} (hG : oG a0 Z EL) (i j : Nat) (hij : i ≤ j) (hj : j < 2147483648) (h : Heap)  :
    oCtr [] l Z a0 EL True (⟨"java/util/Arrays", "checkLength", "(II)V"⟩ : MethodName) jdk_65_method_131_code 2 none ({ frames := 0, cells := 0, slots := 0, locals := 0 } : Room) #[.int (Int32.ofNat i), .int (Int32.ofNat j)] [] h (fun v h' => v = none ∧ h' = h) oNo := by
  refine oCtr.enter (Ls := #[.val (.int (Int32.ofNat i)), .val (.int (Int32.ofNat j))]) (plainFor_of_name pn2) hG.2.1 (fun m => by first | (simp [entryFrame, mkF, argsToLocals, Value.category]; done) | rfl) ?_
  intro pP eE sS mM bB tT cC
  refine oGo.iload_n (pc' := 1) d29_0 rfl rfl ?_
  refine oGo.iload_n (pc' := 2) d29_1 rfl rfl ?_
  refine oGo.icmp_ge (pc1 := 5) (pc2 := 37) d29_2 rfl (by decide) (fun q1 => ?_) (fun q => absurd q (by rw [own_lt hj (by omega)]; omega))
  exact oGo.return_ d29_37 rfl (by decide) (by decide) ⟨rfl, rfl⟩ (fun _ q => q.elim)
abbrev q_cor (Z : State) (h : Heap) (vs : List Value) (i j : Nat) : Option Value → Heap → Prop := fun v h' => Keep h h' [] ∧ ∃ t : Nat, v = some (.ref t) ∧ h.size ≤ t ∧ oArr Z h' t .byte ((vs.drop i).take (j - i))
set_option maxRecDepth 65536 in
set_option maxHeartbeats 4000000 in
theorem c_corb {l : Launch} {Z : State} {a0 : Array Value} {EL : List (String × Nat)} (hG : oG a0 Z EL) (a : Nat) (vs : List Value) (i j : Nat) (hij : i ≤ j) (hj : j ≤ vs.length) (hN : j - i ≤ 20) (h : Heap) (A : oArr Z h a .byte vs) :
    oCtr [] l Z a0 EL True (⟨"java/util/Arrays", "copyOfRangeByte", "([BII)[B"⟩ : MethodName) jdk_65_method_133_code 5 (some (.array .byte)) ({ frames := 1, cells := 1, slots := 20, locals := 18 } : Room) #[.ref a, .int (Int32.ofNat i), .int (Int32.ofNat j)] [] h ((q_cor Z h vs i j)) oRet := by
  have hb31 : vs.length < 2147483648 := by obtain ⟨_, _, _, q, _⟩ := A; exact q
  have hal := own_ltN A.lt
  refine oCtr.enter (Ls := #[.val (.ref a), .val (.int (Int32.ofNat i)), .val (.int (Int32.ofNat j)), .unset, .unset]) (plainFor_of_name pn2) hG.2.1 (fun m => by first | (simp [entryFrame, mkF, argsToLocals, Value.category]; done) | rfl) ?_
  intro pP eE sS mM bB tT cC
  refine oGo.iload_n (pc' := 1) d28_0 rfl rfl ?_
  refine oGo.iload_n (pc' := 2) d28_1 rfl rfl ?_
  refine oGo.invokestatic (pc' := 5) (k' := 0) (n' := 0) (argsL := [.int (Int32.ofNat i), .int (Int32.ofNat j)]) (rest := []) d28_2 rfl (w162 hG) (w163 hG) (w157 hG) (w164 hG) (by decide) pd5 rfl rfl rfl (c_checkLength hG i j hij (by omega) h) (by simp) (by decide) (Nat.le_of_ble_eq_true rfl) rfl rfl (by decide) (by decide) ?_
  intro v1 h2 sh2 q3
  obtain ⟨rfl, ee⟩ := q3
  obtain rfl := ee.symm
  refine ⟨_, fun _ hx => Or.inl hx, ?_⟩
  show oGo l Z a0 EL True pP eE sS mM _ bB tT cC _ _ _ _ _ _ _ _ [] h 0 0 5 #[.val (.ref a), .val (.int (Int32.ofNat i)), .val (.int (Int32.ofNat j)), .unset, .unset] []
  refine oGo.iload_n (pc' := 6) d28_5 rfl rfl ?_
  refine oGo.iload_n (pc' := 7) d28_6 rfl rfl ?_
  refine oGo.isub (pc' := 8) d28_7 rfl ?_
  rw [own_subN hij (by omega)]
  refine oGo.istore_n (pc' := 9) (Ls' := #[.val (.ref a), .val (.int (Int32.ofNat i)), .val (.int (Int32.ofNat j)), .val (.int (Int32.ofNat (j - i))), .unset]) d28_8 rfl rfl ?_
  refine oGo.iload_n (pc' := 10) d28_9 rfl rfl ?_
  refine oGo.newarray (pc' := 12) (k' := 1) (n' := 20) (i := (j - i)) d28_10 rfl (w19 hG) rfl 20 (hN) (by decide) rfl rfl (by decide) (by decide) (by decide) ?_
  intro h4 a5 qa5 la5 E6 A7'
  have A7 : oArr Z h4 a5 .byte (List.replicate ((j - i)) (.int 0)) := A7'
  refine oGo.astore (pc' := 14) (Ls' := #[.val (.ref a), .val (.int (Int32.ofNat i)), .val (.int (Int32.ofNat j)), .val (.int (Int32.ofNat (j - i))), .val (.ref a5)]) d28_12 rfl rfl rfl ?_
  refine oGo.aload_n (pc' := 15) d28_14 rfl rfl rfl ?_
  refine oGo.iload_n (pc' := 16) d28_15 rfl rfl ?_
  refine oGo.aload (pc' := 18) d28_16 rfl rfl rfl ?_
  refine oGo.iconst (pc' := 19) (v := 0) d28_18 rfl (by decide) ?_
  refine oGo.aload_n (pc' := 20) d28_19 rfl rfl rfl ?_
  have f8 := oArr.ext E6 A
  refine oGo.arraylength (pc' := 21) (z := (Int32.ofNat vs.length)) d28_20 rfl f8 rfl ?_
  refine oGo.iload_n (pc' := 22) d28_21 rfl rfl ?_
  refine oGo.isub (pc' := 23) d28_22 rfl ?_
  rw [own_subN (i := i) (j := vs.length) (by omega) hb31]
  refine oGo.iload_n (pc' := 24) d28_23 rfl rfl ?_
  refine oGo.invokestatic (pc' := 27) (k' := 1) (n' := 20) (argsL := [.int (Int32.ofNat (vs.length - i)), .int (Int32.ofNat (j - i))]) (rest := [.int (0 : Int32), .ref a5, .int (Int32.ofNat i), .ref a]) d28_24 rfl (w165 hG) (w166 hG) (w167 hG) (w168 hG) (by decide) pd6 rfl rfl rfl (c_min hG (vs.length - i) (j - i) (by omega) (by omega) _) (by simp) (by decide) (Nat.le_of_ble_eq_true rfl) rfl rfl (by decide) (by decide) ?_
  intro v9 h10 sh10 q11
  obtain ⟨rfl, ee⟩ := q11
  obtain rfl := ee.symm
  refine ⟨_, fun _ hx => Or.inl hx, ?_⟩
  show oGo l Z a0 EL True pP eE sS mM _ bB tT cC _ _ _ _ _ _ _ _ [a5] h4 1 20 27 #[.val (.ref a), .val (.int (Int32.ofNat i)), .val (.int (Int32.ofNat j)), .val (.int (Int32.ofNat (j - i))), .val (.ref a5)] [.int (Int32.ofNat (min (vs.length - i) (j - i))), .int (0 : Int32), .ref a5, .int (Int32.ofNat i), .ref a]
  rw [Nat.min_eq_right (by omega : j - i ≤ vs.length - i)]
  refine oGo.arraycopy (pc' := 30) (i := i) (j := 0) (q := (j - i)) d28_27 rfl (w169 hG) (w123 hG) (w121 hG) (w122 hG) f8 A7 (by omega) (by simp) rfl (by decide) (Nat.le_of_ble_eq_true rfl) (by simp) ?_
  intro h12 K13 sh12 A14
  refine oGo.aload (pc' := 32) d28_30 rfl rfl rfl ?_
  exact oGo.areturn d28_32 rfl rfl rfl rfl (by decide) (by decide) ⟨((Keep.refl h []).ext E6).trans K13 (own_new1 (by omega)), a5, rfl, by omega, by simpa using A14⟩ (fun x q => by cases q; simp)
set_option maxRecDepth 65536 in
set_option maxHeartbeats 4000000 in
theorem c_cor {l : Launch} {Z : State} {a0 : Array Value} {EL : List (String × Nat)} (hG : oG a0 Z EL) (a : Nat) (vs : List Value) (i j : Nat) (hij : i ≤ j) (hj : j ≤ vs.length) (hN : j - i ≤ 20) (hne : ¬ (i = 0 ∧ j = vs.length)) (h : Heap) (A : oArr Z h a .byte vs) :
    oCtr [] l Z a0 EL True (⟨"java/util/Arrays", "copyOfRange", "([BII)[B"⟩ : MethodName) jdk_65_method_132_code 3 (some (.array .byte)) ({ frames := 2, cells := 1, slots := 20, locals := 34 } : Room) #[.ref a, .int (Int32.ofNat i), .int (Int32.ofNat j)] [] h ((q_cor Z h vs i j)) oRet := by
  have hb31 : vs.length < 2147483648 := by obtain ⟨_, _, _, q, _⟩ := A; exact q
  refine oCtr.enter (Ls := #[.val (.ref a), .val (.int (Int32.ofNat i)), .val (.int (Int32.ofNat j))]) (plainFor_of_name pn2) hG.2.1 (fun m => by first | (simp [entryFrame, mkF, argsToLocals, Value.category]; done) | rfl) ?_
  intro pP eE sS mM bB tT cC
  refine oGo.iload_n (pc' := 1) d27_0 rfl rfl ?_
  refine oGo.if_ne (pc1 := 4) (pc2 := 10) d27_1 rfl (by decide) (fun q => ?_) (fun q => ?_)
  · refine oGo.aload_n (pc' := 11) d27_10 rfl rfl rfl ?_
    refine oGo.iload_n (pc' := 12) d27_11 rfl rfl ?_
    refine oGo.iload_n (pc' := 13) d27_12 rfl rfl ?_
    refine oGo.invokestatic (pc' := 16) (k' := 1) (n' := 20) (argsL := [.ref a, .int (Int32.ofNat i), .int (Int32.ofNat j)]) (rest := []) d27_13 rfl (w159 hG) (w160 hG) (w157 hG) (w161 hG) (by decide) pd7 rfl rfl rfl (c_corb hG a vs i j hij hj hN h A) (by simp) (by decide) (Nat.le_of_ble_eq_true rfl) rfl rfl (by decide) (by decide) ?_
    intro v1 h2 sh2 q3
    obtain ⟨K2, t, rfl, ht, B⟩ := q3
    refine ⟨[t], own_D1 (rfl), ?_⟩
    show oGo l Z a0 EL True pP eE sS mM _ bB tT cC _ _ _ _ _ _ _ _ [t] h2 1 20 16 #[.val (.ref a), .val (.int (Int32.ofNat i)), .val (.int (Int32.ofNat j))] [.ref t]
    exact oGo.areturn d27_16 rfl rfl rfl rfl (by decide) (by decide) ⟨K2, t, rfl, ht, B⟩ (fun x q => by cases q; simp)
  · have hi0 : i = 0 := (own_eq (b := 0) (by omega) (by omega)).mp q
    refine oGo.iload_n (pc' := 5) d27_4 rfl rfl ?_
    refine oGo.aload_n (pc' := 6) d27_5 rfl rfl rfl ?_
    refine oGo.arraylength (pc' := 7) (z := (Int32.ofNat vs.length)) d27_6 rfl A rfl ?_
    refine oGo.icmp_eq (pc1 := 10) (pc2 := 17) d27_7 rfl (by decide) (fun q => absurd ⟨hi0, (own_eq (by omega) hb31).mp q⟩ hne) (fun q4 => ?_)
    refine oGo.aload_n (pc' := 11) d27_10 rfl rfl rfl ?_
    refine oGo.iload_n (pc' := 12) d27_11 rfl rfl ?_
    refine oGo.iload_n (pc' := 13) d27_12 rfl rfl ?_
    refine oGo.invokestatic (pc' := 16) (k' := 1) (n' := 20) (argsL := [.ref a, .int (Int32.ofNat i), .int (Int32.ofNat j)]) (rest := []) d27_13 rfl (w159 hG) (w160 hG) (w157 hG) (w161 hG) (by decide) pd7 rfl rfl rfl (c_corb hG a vs i j hij hj hN h A) (by simp) (by decide) (Nat.le_of_ble_eq_true rfl) rfl rfl (by decide) (by decide) ?_
    intro v5 h6 sh6 q7
    obtain ⟨K2, t, rfl, ht, B⟩ := q7
    refine ⟨[t], own_D1 (rfl), ?_⟩
    show oGo l Z a0 EL True pP eE sS mM _ bB tT cC _ _ _ _ _ _ _ _ [t] h6 1 20 16 #[.val (.ref a), .val (.int (Int32.ofNat i)), .val (.int (Int32.ofNat j))] [.ref t]
    exact oGo.areturn d27_16 rfl rfl rfl rfl (by decide) (by decide) ⟨K2, t, rfl, ht, B⟩ (fun x q => by cases q; simp)
abbrev q_copyOf (Z : State) (h : Heap) (vs : List Value) (q : Nat) : Option Value → Heap → Prop := fun v h' => Keep h h' [] ∧ ∃ t : Nat, v = some (.ref t) ∧ h.size ≤ t ∧ oArr Z h' t .byte (vs ++ List.replicate (q - vs.length) (.int 0))
set_option maxRecDepth 65536 in
set_option maxHeartbeats 4000000 in
theorem c_copyOf {l : Launch} {Z : State} {a0 : Array Value} {EL : List (String × Nat)} (hG : oG a0 Z EL) (a : Nat) (vs : List Value) (q : Nat) (hq : vs.length < q) (hN : q ≤ 34) (h : Heap) (A : oArr Z h a .byte vs) :
    oCtr [] l Z a0 EL True (⟨"java/util/Arrays", "copyOf", "([BI)[B"⟩ : MethodName) jdk_65_method_121_code 3 (some (.array .byte)) ({ frames := 1, cells := 1, slots := 34, locals := 18 } : Room) #[.ref a, .int (Int32.ofNat q)] [] h ((q_copyOf Z h vs q)) oRet := by
  have hal := own_ltN A.lt
  refine oCtr.enter (Ls := #[.val (.ref a), .val (.int (Int32.ofNat q)), .unset]) (plainFor_of_name pn2) hG.2.1 (fun m => by first | (simp [entryFrame, mkF, argsToLocals, Value.category]; done) | rfl) ?_
  intro pP eE sS mM bB tT cC
  refine oGo.iload_n (pc' := 1) d36_0 rfl rfl ?_
  refine oGo.aload_n (pc' := 2) d36_1 rfl rfl rfl ?_
  refine oGo.arraylength (pc' := 3) (z := (Int32.ofNat vs.length)) d36_2 rfl A rfl ?_
  refine oGo.icmp_ne (pc1 := 6) (pc2 := 14) d36_3 rfl (by decide) (fun q1 => ?_) (fun q => absurd ((own_eq (by omega) (by omega)).mp q) (by omega))
  refine oGo.iload_n (pc' := 15) d36_14 rfl rfl ?_
  refine oGo.newarray (pc' := 17) (k' := 1) (n' := 34) (i := q) d36_15 rfl (w19 hG) rfl 34 (hN) (by decide) rfl rfl (by decide) (by decide) (by decide) ?_
  intro h2 a3 qa3 la3 E4 A5'
  have A5 : oArr Z h2 a3 .byte (List.replicate (q) (.int 0)) := A5'
  refine oGo.astore_n (pc' := 18) (Ls' := #[.val (.ref a), .val (.int (Int32.ofNat q)), .val (.ref a3)]) d36_17 rfl rfl rfl ?_
  refine oGo.aload_n (pc' := 19) d36_18 rfl rfl rfl ?_
  refine oGo.iconst (pc' := 20) (v := 0) d36_19 rfl (by decide) ?_
  refine oGo.aload_n (pc' := 21) d36_20 rfl rfl rfl ?_
  refine oGo.iconst (pc' := 22) (v := 0) d36_21 rfl (by decide) ?_
  refine oGo.aload_n (pc' := 23) d36_22 rfl rfl rfl ?_
  have f6 := oArr.ext E4 A
  refine oGo.arraylength (pc' := 24) (z := (Int32.ofNat vs.length)) d36_23 rfl f6 rfl ?_
  refine oGo.iload_n (pc' := 25) d36_24 rfl rfl ?_
  refine oGo.invokestatic (pc' := 28) (k' := 1) (n' := 34) (argsL := [.int (Int32.ofNat vs.length), .int (Int32.ofNat q)]) (rest := [.int (0 : Int32), .ref a3, .int (0 : Int32), .ref a]) d36_25 rfl (w165 hG) (w166 hG) (w167 hG) (w168 hG) (by decide) pd6 rfl rfl rfl (c_min hG vs.length q (by omega) (by omega) _) (by simp) (by decide) (Nat.le_of_ble_eq_true rfl) rfl rfl (by decide) (by decide) ?_
  intro v7 h8 sh8 q9
  obtain ⟨rfl, ee⟩ := q9
  obtain rfl := ee.symm
  refine ⟨_, fun _ hx => Or.inl hx, ?_⟩
  show oGo l Z a0 EL True pP eE sS mM _ bB tT cC _ _ _ _ _ _ _ _ [a3] h2 1 34 28 #[.val (.ref a), .val (.int (Int32.ofNat q)), .val (.ref a3)] [.int (Int32.ofNat (min vs.length q)), .int (0 : Int32), .ref a3, .int (0 : Int32), .ref a]
  rw [Nat.min_eq_left (by omega : vs.length ≤ q)]
  refine oGo.arraycopy (pc' := 31) (i := 0) (j := 0) (q := vs.length) d36_28 rfl (w169 hG) (w123 hG) (w121 hG) (w122 hG) f6 A5 (by omega) (by simp; omega) rfl (by decide) (Nat.le_of_ble_eq_true rfl) (by simp) ?_
  intro h10 K11 sh10 A12
  refine oGo.aload_n (pc' := 32) d36_31 rfl rfl rfl ?_
  exact oGo.areturn d36_32 rfl rfl rfl rfl (by decide) (by decide) ⟨((Keep.refl h []).ext E4).trans K11 (own_new1 (by omega)), a3, rfl, by omega, by simpa using A12⟩ (fun x q => by cases q; simp)
abbrev q_sbInit (Z : State) (h : Heap) (sb : Nat) (cap : Nat) : Option Value → Heap → Prop := fun v h' => v = none ∧ Keep h h' [sb] ∧ ∃ b : Nat, h.size ≤ b ∧ oSB Z h' sb b [] cap
set_option maxRecDepth 65536 in
set_option maxHeartbeats 4000000 in
theorem c_asbInit {l : Launch} {Z : State} {a0 : Array Value} {EL : List (String × Nat)} (hG : oG a0 Z EL) (sb : Nat) (q : Nat) (hq : q ≤ 16) (u : Value) (h : Heap) (E : Exa Z h sb "java/lang/StringBuilder") (F1 : Fld Z h sb "java/lang/AbstractStringBuilder" "value" "[B" u) (F2 : Fld Z h sb "java/lang/AbstractStringBuilder" "coder" "B" (.int 0)) (F3 : Fld Z h sb "java/lang/AbstractStringBuilder" "count" "I" (.int 0)) :
    oCtr [] l Z a0 EL True (⟨"java/lang/AbstractStringBuilder", "<init>", "(I)V"⟩ : MethodName) jdk_68_method_2_code 2 none ({ frames := 1, cells := 1, slots := 16, locals := 12 } : Room) #[.ref sb, .int (Int32.ofNat q)] [sb] h ((q_sbInit Z h sb q)) (oBuf Z sb) := by
  obtain ⟨z, hzs, hz⟩ := sCOMPACT hG
  have hsl := own_ltN E.lt
  refine oCtr.enter (Ls := #[.val (.ref sb), .val (.int (Int32.ofNat q))]) (plainFor_of_name pn3) hG.2.1 (fun m => by first | (simp [entryFrame, mkF, argsToLocals, Value.category]; done) | rfl) ?_
  intro pP eE sS mM bB tT cC
  refine oGo.aload_n (pc' := 1) d11_0 rfl rfl rfl ?_
  refine oGo.objinit (pc' := 4) d11_1 rfl (w70 hG) (w12 hG) (w13 hG) rfl (by decide) (Nat.le_of_ble_eq_true rfl) ?_
  refine oGo.getstatic (pc' := 7) d11_4 rfl (w71 hG) Via.refl hzs ?_
  refine oGo.if_eq (pc1 := 10) (pc2 := 25) d11_7 rfl (by decide) (fun q => absurd q hz) (fun q1 => ?_)
  refine oGo.aload_n (pc' := 11) d11_10 rfl rfl rfl ?_
  refine oGo.iload_n (pc' := 12) d11_11 rfl rfl ?_
  refine oGo.newarray (pc' := 14) (k' := 1) (n' := 16) (i := q) d11_12 rfl (w19 hG) rfl 16 (hq) (by decide) rfl rfl (by decide) (by decide) (by decide) ?_
  intro h2 a3 qa3 la3 E4 A5'
  have A5 : oArr Z h2 a3 .byte (List.replicate (q) (.int 0)) := A5'
  have f6 := Fld.ext E4 F1
  have f7 := Exa.ext E4 E
  refine oGo.putfield (pc' := 17) (ty := (.array .byte)) d11_14 rfl (w72 hG) Via.refl f6 f7 (Or.inl (w73 hG)) (w59 hG) (by decide) rfl rfl (by simp) ?_
  intro h8 W9 sh8
  have f10 := Fld.same W9 f6
  refine oGo.aload_n (pc' := 18) d11_17 rfl rfl rfl ?_
  refine oGo.iconst (pc' := 19) (v := 0) d11_18 rfl (by decide) ?_
  have f11 := Fld.ext E4 F2
  have f12 := Fld.other W9 f11 (Or.inr (slot_ne (C := "java/lang/StringBuilder") (Or.inl (w75 hG)) (Or.inl (w73 hG)) (by decide) (t := .byte) (t' := (.array .byte)) (by decide) (by decide)))
  have f13 := Exa.wr W9 f7
  refine oGo.putfield (pc' := 22) (ty := .byte) d11_19 rfl (w74 hG) Via.refl f12 f13 (Or.inl (w75 hG)) (w59 hG) (by decide) (by decide) (by decide) (by simp) ?_
  intro h14 W15 sh14
  have f16 := Fld.same W15 f12
  refine oGo.goto (pc' := 38) d11_22 (by decide) ?_
  have f17 := Exa.wr W15 f13
  have f18 := Fld.other W15 f10 (Or.inr (slot_ne (C := "java/lang/StringBuilder") (Or.inl (w73 hG)) (Or.inl (w75 hG)) (by decide) (t := (.array .byte)) (t' := .byte) (by decide) (by decide)))
  have f19 := Fld.ext E4 F3
  have f20 := Fld.other W9 f19 (Or.inr (slot_ne (C := "java/lang/StringBuilder") (Or.inl (w98 hG)) (Or.inl (w73 hG)) (by decide) (t := .int) (t' := (.array .byte)) (by decide) (by decide)))
  have f21 := Fld.other W15 f20 (Or.inr (slot_ne (C := "java/lang/StringBuilder") (Or.inl (w98 hG)) (Or.inl (w75 hG)) (by decide) (t := .int) (t' := .byte) (by decide) (by decide)))
  have f22 := oArr.other W9 A5 (own_ne (by omega))
  have f23 := oArr.other W15 f22 (own_ne (by omega))
  exact oGo.return_ d11_38 rfl (by decide) (by decide) ⟨rfl, ((((Keep.refl h [sb]).ext E4).wr W9 (Or.inl (by simp))).wr W15 (Or.inl (by simp))), a3, by omega, f17, f18, f16, f21, _, f23, by simp, by simp, by simp⟩ (fun x q => by cases oFld_det f18 q; simp)
set_option maxRecDepth 65536 in
set_option maxHeartbeats 4000000 in
theorem c_sbInit {l : Launch} {Z : State} {a0 : Array Value} {EL : List (String × Nat)} (hG : oG a0 Z EL) (sb : Nat) (u : Value) (h : Heap) (E : Exa Z h sb "java/lang/StringBuilder") (F1 : Fld Z h sb "java/lang/AbstractStringBuilder" "value" "[B" u) (F2 : Fld Z h sb "java/lang/AbstractStringBuilder" "coder" "B" (.int 0)) (F3 : Fld Z h sb "java/lang/AbstractStringBuilder" "count" "I" (.int 0)) :
    oCtr [] l Z a0 EL True (⟨"java/lang/StringBuilder", "<init>", "()V"⟩ : MethodName) jdk_67_method_1_code 1 none ({ frames := 2, cells := 1, slots := 16, locals := 25 } : Room) #[.ref sb] [sb] h ((q_sbInit Z h sb 16)) (oBuf Z sb) := by
  refine oCtr.enter (Ls := #[.val (.ref sb)]) (plainFor_of_name pn4) hG.2.1 (fun m => by first | (simp [entryFrame, mkF, argsToLocals, Value.category]; done) | rfl) ?_
  intro pP eE sS mM bB tT cC
  refine oGo.aload_n (pc' := 1) d10_0 rfl rfl rfl ?_
  refine oGo.bipush (pc' := 3) (v := 16) d10_1 rfl (by decide) ?_
  refine oGo.invokespecial (pc' := 6) (k' := 1) (n' := 16) (a := sb) (argsL := [.int (16 : Int32)]) (rest := []) d10_3 rfl rfl (w64 hG) (w65 hG) (w68 hG) (w69 hG) (by decide) pd8 rfl rfl rfl (c_asbInit hG sb 16 (by decide) u h E F1 F2 F3) (by simp) (by decide) (Nat.le_of_ble_eq_true rfl) rfl rfl (by decide) (by decide) ?_
  intro v1 h2 sh2 q3
  obtain ⟨rfl, K2, b, hb, S2⟩ := q3
  refine ⟨[b, sb], own_D1 (S2.2.1), ?_⟩
  show oGo l Z a0 EL True pP eE sS mM _ bB tT cC _ _ _ _ _ _ _ _ [b, sb] h2 1 16 6 #[.val (.ref sb)] []
  exact oGo.return_ d10_6 rfl (by decide) (by decide) ⟨rfl, K2, b, hb, S2⟩ (fun x q => by cases oFld_det S2.2.1 q; simp)
set_option maxRecDepth 65536 in
set_option maxHeartbeats 4000000 in
theorem c_newLength {l : Launch} {Z : State} {a0 : Array Value} {EL : List (String × Nat)} (hG : oG a0 Z EL) (o g f : Nat) (ho : o < 100000) (hg : g < 100000) (hf : f < 100000) (h0 : 0 < g) (h : Heap)  :
    oCtr [] l Z a0 EL True (⟨"jdk/internal/util/ArraysSupport", "newLength", "(III)I"⟩ : MethodName) jdk_48_method_27_code 4 (some .int) ({ frames := 1, cells := 0, slots := 0, locals := 14 } : Room) #[.int (Int32.ofNat o), .int (Int32.ofNat g), .int (Int32.ofNat f)] [] h (fun v h' => v = some (.int (Int32.ofNat (o + max g f))) ∧ h' = h) oNo := by
  refine oCtr.enter (Ls := #[.val (.int (Int32.ofNat o)), .val (.int (Int32.ofNat g)), .val (.int (Int32.ofNat f)), .unset]) (plainFor_of_name pn5) hG.2.1 (fun m => by first | (simp [entryFrame, mkF, argsToLocals, Value.category]; done) | rfl) ?_
  intro pP eE sS mM bB tT cC
  refine oGo.iload_n (pc' := 1) d34_0 rfl rfl ?_
  refine oGo.iload_n (pc' := 2) d34_1 rfl rfl ?_
  refine oGo.iload_n (pc' := 3) d34_2 rfl rfl ?_
  refine oGo.invokestatic (pc' := 6) (k' := 0) (n' := 0) (argsL := [.int (Int32.ofNat g), .int (Int32.ofNat f)]) (rest := [.int (Int32.ofNat o)]) d34_3 rfl (w191 hG) (w192 hG) (w167 hG) (w193 hG) (by decide) pd6 rfl rfl rfl (c_max hG g f (by omega) (by omega) h) (by simp) (by decide) (Nat.le_of_ble_eq_true rfl) rfl rfl (by decide) (by decide) ?_
  intro v1 h2 sh2 q3
  obtain ⟨rfl, ee⟩ := q3
  obtain rfl := ee.symm
  refine ⟨_, fun _ hx => Or.inl hx, ?_⟩
  show oGo l Z a0 EL True pP eE sS mM _ bB tT cC _ _ _ _ _ _ _ _ [] h 0 0 6 #[.val (.int (Int32.ofNat o)), .val (.int (Int32.ofNat g)), .val (.int (Int32.ofNat f)), .unset] [.int (Int32.ofNat (max g f)), .int (Int32.ofNat o)]
  refine oGo.iadd (pc' := 7) d34_6 rfl ?_
  rw [← Int32.ofNat_add]
  refine oGo.istore_n (pc' := 8) (Ls' := #[.val (.int (Int32.ofNat o)), .val (.int (Int32.ofNat g)), .val (.int (Int32.ofNat f)), .val (.int (Int32.ofNat (o + max g f)))]) d34_7 rfl rfl ?_
  refine oGo.iconst (pc' := 9) (v := 0) d34_8 rfl (by decide) ?_
  refine oGo.iload_n (pc' := 10) d34_9 rfl rfl ?_
  refine oGo.icmp_ge (pc1 := 13) (pc2 := 21) d34_10 rfl (by decide) (fun q => absurd ((own_lt (a := 0) (by omega) (by omega)).mpr (by omega)) q) (fun q4 => ?_)
  refine oGo.iload_n (pc' := 14) d34_13 rfl rfl ?_
  refine oGo.ldc_int (pc' := 16) d34_14 rfl (w194 hG) ?_
  refine oGo.icmp_gt (pc1 := 19) (pc2 := 21) d34_16 rfl (by decide) (fun q => absurd q (by rw [show (2147483639 : Int32) = Int32.ofNat 2147483639 from rfl, own_lt (by omega) (by omega)]; omega)) (fun q5 => ?_)
  refine oGo.iload_n (pc' := 20) d34_19 rfl rfl ?_
  exact oGo.ireturn d34_20 rfl (by decide) (by decide) ⟨rfl, rfl⟩ (fun _ q => q.elim)
set_option maxRecDepth 65536 in
set_option maxHeartbeats 4000000 in
theorem c_newCapacity {l : Launch} {Z : State} {a0 : Array Value} {EL : List (String × Nat)} (hG : oG a0 Z EL) (sb b : Nat) (cs : List Int32) (cap q : Nat) (hc : cap < 10000) (hq : q < 10000) (hlt : cap < q) (h : Heap) (SB : oSB Z h sb b cs cap) :
    oCtr [] l Z a0 EL True (⟨"java/lang/AbstractStringBuilder", "newCapacity", "(I)I"⟩ : MethodName) jdk_68_method_10_code 6 (some .int) ({ frames := 2, cells := 0, slots := 0, locals := 29 } : Room) #[.ref sb, .int (Int32.ofNat q)] [] h (fun v h' => v = some (.int (Int32.ofNat (capF cap q))) ∧ h' = h) oNo := by
  refine oCtr.enter (Ls := #[.val (.ref sb), .val (.int (Int32.ofNat q)), .unset, .unset, .unset, .unset]) (plainFor_of_name pn3) hG.2.1 (fun m => by first | (simp [entryFrame, mkF, argsToLocals, Value.category]; done) | rfl) ?_
  intro pP eE sS mM bB tT cC
  obtain ⟨E, F1, F2, F3, vs, B, hcap, hvs, hle⟩ := SB
  have hsl := own_ltN E.lt
  have hbl := own_ltN B.lt
  refine oGo.aload_n (pc' := 1) d33_0 rfl rfl rfl ?_
  refine oGo.getfield (pc' := 4) d33_1 rfl (w72 hG) Via.refl F1 ?_
  refine oGo.arraylength (pc' := 5) (z := (Int32.ofNat cap)) d33_4 rfl B (by rw [hcap]) ?_
  refine oGo.istore_n (pc' := 6) (Ls' := #[.val (.ref sb), .val (.int (Int32.ofNat q)), .val (.int (Int32.ofNat cap)), .unset, .unset, .unset]) d33_5 rfl rfl ?_
  refine oGo.iload_n (pc' := 7) d33_6 rfl rfl ?_
  refine oGo.aload_n (pc' := 8) d33_7 rfl rfl rfl ?_
  refine oGo.getfield (pc' := 11) d33_8 rfl (w74 hG) Via.refl F2 ?_
  refine oGo.ishl (pc' := 12) d33_11 rfl ?_
  rw [shl0]
  refine oGo.istore_n (pc' := 13) (Ls' := #[.val (.ref sb), .val (.int (Int32.ofNat q)), .val (.int (Int32.ofNat cap)), .val (.int (Int32.ofNat q)), .unset, .unset]) d33_12 rfl rfl ?_
  refine oGo.iload_n (pc' := 14) d33_13 rfl rfl ?_
  refine oGo.iload_n (pc' := 15) d33_14 rfl rfl ?_
  refine oGo.isub (pc' := 16) d33_15 rfl ?_
  rw [own_subN (by omega : cap ≤ q) (by omega)]
  refine oGo.istore (pc' := 18) (Ls' := #[.val (.ref sb), .val (.int (Int32.ofNat q)), .val (.int (Int32.ofNat cap)), .val (.int (Int32.ofNat q)), .val (.int (Int32.ofNat (q - cap))), .unset]) d33_16 rfl rfl ?_
  refine oGo.iload_n (pc' := 19) d33_18 rfl rfl ?_
  refine oGo.iload (pc' := 21) d33_19 rfl rfl ?_
  refine oGo.iload_n (pc' := 22) d33_21 rfl rfl ?_
  refine oGo.iconst (pc' := 23) (v := 2) d33_22 rfl (by decide) ?_
  refine oGo.aload_n (pc' := 24) d33_23 rfl rfl rfl ?_
  refine oGo.getfield (pc' := 27) d33_24 rfl (w74 hG) Via.refl F2 ?_
  refine oGo.ishl (pc' := 28) d33_27 rfl ?_
  rw [shl0]
  refine oGo.iadd (pc' := 29) d33_28 rfl ?_
  rw [own_add2]
  refine oGo.invokestatic (pc' := 32) (k' := 0) (n' := 0) (argsL := [.int (Int32.ofNat cap), .int (Int32.ofNat (q - cap)), .int (Int32.ofNat (cap + 2))]) (rest := []) d33_29 rfl (w187 hG) (w188 hG) (w189 hG) (w190 hG) (by decide) pd9 rfl rfl rfl (c_newLength hG cap (q - cap) (cap + 2) (by omega) (by omega) (by omega) (by omega) h) (by simp) (by decide) (Nat.le_of_ble_eq_true rfl) rfl rfl (by decide) (by decide) ?_
  intro v1 h2 sh2 q3
  obtain ⟨rfl, ee⟩ := q3
  obtain rfl := ee.symm
  refine ⟨_, fun _ hx => Or.inl hx, ?_⟩
  show oGo l Z a0 EL True pP eE sS mM _ bB tT cC _ _ _ _ _ _ _ _ [] h 0 0 32 #[.val (.ref sb), .val (.int (Int32.ofNat q)), .val (.int (Int32.ofNat cap)), .val (.int (Int32.ofNat q)), .val (.int (Int32.ofNat (q - cap))), .unset] [.int (Int32.ofNat (cap + max (q - cap) (cap + 2)))]
  refine oGo.istore (pc' := 34) (Ls' := #[.val (.ref sb), .val (.int (Int32.ofNat q)), .val (.int (Int32.ofNat cap)), .val (.int (Int32.ofNat q)), .val (.int (Int32.ofNat (q - cap))), .val (.int (Int32.ofNat (cap + max (q - cap) (cap + 2))))]) d33_32 rfl rfl ?_
  refine oGo.iload (pc' := 36) d33_34 rfl rfl ?_
  refine oGo.ldc_int (pc' := 38) d33_36 rfl (w195 hG) ?_
  refine oGo.icmp_ne (pc1 := 41) (pc2 := 51) d33_38 rfl (by decide) (fun q4 => ?_) (fun q => absurd q (by rw [show (2147483647 : Int32) = Int32.ofNat 2147483647 from rfl, own_eq (by omega) (by omega)]; omega))
  refine oGo.iload (pc' := 53) d33_51 rfl rfl ?_
  refine oGo.aload_n (pc' := 54) d33_53 rfl rfl rfl ?_
  refine oGo.getfield (pc' := 57) d33_54 rfl (w74 hG) Via.refl F2 ?_
  refine oGo.ishr (pc' := 58) d33_57 rfl ?_
  exact oGo.ireturn d33_58 rfl (by decide) (by decide) ⟨by rw [shr0, capF, if_neg (by omega), show cap + max (q - cap) (cap + 2) = max q (2 * cap + 2) by omega], rfl⟩ (fun _ q => q.elim)
abbrev q_ensure (Z : State) (h : Heap) (sb b : Nat) (cs : List Int32) (cap q : Nat) : Option Value → Heap → Prop := fun v h' => v = none ∧ Keep h h' [sb] ∧ ∃ b' : Nat, (b' = b ∨ h.size ≤ b') ∧ oSB Z h' sb b' cs (capF cap q)
set_option maxRecDepth 65536 in
set_option maxHeartbeats 4000000 in
theorem c_ensure {l : Launch} {Z : State} {a0 : Array Value} {EL : List (String × Nat)} (hG : oG a0 Z EL) (sb b : Nat) (cs : List Int32) (cap q : Nat) (hM : capF cap q ≤ 34) (hc : cap < 10000) (hq : q < 10000) (h : Heap) (SB : oSB Z h sb b cs cap) :
    oCtr [] l Z a0 EL True (⟨"java/lang/AbstractStringBuilder", "ensureCapacityInternal", "(I)V"⟩ : MethodName) jdk_68_method_9_code 3 none ({ frames := 3, cells := 1, slots := 34, locals := 48 } : Room) #[.ref sb, .int (Int32.ofNat q)] [sb, b] h ((q_ensure Z h sb b cs cap q)) (oBuf Z sb) := by
  refine oCtr.enter (Ls := #[.val (.ref sb), .val (.int (Int32.ofNat q)), .unset]) (plainFor_of_name pn3) hG.2.1 (fun m => by first | (simp [entryFrame, mkF, argsToLocals, Value.category]; done) | rfl) ?_
  intro pP eE sS mM bB tT cC
  have SB0 := SB
  obtain ⟨E, F1, F2, F3, vs, B, hcap, hvs, hle⟩ := SB
  have hsl := own_ltN E.lt
  have hbl := own_ltN B.lt
  refine oGo.aload_n (pc' := 1) d16_0 rfl rfl rfl ?_
  refine oGo.getfield (pc' := 4) d16_1 rfl (w72 hG) Via.refl F1 ?_
  refine oGo.arraylength (pc' := 5) (z := (Int32.ofNat cap)) d16_4 rfl B (by rw [hcap]) ?_
  refine oGo.aload_n (pc' := 6) d16_5 rfl rfl rfl ?_
  refine oGo.getfield (pc' := 9) d16_6 rfl (w74 hG) Via.refl F2 ?_
  refine oGo.ishr (pc' := 10) d16_9 rfl ?_
  rw [shr0]
  refine oGo.istore_n (pc' := 11) (Ls' := #[.val (.ref sb), .val (.int (Int32.ofNat q)), .val (.int (Int32.ofNat cap))]) d16_10 rfl rfl ?_
  refine oGo.iload_n (pc' := 12) d16_11 rfl rfl ?_
  refine oGo.iload_n (pc' := 13) d16_12 rfl rfl ?_
  refine oGo.isub (pc' := 14) d16_13 rfl ?_
  have hsu := own_subI (i := cap) (j := q) (by omega) (by omega)
  refine oGo.if_le (pc1 := 17) (pc2 := 38) d16_14 rfl (by decide) (fun q1 => ?_) (fun q1 => ?_)
  · have hle2 : q ≤ cap := by rw [Int32.lt_iff_toInt_lt] at q1; have e0 : (0 : Int32).toInt = 0 := rfl; omega
    exact oGo.return_ d16_38 rfl (by decide) (by decide) ⟨rfl, Keep.refl _ _, b, Or.inl rfl, by rw [capF, if_pos hle2]; exact SB0⟩ (fun x q => by cases oFld_det F1 q; simp)
  · have hlt2 : cap < q := by rw [Int32.lt_iff_toInt_lt] at q1; have e0 : (0 : Int32).toInt = 0 := rfl; omega
    refine oGo.aload_n (pc' := 18) d16_17 rfl rfl rfl ?_
    refine oGo.aload_n (pc' := 19) d16_18 rfl rfl rfl ?_
    refine oGo.getfield (pc' := 22) d16_19 rfl (w72 hG) Via.refl F1 ?_
    refine oGo.aload_n (pc' := 23) d16_22 rfl rfl rfl ?_
    refine oGo.iload_n (pc' := 24) d16_23 rfl rfl ?_
    refine oGo.invokeprivate (pc' := 27) (k' := 0) (n' := 0) (a := sb) (argsL := [.int (Int32.ofNat q)]) (rest := [.ref b, .ref sb]) d16_24 rfl (w182 hG) (w184 hG) (w185 hG) (w183 hG) (w68 hG) (w186 hG) (by decide) pd10 rfl rfl rfl E (c_newCapacity hG sb b cs cap q hc hq hlt2 h SB0) (by simp) (by decide) (Nat.le_of_ble_eq_true rfl) rfl rfl (by decide) (by decide) ?_
    intro v1 h2 sh2 q3
    obtain ⟨rfl, ee⟩ := q3
    obtain rfl := ee.symm
    refine ⟨_, fun _ hx => Or.inl hx, ?_⟩
    show oGo l Z a0 EL True pP eE sS mM _ bB tT cC _ _ _ _ _ _ _ _ [sb, b] h 0 0 27 #[.val (.ref sb), .val (.int (Int32.ofNat q)), .val (.int (Int32.ofNat cap))] [.int (Int32.ofNat (capF cap q)), .ref b, .ref sb]
    refine oGo.aload_n (pc' := 28) d16_27 rfl rfl rfl ?_
    refine oGo.getfield (pc' := 31) d16_28 rfl (w74 hG) Via.refl F2 ?_
    refine oGo.ishl (pc' := 32) d16_31 rfl ?_
    rw [shl0]
    have hcl : cap < capF cap q := by rw [capF, if_neg (by omega)]; omega
    refine oGo.invokestatic (pc' := 35) (k' := 1) (n' := 34) (argsL := [.ref b, .int (Int32.ofNat (capF cap q))]) (rest := [.ref sb]) d16_32 rfl (w196 hG) (w197 hG) (w157 hG) (w198 hG) (by decide) pd11 rfl rfl rfl (c_copyOf hG b vs (capF cap q) (by omega) hM h B) (by simp) (by decide) (Nat.le_of_ble_eq_true rfl) rfl rfl (by decide) (by decide) ?_
    intro v4 h5 sh5 q6
    obtain ⟨K2, t, rfl, ht, B2⟩ := q6
    refine ⟨[t, sb, b], own_D1 (rfl), ?_⟩
    show oGo l Z a0 EL True pP eE sS mM _ bB tT cC _ _ _ _ _ _ _ _ [t, sb, b] h5 1 34 35 #[.val (.ref sb), .val (.int (Int32.ofNat q)), .val (.int (Int32.ofNat cap))] [.ref t, .ref sb]
    have f7 := Fld.keep F1 K2 nin0
    have f8 := Exa.keep E K2
    refine oGo.putfield (pc' := 38) (ty := (.array .byte)) d16_35 rfl (w72 hG) Via.refl f7 f8 (Or.inl (w73 hG)) (w59 hG) (by decide) rfl rfl (by simp) ?_
    intro h9 W10 sh9
    have f11 := Fld.same W10 f7
    have f12 := Exa.wr W10 f8
    have f13 := Fld.keep F2 K2 nin0
    have f14 := Fld.other W10 f13 (Or.inr (slot_ne (C := "java/lang/StringBuilder") (Or.inl (w75 hG)) (Or.inl (w73 hG)) (by decide) (t := .byte) (t' := (.array .byte)) (by decide) (by decide)))
    have f15 := Fld.keep F3 K2 nin0
    have f16 := Fld.other W10 f15 (Or.inr (slot_ne (C := "java/lang/StringBuilder") (Or.inl (w98 hG)) (Or.inl (w73 hG)) (by decide) (t := .int) (t' := (.array .byte)) (by decide) (by decide)))
    have f17 := oArr.other W10 B2 (own_ne (by omega))
    exact oGo.return_ d16_38 rfl (by decide) (by decide) ⟨rfl, ((Keep.refl h [sb]).trans K2 (by simp)).wr W10 (Or.inl (by simp)), t, Or.inr ht, f12, f11, f14, f16, _, f17, by simp; omega, by rw [List.take_append_of_le_length (by omega)]; exact hvs, by omega⟩ (fun x q => by cases oFld_det f11 q; simp)
set_option maxRecDepth 65536 in
set_option maxHeartbeats 4000000 in
theorem c_inflate {l : Launch} {Z : State} {a0 : Array Value} {EL : List (String × Nat)} (hG : oG a0 Z EL) (sb x t : Nat) (ds : List Int32) (h : Heap) (F2 : Fld Z h sb "java/lang/AbstractStringBuilder" "coder" "B" (.int 0)) (Sx : oS Z h x t ds) :
    oCtr [] l Z a0 EL True (⟨"java/lang/AbstractStringBuilder", "inflateIfNeededFor", "(Ljava/lang/String;)V"⟩ : MethodName) jdk_68_method_71_code 2 none ({ frames := 1, cells := 0, slots := 0, locals := 13 } : Room) #[.ref sb, .ref x] [] h (fun v h' => v = none ∧ h' = h) oNo := by
  obtain ⟨z, hzs, hz⟩ := sCOMPACT hG
  refine oCtr.enter (Ls := #[.val (.ref sb), .val (.ref x)]) (plainFor_of_name pn3) hG.2.1 (fun m => by first | (simp [entryFrame, mkF, argsToLocals, Value.category]; done) | rfl) ?_
  intro pP eE sS mM bB tT cC
  refine oGo.getstatic (pc' := 3) d18_0 rfl (w71 hG) Via.refl hzs ?_
  refine oGo.if_eq (pc1 := 6) (pc2 := 21) d18_3 rfl (by decide) (fun q => absurd q hz) (fun q1 => ?_)
  refine oGo.aload_n (pc' := 7) d18_6 rfl rfl rfl ?_
  refine oGo.getfield (pc' := 10) d18_7 rfl (w74 hG) Via.refl F2 ?_
  refine oGo.aload_n (pc' := 11) d18_10 rfl rfl rfl ?_
  refine oGo.invokevirtual (pc' := 14) (k' := 0) (n' := 0) (a := x) (argsL := []) (rest := [.int (0 : Int32)]) d18_11 rfl (w114 hG) (w93 hG) (w95 hG) (w95 hG) rfl (w94 hG) (w2 hG) (w96 hG) (by decide) pd4 rfl rfl rfl Sx.1 (c_coder hG x 0 (Or.inl rfl) h Sx.2.2.1) (by simp) (by decide) (Nat.le_of_ble_eq_true rfl) rfl rfl (by decide) (by decide) ?_
  intro v2 h3 sh3 q4
  obtain ⟨rfl, ee⟩ := q4
  obtain rfl := ee.symm
  refine ⟨_, fun _ hx => Or.inl hx, ?_⟩
  show oGo l Z a0 EL True pP eE sS mM _ bB tT cC _ _ _ _ _ _ _ _ [] h 0 0 14 #[.val (.ref sb), .val (.ref x)] [.int (0 : Int32), .int (0 : Int32)]
  refine oGo.icmp_eq (pc1 := 17) (pc2 := 21) d18_14 rfl (by decide) (fun q5 => ?_) (fun q => absurd rfl q)
  exact oGo.return_ d18_21 rfl (by decide) (by decide) ⟨rfl, rfl⟩ (fun _ q => q.elim)
set_option maxRecDepth 65536 in
set_option maxHeartbeats 4000000 in
theorem c_getBytes {l : Launch} {Z : State} {a0 : Array Value} {EL : List (String × Nat)} (hG : oG a0 Z EL) (x t b : Nat) (ds : List Int32) (ws : List Value) (i : Nat) (hi : i + ds.length ≤ ws.length) (hne : t ≠ b) (h : Heap) (B : oArr Z h b .byte ws) (Sx : oS Z h x t ds) :
    oCtr [] l Z a0 EL True (⟨"java/lang/String", "getBytes", "([BIB)V"⟩ : MethodName) jdk_42_method_147_code 4 none ({ frames := 1, cells := 0, slots := 0, locals := 18 } : Room) #[.ref x, .ref b, .int (Int32.ofNat i), .int (0 : Int32)] [b] h (fun v h' => v = none ∧ Keep h h' [b] ∧ oArr Z h' b .byte (ws.take i ++ oI (ds.map lo8) ++ ws.drop (i + ds.length))) oNo := by
  refine oCtr.enter (Ls := #[.val (.ref x), .val (.ref b), .val (.int (Int32.ofNat i)), .val (.int (0 : Int32))]) (plainFor_of_name pn1) hG.2.1 (fun m => by first | (simp [entryFrame, mkF, argsToLocals, Value.category]; done) | rfl) ?_
  intro pP eE sS mM bB tT cC
  refine oGo.aload_n (pc' := 1) d19_0 rfl rfl rfl ?_
  refine oGo.invokevirtual (pc' := 4) (k' := 0) (n' := 0) (a := x) (argsL := []) (rest := []) d19_1 rfl (w92 hG) (w93 hG) (w95 hG) (w95 hG) rfl (w94 hG) (w2 hG) (w96 hG) (by decide) pd4 rfl rfl rfl Sx.1 (c_coder hG x 0 (Or.inl rfl) h Sx.2.2.1) (by simp) (by decide) (Nat.le_of_ble_eq_true rfl) rfl rfl (by decide) (by decide) ?_
  intro v1 h2 sh2 q3
  obtain ⟨rfl, ee⟩ := q3
  obtain rfl := ee.symm
  refine ⟨_, fun _ hx => Or.inl hx, ?_⟩
  show oGo l Z a0 EL True pP eE sS mM _ bB tT cC _ _ _ _ _ _ _ _ [b] h 0 0 4 #[.val (.ref x), .val (.ref b), .val (.int (Int32.ofNat i)), .val (.int (0 : Int32))] [.int (0 : Int32)]
  refine oGo.iload_n (pc' := 5) d19_4 rfl rfl ?_
  refine oGo.icmp_ne (pc1 := 8) (pc2 := 28) d19_5 rfl (by decide) (fun q => absurd rfl q) (fun q4 => ?_)
  refine oGo.aload_n (pc' := 9) d19_8 rfl rfl rfl ?_
  refine oGo.getfield (pc' := 12) d19_9 rfl (w28 hG) Via.refl Sx.2.1 ?_
  refine oGo.iconst (pc' := 13) (v := 0) d19_12 rfl (by decide) ?_
  refine oGo.aload_n (pc' := 14) d19_13 rfl rfl rfl ?_
  refine oGo.iload_n (pc' := 15) d19_14 rfl rfl ?_
  refine oGo.iload_n (pc' := 16) d19_15 rfl rfl ?_
  refine oGo.ishl (pc' := 17) d19_16 rfl ?_
  rw [shl0]
  refine oGo.aload_n (pc' := 18) d19_17 rfl rfl rfl ?_
  refine oGo.getfield (pc' := 21) d19_18 rfl (w28 hG) Via.refl Sx.2.1 ?_
  refine oGo.arraylength (pc' := 22) (z := (Int32.ofNat ds.length)) d19_21 rfl Sx.2.2.2.1 (by rw [List.length_map, List.length_map]) ?_
  refine oGo.arraycopy (pc' := 25) (i := 0) (j := i) (q := ds.length) d19_22 rfl (w120 hG) (w123 hG) (w121 hG) (w122 hG) Sx.2.2.2.1 B (by simp) (hi) rfl (by decide) (Nat.le_of_ble_eq_true rfl) (by simp) ?_
  intro h5 K6 sh5 A7
  rw [show ((oI (ds.map lo8)).drop 0).take ds.length = oI (ds.map lo8) from by rw [List.drop_zero]; exact List.take_of_length_le (by simp)] at A7
  refine oGo.goto (pc' := 43) d19_25 (by decide) ?_
  exact oGo.return_ d19_43 rfl (by decide) (by decide) ⟨rfl, K6, A7⟩ (fun _ q => q.elim)
set_option maxRecDepth 65536 in
set_option maxHeartbeats 4000000 in
theorem c_putStr {l : Launch} {Z : State} {a0 : Array Value} {EL : List (String × Nat)} (hG : oG a0 Z EL) (sb x t b : Nat) (ds : List Int32) (ws : List Value) (i : Nat) (hi : i + ds.length ≤ ws.length) (hne : t ≠ b) (h : Heap) (E : Exa Z h sb "java/lang/StringBuilder") (F1 : Fld Z h sb "java/lang/AbstractStringBuilder" "value" "[B" (.ref b)) (F2 : Fld Z h sb "java/lang/AbstractStringBuilder" "coder" "B" (.int 0)) (B : oArr Z h b .byte ws) (Sx : oS Z h x t ds) :
    oCtr [] l Z a0 EL True (⟨"java/lang/AbstractStringBuilder", "putStringAt", "(ILjava/lang/String;)V"⟩ : MethodName) jdk_68_method_73_code 3 none ({ frames := 2, cells := 0, slots := 0, locals := 33 } : Room) #[.ref sb, .int (Int32.ofNat i), .ref x] [b] h (fun v h' => v = none ∧ Keep h h' [b] ∧ oArr Z h' b .byte (ws.take i ++ oI (ds.map lo8) ++ ws.drop (i + ds.length))) oNo := by
  refine oCtr.enter (Ls := #[.val (.ref sb), .val (.int (Int32.ofNat i)), .val (.ref x)]) (plainFor_of_name pn3) hG.2.1 (fun m => by first | (simp [entryFrame, mkF, argsToLocals, Value.category]; done) | rfl) ?_
  intro pP eE sS mM bB tT cC
  refine oGo.aload_n (pc' := 1) d17_0 rfl rfl rfl ?_
  refine oGo.aload_n (pc' := 2) d17_1 rfl rfl rfl ?_
  refine oGo.invokeprivate (pc' := 5) (k' := 0) (n' := 0) (a := sb) (argsL := [.ref x]) (rest := []) d17_2 rfl (w109 hG) (w111 hG) (w112 hG) (w110 hG) (w68 hG) (w113 hG) (by decide) pd12 rfl rfl rfl E (c_inflate hG sb x t ds h F2 Sx) (by simp) (by decide) (Nat.le_of_ble_eq_true rfl) rfl rfl (by decide) (by decide) ?_
  intro v1 h2 sh2 q3
  obtain ⟨rfl, ee⟩ := q3
  obtain rfl := ee.symm
  refine ⟨_, fun _ hx => Or.inl hx, ?_⟩
  show oGo l Z a0 EL True pP eE sS mM _ bB tT cC _ _ _ _ _ _ _ _ [b] h 0 0 5 #[.val (.ref sb), .val (.int (Int32.ofNat i)), .val (.ref x)] []
  refine oGo.aload_n (pc' := 6) d17_5 rfl rfl rfl ?_
  refine oGo.aload_n (pc' := 7) d17_6 rfl rfl rfl ?_
  refine oGo.getfield (pc' := 10) d17_7 rfl (w72 hG) Via.refl F1 ?_
  refine oGo.iload_n (pc' := 11) d17_10 rfl rfl ?_
  refine oGo.aload_n (pc' := 12) d17_11 rfl rfl rfl ?_
  refine oGo.getfield (pc' := 15) d17_12 rfl (w74 hG) Via.refl F2 ?_
  refine oGo.invokevirtual (pc' := 18) (k' := 0) (n' := 0) (a := x) (argsL := [.ref b, .int (Int32.ofNat i), .int (0 : Int32)]) (rest := []) d17_15 rfl (w115 hG) (w116 hG) (w118 hG) (w118 hG) rfl (w117 hG) (w2 hG) (w119 hG) (by decide) pd13 rfl rfl rfl Sx.1 (c_getBytes hG x t b ds ws i hi hne h B Sx) (by simp) (by decide) (Nat.le_of_ble_eq_true rfl) rfl rfl (by decide) (by decide) ?_
  intro v4 h5 sh5 q6
  obtain ⟨rfl, K2, B2⟩ := q6
  refine ⟨_, fun _ hx => Or.inl hx, ?_⟩
  show oGo l Z a0 EL True pP eE sS mM _ bB tT cC _ _ _ _ _ _ _ _ [b] h5 0 0 18 #[.val (.ref sb), .val (.int (Int32.ofNat i)), .val (.ref x)] []
  exact oGo.return_ d17_18 rfl (by decide) (by decide) ⟨rfl, K2, B2⟩ (fun _ q => q.elim)
abbrev q_append (Z : State) (h : Heap) (sb b : Nat) (cs ds : List Int32) (cap : Nat) : Option Value → Heap → Prop := fun v h' => v = some (.ref sb) ∧ Keep h h' [sb, b] ∧ ∃ b' : Nat, (b' = b ∨ h.size ≤ b') ∧ oSB Z h' sb b' (cs ++ ds) (capF cap (cs.length + ds.length))
set_option maxRecDepth 65536 in
set_option maxHeartbeats 4000000 in
theorem c_asbAppend {l : Launch} {Z : State} {a0 : Array Value} {EL : List (String × Nat)} (hG : oG a0 Z EL) (sb b x t : Nat) (cs ds : List Int32) (cap : Nat) (hM : capF cap (cs.length + ds.length) ≤ 34) (hc : cap < 5000) (hl : ds.length < 5000) (hne : x ≠ sb ∧ x ≠ b ∧ t ≠ sb ∧ t ≠ b) (h : Heap) (SB : oSB Z h sb b cs cap) (Sx : oS Z h x t ds) :
    oCtr [] l Z a0 EL True (⟨"java/lang/AbstractStringBuilder", "append", "(Ljava/lang/String;)Ljava/lang/AbstractStringBuilder;"⟩ : MethodName) jdk_68_method_22_code 3 (some (.object "java/lang/AbstractStringBuilder")) ({ frames := 4, cells := 1, slots := 34, locals := 62 } : Room) #[.ref sb, .ref x] [sb, b] h ((q_append Z h sb b cs ds cap)) (oBuf Z sb) := by
  refine oCtr.enter (Ls := #[.val (.ref sb), .val (.ref x), .unset]) (plainFor_of_name pn3) hG.2.1 (fun m => by first | (simp [entryFrame, mkF, argsToLocals, Value.category]; done) | rfl) ?_
  intro pP eE sS mM bB tT cC
  have SB0 := SB
  have hxl := own_ltN Sx.1.lt
  have htl := own_ltN Sx.2.2.2.1.lt
  obtain ⟨E, F1, F2, F3, vs, B, hcap, hvs, hle⟩ := SB
  have hsl := own_ltN E.lt
  have hbl := own_ltN B.lt
  refine oGo.aload_n (pc' := 1) d13_0 rfl rfl rfl ?_
  refine oGo.ifnonnull_y (pc2 := 9) d13_1 (by decide) ?_
  refine oGo.aload_n (pc' := 10) d13_9 rfl rfl rfl ?_
  refine oGo.invokevirtual (pc' := 13) (k' := 0) (n' := 0) (a := x) (argsL := []) (rest := []) d13_10 rfl (w87 hG) (w88 hG) (w90 hG) (w90 hG) rfl (w89 hG) (w2 hG) (w91 hG) (by decide) pd14 rfl rfl rfl Sx.1 (c_length hG x t ds h Sx) (by simp) (by decide) (Nat.le_of_ble_eq_true rfl) rfl rfl (by decide) (by decide) ?_
  intro v1 h2 sh2 q3
  obtain ⟨rfl, ee⟩ := q3
  obtain rfl := ee.symm
  refine ⟨_, fun _ hx => Or.inl hx, ?_⟩
  show oGo l Z a0 EL True pP eE sS mM _ bB tT cC _ _ _ _ _ _ _ _ [sb, b] h 0 0 13 #[.val (.ref sb), .val (.ref x), .unset] [.int (Int32.ofNat ds.length)]
  refine oGo.istore_n (pc' := 14) (Ls' := #[.val (.ref sb), .val (.ref x), .val (.int (Int32.ofNat ds.length))]) d13_13 rfl rfl ?_
  refine oGo.aload_n (pc' := 15) d13_14 rfl rfl rfl ?_
  refine oGo.aload_n (pc' := 16) d13_15 rfl rfl rfl ?_
  refine oGo.getfield (pc' := 19) d13_16 rfl (w97 hG) Via.refl F3 ?_
  refine oGo.iload_n (pc' := 20) d13_19 rfl rfl ?_
  refine oGo.iadd (pc' := 21) d13_20 rfl ?_
  rw [← Int32.ofNat_add]
  have hcF : cs.length + ds.length ≤ capF cap (cs.length + ds.length) := by unfold capF; split <;> omega
  refine oGo.invokeprivate (pc' := 24) (k' := 1) (n' := 34) (a := sb) (argsL := [.int (Int32.ofNat (cs.length + ds.length))]) (rest := []) d13_21 rfl (w99 hG) (w101 hG) (w102 hG) (w100 hG) (w68 hG) (w103 hG) (by decide) pd8 rfl rfl rfl E (c_ensure hG sb b cs cap (cs.length + ds.length) hM (by omega) (by omega) h SB0) (by simp) (by decide) (Nat.le_of_ble_eq_true rfl) rfl rfl (by decide) (by decide) ?_
  intro v4 h5 sh5 q6
  obtain ⟨rfl, K2, b', hb', S2⟩ := q6
  obtain ⟨E2, G1, G2, G3, ws, B2, hcap2, hvs2, hle2⟩ := S2
  have hbl2 := own_ltN B2.lt
  refine ⟨[b', sb, b], own_D1 (G1), ?_⟩
  show oGo l Z a0 EL True pP eE sS mM _ bB tT cC _ _ _ _ _ _ _ _ [b', sb, b] h5 1 34 24 #[.val (.ref sb), .val (.ref x), .val (.int (Int32.ofNat ds.length))] []
  refine oGo.aload_n (pc' := 25) d13_24 rfl rfl rfl ?_
  refine oGo.aload_n (pc' := 26) d13_25 rfl rfl rfl ?_
  refine oGo.getfield (pc' := 29) d13_26 rfl (w97 hG) Via.refl G3 ?_
  refine oGo.aload_n (pc' := 30) d13_29 rfl rfl rfl ?_
  have f7 := Sx.keep K2 (own_nin1 (own_ne (by omega))) (own_nin1 (own_ne (by omega)))
  have hne2 : t ≠ b' := by rcases hb' with rfl | q <;> omega
  have hsb2 : sb ≠ b' := by
    rcases hb' with rfl | q
    · exact fun q => absurd q (oSB_ne hG SB0)
    · omega
  refine oGo.invokeprivate (pc' := 33) (k' := 1) (n' := 34) (a := sb) (argsL := [.int (Int32.ofNat cs.length), .ref x]) (rest := []) d13_30 rfl (w104 hG) (w106 hG) (w107 hG) (w105 hG) (w68 hG) (w108 hG) (by decide) pd15 rfl rfl rfl E2 (c_putStr hG sb x t b' ds ws cs.length (by omega) hne2 _ E2 G1 G2 B2 f7) (by simp) (by decide) (Nat.le_of_ble_eq_true rfl) rfl rfl (by decide) (by decide) ?_
  intro v8 h9 sh9 q10
  obtain ⟨rfl, K3, B3⟩ := q10
  refine ⟨_, fun _ hx => Or.inl hx, ?_⟩
  show oGo l Z a0 EL True pP eE sS mM _ bB tT cC _ _ _ _ _ _ _ _ [b', sb, b] h9 1 34 33 #[.val (.ref sb), .val (.ref x), .val (.int (Int32.ofNat ds.length))] []
  refine oGo.aload_n (pc' := 34) d13_33 rfl rfl rfl ?_
  refine oGo.dup (pc' := 35) d13_34 rfl rfl ?_
  have f11 := Fld.keep G3 K3 (own_nin1 (own_ne (by omega)))
  refine oGo.getfield (pc' := 38) d13_35 rfl (w97 hG) Via.refl f11 ?_
  refine oGo.iload_n (pc' := 39) d13_38 rfl rfl ?_
  refine oGo.iadd (pc' := 40) d13_39 rfl ?_
  rw [← Int32.ofNat_add]
  have f12 := Exa.keep E2 K3
  refine oGo.putfield (pc' := 43) (ty := .int) d13_40 rfl (w97 hG) Via.refl f11 f12 (Or.inl (w98 hG)) (w59 hG) (by decide) rfl rfl (by simp) ?_
  intro h13 W14 sh13
  have f15 := Fld.same W14 f11
  refine oGo.aload_n (pc' := 44) d13_43 rfl rfl rfl ?_
  have f16 := Exa.wr W14 f12
  have f17 := Fld.keep G1 K3 (own_nin1 (own_ne (by omega)))
  have f18 := Fld.other W14 f17 (Or.inr (slot_ne (C := "java/lang/StringBuilder") (Or.inl (w73 hG)) (Or.inl (w98 hG)) (by decide) (t := (.array .byte)) (t' := .int) (by decide) (by decide)))
  have f19 := Fld.keep G2 K3 (own_nin1 (own_ne (by omega)))
  have f20 := Fld.other W14 f19 (Or.inr (slot_ne (C := "java/lang/StringBuilder") (Or.inl (w75 hG)) (Or.inl (w98 hG)) (by decide) (t := .byte) (t' := .int) (by decide) (by decide)))
  have f21 := oArr.other W14 B3 (own_ne (by omega))
  exact oGo.areturn d13_44 rfl rfl rfl rfl (by decide) (by decide) ⟨rfl, (((Keep.refl h [sb, b]).trans K2 (by simp)).trans K3 (fun x hx => by rw [List.mem_singleton.mp hx]; rcases hb' with q' | q'; exact Or.inl (by simp [q']); exact Or.inr q')).wr W14 (Or.inl (by simp)), b', hb', f16, f18, f20, by rw [List.length_append]; exact f15, _, f21, by simp; omega, by rw [List.length_append]; exact own_app_take hvs2 (by omega), by rw [List.length_append]; exact hcF⟩ (fun x q => by cases oFld_det f18 q; simp)
set_option maxRecDepth 65536 in
set_option maxHeartbeats 4000000 in
theorem c_append {l : Launch} {Z : State} {a0 : Array Value} {EL : List (String × Nat)} (hG : oG a0 Z EL) (sb b x t : Nat) (cs ds : List Int32) (cap : Nat) (hM : capF cap (cs.length + ds.length) ≤ 34) (hc : cap < 5000) (hl : ds.length < 5000) (hne : x ≠ sb ∧ x ≠ b ∧ t ≠ sb ∧ t ≠ b) (h : Heap) (SB : oSB Z h sb b cs cap) (Sx : oS Z h x t ds) :
    oCtr [] l Z a0 EL True (⟨"java/lang/StringBuilder", "append", "(Ljava/lang/String;)Ljava/lang/StringBuilder;"⟩ : MethodName) jdk_67_method_7_code 2 (some (.object "java/lang/StringBuilder")) ({ frames := 5, cells := 1, slots := 34, locals := 76 } : Room) #[.ref sb, .ref x] [sb, b] h ((q_append Z h sb b cs ds cap)) (oBuf Z sb) := by
  refine oCtr.enter (Ls := #[.val (.ref sb), .val (.ref x)]) (plainFor_of_name pn4) hG.2.1 (fun m => by first | (simp [entryFrame, mkF, argsToLocals, Value.category]; done) | rfl) ?_
  intro pP eE sS mM bB tT cC
  refine oGo.aload_n (pc' := 1) d12_0 rfl rfl rfl ?_
  refine oGo.aload_n (pc' := 2) d12_1 rfl rfl rfl ?_
  refine oGo.invokesuper (pc' := 5) (k' := 1) (n' := 34) (a := sb) (argsL := [.ref x]) (rest := []) d12_2 rfl (by decide) (w82 hG) (w84 hG) (w83 hG) (w102 hG) rfl (w68 hG) (w86 hG) (by decide) pd16 rfl rfl rfl SB.1 (c_asbAppend hG sb b x t cs ds cap hM hc hl hne h SB Sx) (by simp) (by decide) (Nat.le_of_ble_eq_true rfl) rfl rfl (by decide) (by decide) ?_
  intro v1 h2 sh2 q3
  obtain ⟨rfl, K2, b', hb', S2⟩ := q3
  refine ⟨[b', sb, b], own_D1 (S2.2.1), ?_⟩
  show oGo l Z a0 EL True pP eE sS mM _ bB tT cC _ _ _ _ _ _ _ _ [b', sb, b] h2 1 34 5 #[.val (.ref sb), .val (.ref x)] [.ref sb]
  refine oGo.pop (pc' := 6) d12_5 rfl rfl ?_
  refine oGo.aload_n (pc' := 7) d12_6 rfl rfl rfl ?_
  exact oGo.areturn d12_7 rfl rfl rfl rfl (by decide) (by decide) ⟨rfl, K2, b', hb', S2⟩ (fun x q => by cases oFld_det S2.2.1 q; simp)
set_option maxRecDepth 65536 in
set_option maxHeartbeats 4000000 in
theorem c_getValue {l : Launch} {Z : State} {a0 : Array Value} {EL : List (String × Nat)} (hG : oG a0 Z EL) (sb b : Nat) (h : Heap) (F1 : Fld Z h sb "java/lang/AbstractStringBuilder" "value" "[B" (.ref b)) :
    oCtr [] l Z a0 EL True (⟨"java/lang/AbstractStringBuilder", "getValue", "()[B"⟩ : MethodName) jdk_68_method_64_code 1 (some (.array .byte)) ({ frames := 0, cells := 0, slots := 0, locals := 0 } : Room) #[.ref sb] [] h (fun v h' => v = some (.ref b) ∧ h' = h) oNo := by
  refine oCtr.enter (Ls := #[.val (.ref sb)]) (plainFor_of_name pn3) hG.2.1 (fun m => by first | (simp [entryFrame, mkF, argsToLocals, Value.category]; done) | rfl) ?_
  intro pP eE sS mM bB tT cC
  refine oGo.aload_n (pc' := 1) d23_0 rfl rfl rfl ?_
  refine oGo.getfield (pc' := 4) d23_1 rfl (w72 hG) Via.refl F1 ?_
  exact oGo.areturn d23_4 rfl rfl rfl rfl (by decide) (by decide) ⟨rfl, rfl⟩ (fun _ q => q.elim)
set_option maxRecDepth 65536 in
set_option maxHeartbeats 4000000 in
theorem c_asbLen {l : Launch} {Z : State} {a0 : Array Value} {EL : List (String × Nat)} (hG : oG a0 Z EL) (sb : Nat) (z : Int32) (h : Heap) (F3 : Fld Z h sb "java/lang/AbstractStringBuilder" "count" "I" (.int z)) :
    oCtr [] l Z a0 EL True (⟨"java/lang/AbstractStringBuilder", "length", "()I"⟩ : MethodName) jdk_68_method_6_code 1 (some .int) ({ frames := 0, cells := 0, slots := 0, locals := 0 } : Room) #[.ref sb] [] h (fun v h' => v = some (.int z) ∧ h' = h) oNo := by
  refine oCtr.enter (Ls := #[.val (.ref sb)]) (plainFor_of_name pn3) hG.2.1 (fun m => by first | (simp [entryFrame, mkF, argsToLocals, Value.category]; done) | rfl) ?_
  intro pP eE sS mM bB tT cC
  refine oGo.aload_n (pc' := 1) d25_0 rfl rfl rfl ?_
  refine oGo.getfield (pc' := 4) d25_1 rfl (w97 hG) Via.refl F3 ?_
  exact oGo.ireturn d25_4 rfl (by decide) (by decide) ⟨rfl, rfl⟩ (fun _ q => q.elim)
set_option maxRecDepth 65536 in
set_option maxHeartbeats 4000000 in
theorem c_sbLen {l : Launch} {Z : State} {a0 : Array Value} {EL : List (String × Nat)} (hG : oG a0 Z EL) (sb : Nat) (z : Int32) (h : Heap) (E : Exa Z h sb "java/lang/StringBuilder") (F3 : Fld Z h sb "java/lang/AbstractStringBuilder" "count" "I" (.int z)) :
    oCtr [] l Z a0 EL True (⟨"java/lang/StringBuilder", "length", "()I"⟩ : MethodName) jdk_67_method_93_code 1 (some .int) ({ frames := 1, cells := 0, slots := 0, locals := 12 } : Room) #[.ref sb] [] h (fun v h' => v = some (.int z) ∧ h' = h) oNo := by
  refine oCtr.enter (Ls := #[.val (.ref sb)]) (plainFor_of_name pn4) hG.2.1 (fun m => by first | (simp [entryFrame, mkF, argsToLocals, Value.category]; done) | rfl) ?_
  intro pP eE sS mM bB tT cC
  refine oGo.aload_n (pc' := 1) d24_0 rfl rfl rfl ?_
  refine oGo.invokesuper (pc' := 4) (k' := 0) (n' := 0) (a := sb) (argsL := []) (rest := []) d24_1 rfl (by decide) (w148 hG) (w84 hG) (w144 hG) (w102 hG) rfl (w68 hG) (w149 hG) (by decide) pd14 rfl rfl rfl E (c_asbLen hG sb z h F3) (by simp) (by decide) (Nat.le_of_ble_eq_true rfl) rfl rfl (by decide) (by decide) ?_
  intro v1 h2 sh2 q3
  obtain ⟨rfl, ee⟩ := q3
  obtain rfl := ee.symm
  refine ⟨_, fun _ hx => Or.inl hx, ?_⟩
  show oGo l Z a0 EL True pP eE sS mM _ bB tT cC _ _ _ _ _ _ _ _ [] h 0 0 4 #[.val (.ref sb)] [.int z]
  exact oGo.ireturn d24_4 rfl (by decide) (by decide) ⟨rfl, rfl⟩ (fun _ q => q.elim)
set_option maxRecDepth 65536 in
set_option maxHeartbeats 4000000 in
theorem c_asbLat {l : Launch} {Z : State} {a0 : Array Value} {EL : List (String × Nat)} (hG : oG a0 Z EL) (sb : Nat) (h : Heap) (F2 : Fld Z h sb "java/lang/AbstractStringBuilder" "coder" "B" (.int 0)) :
    oCtr [] l Z a0 EL True (⟨"java/lang/AbstractStringBuilder", "isLatin1", "()Z"⟩ : MethodName) jdk_68_method_68_code 1 (some .boolean) ({ frames := 0, cells := 0, slots := 0, locals := 0 } : Room) #[.ref sb] [] h (fun v h' => v = some (.int 1) ∧ h' = h) oNo := by
  obtain ⟨z, hzs, hz⟩ := sCOMPACT hG
  refine oCtr.enter (Ls := #[.val (.ref sb)]) (plainFor_of_name pn3) hG.2.1 (fun m => by first | (simp [entryFrame, mkF, argsToLocals, Value.category]; done) | rfl) ?_
  intro pP eE sS mM bB tT cC
  refine oGo.getstatic (pc' := 3) d26_0 rfl (w71 hG) Via.refl hzs ?_
  refine oGo.if_eq (pc1 := 6) (pc2 := 17) d26_3 rfl (by decide) (fun q => absurd q hz) (fun q1 => ?_)
  refine oGo.aload_n (pc' := 7) d26_6 rfl rfl rfl ?_
  refine oGo.getfield (pc' := 10) d26_7 rfl (w74 hG) Via.refl F2 ?_
  refine oGo.if_ne (pc1 := 13) (pc2 := 17) d26_10 rfl (by decide) (fun q => absurd rfl q) (fun q2 => ?_)
  refine oGo.iconst (pc' := 14) (v := 1) d26_13 rfl (by decide) ?_
  refine oGo.goto (pc' := 18) d26_14 (by decide) ?_
  exact oGo.nreturn d26_18 rfl (by simp) rfl (by decide) (by decide) ⟨rfl, rfl⟩ (fun _ q => q.elim)
abbrev q_strSB (Z : State) (h : Heap) (x : Nat) (cs : List Int32) : Option Value → Heap → Prop := fun v h' => v = none ∧ Keep h h' [x] ∧ ∃ t : Nat, h.size ≤ t ∧ oS Z h' x t cs
set_option maxRecDepth 65536 in
set_option maxHeartbeats 4000000 in
theorem c_strASB {l : Launch} {Z : State} {a0 : Array Value} {EL : List (String × Nat)} (hG : oG a0 Z EL) (x sb b : Nat) (cs : List Int32) (cap : Nat) (hN : cs.length ≤ 20) (hne : cs.length < cap) (hcs : ∀ c ∈ cs, ¬ c < 0 ∧ ¬ 255 < c) (u w0 : Value) (hxs : x ≠ sb ∧ x ≠ b) (h : Heap) (SB : oSB Z h sb b cs cap) (EX : Exa Z h x "java/lang/String") (G1 : Fld Z h x "java/lang/String" "value" "[B" u) (G2 : Fld Z h x "java/lang/String" "coder" "B" w0) :
    oCtr [] l Z a0 EL True (⟨"java/lang/String", "<init>", "(Ljava/lang/AbstractStringBuilder;Ljava/lang/Void;)V"⟩ : MethodName) jdk_42_method_150_code 5 none ({ frames := 3, cells := 1, slots := 20, locals := 49 } : Room) #[.ref x, .ref sb, .null] [x] h ((q_strSB Z h x cs)) oNo := by
  have hxl := own_ltN EX.lt
  refine oCtr.enter (Ls := #[.val (.ref x), .val (.ref sb), .val .null, .unset, .unset]) (plainFor_of_name pn1) hG.2.1 (fun m => by first | (simp [entryFrame, mkF, argsToLocals, Value.category]; done) | rfl) ?_
  intro pP eE sS mM bB tT cC
  obtain ⟨E, F1, F2, F3, vs, B, hcap, hvs, hle⟩ := SB
  have hsl := own_ltN E.lt
  have hbl := own_ltN B.lt
  refine oGo.aload_n (pc' := 1) d22_0 rfl rfl rfl ?_
  refine oGo.objinit (pc' := 4) d22_1 rfl (w11 hG) (w12 hG) (w13 hG) rfl (by decide) (Nat.le_of_ble_eq_true rfl) ?_
  refine oGo.aload_n (pc' := 5) d22_4 rfl rfl rfl ?_
  refine oGo.invokevirtual (pc' := 8) (k' := 0) (n' := 0) (a := sb) (argsL := []) (rest := []) d22_5 rfl (w137 hG) (w138 hG) (w140 hG) (w140 hG) rfl (w139 hG) (w68 hG) (w141 hG) (by decide) pd17 rfl rfl rfl E (c_getValue hG sb b h F1) (by simp) (by decide) (Nat.le_of_ble_eq_true rfl) rfl rfl (by decide) (by decide) ?_
  intro v1 h2 sh2 q3
  obtain ⟨rfl, ee⟩ := q3
  obtain rfl := ee.symm
  refine ⟨_, fun _ hx => Or.inl hx, ?_⟩
  show oGo l Z a0 EL True pP eE sS mM _ bB tT cC _ _ _ _ _ _ _ _ [x] h 0 0 8 #[.val (.ref x), .val (.ref sb), .val .null, .unset, .unset] [.ref b]
  refine oGo.astore_n (pc' := 9) (Ls' := #[.val (.ref x), .val (.ref sb), .val .null, .val (.ref b), .unset]) d22_8 rfl rfl rfl ?_
  refine oGo.aload_n (pc' := 10) d22_9 rfl rfl rfl ?_
  refine oGo.invokevirtual (pc' := 13) (k' := 0) (n' := 0) (a := sb) (argsL := []) (rest := []) d22_10 rfl (w142 hG) (w143 hG) (w145 hG) (w102 hG) rfl (w146 hG) (w60 hG) (w147 hG) (by decide) pd14 rfl rfl rfl E (c_sbLen hG sb _ h E F3) (by simp) (by decide) (Nat.le_of_ble_eq_true rfl) rfl rfl (by decide) (by decide) ?_
  intro v4 h5 sh5 q6
  obtain ⟨rfl, ee⟩ := q6
  obtain rfl := ee.symm
  refine ⟨_, fun _ hx => Or.inl hx, ?_⟩
  show oGo l Z a0 EL True pP eE sS mM _ bB tT cC _ _ _ _ _ _ _ _ [x] h 0 0 13 #[.val (.ref x), .val (.ref sb), .val .null, .val (.ref b), .unset] [.int (Int32.ofNat cs.length)]
  refine oGo.istore (pc' := 15) (Ls' := #[.val (.ref x), .val (.ref sb), .val .null, .val (.ref b), .val (.int (Int32.ofNat cs.length))]) d22_13 rfl rfl ?_
  refine oGo.aload_n (pc' := 16) d22_15 rfl rfl rfl ?_
  refine oGo.invokevirtual (pc' := 19) (k' := 0) (n' := 0) (a := sb) (argsL := []) (rest := []) d22_16 rfl (w150 hG) (w151 hG) (w153 hG) (w153 hG) rfl (w152 hG) (w68 hG) (w154 hG) (by decide) pd18 rfl rfl rfl E (c_asbLat hG sb h F2) (by simp) (by decide) (Nat.le_of_ble_eq_true rfl) rfl rfl (by decide) (by decide) ?_
  intro v7 h8 sh8 q9
  obtain ⟨rfl, ee⟩ := q9
  obtain rfl := ee.symm
  refine ⟨_, fun _ hx => Or.inl hx, ?_⟩
  show oGo l Z a0 EL True pP eE sS mM _ bB tT cC _ _ _ _ _ _ _ _ [x] h 0 0 19 #[.val (.ref x), .val (.ref sb), .val .null, .val (.ref b), .val (.int (Int32.ofNat cs.length))] [.int (1 : Int32)]
  refine oGo.if_eq (pc1 := 22) (pc2 := 41) d22_19 rfl (by decide) (fun q => by first | exact absurd q (by decide) | exact absurd (by decide) q) (fun q10 => ?_)
  refine oGo.aload_n (pc' := 23) d22_22 rfl rfl rfl ?_
  refine oGo.iconst (pc' := 24) (v := 0) d22_23 rfl (by decide) ?_
  refine oGo.putfield (pc' := 27) (ty := .byte) d22_24 rfl (w26 hG) Via.refl G2 EX (Or.inr ⟨(w27 hG), rfl, rfl⟩) (w1 hG) (by decide) (by decide) (by decide) (by simp) ?_
  intro h11 W12 sh11
  have f13 := Fld.same W12 G2
  refine oGo.aload_n (pc' := 28) d22_27 rfl rfl rfl ?_
  refine oGo.aload_n (pc' := 29) d22_28 rfl rfl rfl ?_
  refine oGo.iconst (pc' := 30) (v := 0) d22_29 rfl (by decide) ?_
  refine oGo.iload (pc' := 32) d22_30 rfl rfl ?_
  have f14 := oArr.other W12 B (own_ne (by omega))
  refine oGo.invokestatic (pc' := 35) (k' := 1) (n' := 20) (argsL := [.ref b, .int (0 : Int32), .int (Int32.ofNat cs.length)]) (rest := [.ref x]) d22_32 rfl (w155 hG) (w156 hG) (w157 hG) (w158 hG) (by decide) pd7 rfl rfl rfl (c_cor hG b vs 0 cs.length (by omega) (by omega) (by omega) (by omega) _ f14) (by simp) (by decide) (Nat.le_of_ble_eq_true rfl) rfl rfl (by decide) (by decide) ?_
  intro v15 h16 sh16 q17
  obtain ⟨K2, t, rfl, ht, B2⟩ := q17
  rw [List.drop_zero, Nat.sub_zero, hvs] at B2
  refine ⟨[t, x], own_D1 (rfl), ?_⟩
  show oGo l Z a0 EL True pP eE sS mM _ bB tT cC _ _ _ _ _ _ _ _ [t, x] h16 1 20 35 #[.val (.ref x), .val (.ref sb), .val .null, .val (.ref b), .val (.int (Int32.ofNat cs.length))] [.ref t, .ref x]
  have f18 := Fld.other W12 G1 (Or.inr (slot_ne (C := "java/lang/String") (Or.inr (w29 hG)) (Or.inr (w27 hG)) (by decide) (t := (.array .byte)) (t' := .byte) (by decide) (by decide)))
  have f19 := Fld.keep f18 K2 nin0
  have f20 := Exa.wr W12 EX
  have f21 := Exa.keep f20 K2
  refine oGo.putfield (pc' := 38) (ty := (.array .byte)) d22_35 rfl (w28 hG) Via.refl f19 f21 (Or.inr ⟨(w29 hG), rfl, rfl⟩) (w1 hG) (by decide) rfl rfl (by simp) ?_
  intro h22 W23 sh22
  have f24 := Fld.same W23 f19
  refine oGo.goto (pc' := 97) d22_38 (by decide) ?_
  have f25 := Exa.wr W23 f21
  have f26 := Fld.keep f13 K2 nin0
  have f27 := Fld.other W23 f26 (Or.inr (slot_ne (C := "java/lang/String") (Or.inr (w27 hG)) (Or.inr (w29 hG)) (by decide) (t := .byte) (t' := (.array .byte)) (by decide) (by decide)))
  have f28 := oArr.other W23 B2 (own_ne (by omega))
  exact oGo.return_ d22_97 rfl (by decide) (by decide) ⟨rfl, (((Keep.refl h [x]).wr W12 (Or.inl (by simp))).trans K2 (by simp)).wr W23 (Or.inl (by simp)), t, by omega, f25, f24, f27, f28, hcs⟩ (fun _ q => q.elim)
set_option maxRecDepth 65536 in
set_option maxHeartbeats 4000000 in
theorem c_strSB {l : Launch} {Z : State} {a0 : Array Value} {EL : List (String × Nat)} (hG : oG a0 Z EL) (x sb b : Nat) (cs : List Int32) (cap : Nat) (hN : cs.length ≤ 20) (hne : cs.length < cap) (hcs : ∀ c ∈ cs, ¬ c < 0 ∧ ¬ 255 < c) (u w0 : Value) (hxs : x ≠ sb ∧ x ≠ b) (h : Heap) (SB : oSB Z h sb b cs cap) (EX : Exa Z h x "java/lang/String") (G1 : Fld Z h x "java/lang/String" "value" "[B" u) (G2 : Fld Z h x "java/lang/String" "coder" "B" w0) :
    oCtr [] l Z a0 EL True (⟨"java/lang/String", "<init>", "(Ljava/lang/StringBuilder;)V"⟩ : MethodName) jdk_42_method_53_code 2 none ({ frames := 4, cells := 1, slots := 20, locals := 65 } : Room) #[.ref x, .ref sb] [x] h ((q_strSB Z h x cs)) oNo := by
  refine oCtr.enter (Ls := #[.val (.ref x), .val (.ref sb)]) (plainFor_of_name pn1) hG.2.1 (fun m => by first | (simp [entryFrame, mkF, argsToLocals, Value.category]; done) | rfl) ?_
  intro pP eE sS mM bB tT cC
  refine oGo.aload_n (pc' := 1) d21_0 rfl rfl rfl ?_
  refine oGo.aload_n (pc' := 2) d21_1 rfl rfl rfl ?_
  refine oGo.aconst_null (pc' := 3) d21_2 rfl ?_
  refine oGo.invokespecial (pc' := 6) (k' := 1) (n' := 20) (a := x) (argsL := [.ref sb, .null]) (rest := []) d21_3 rfl rfl (w134 hG) (w135 hG) (w2 hG) (w136 hG) (by decide) pd19 rfl rfl rfl (c_strASB hG x sb b cs cap hN hne hcs u w0 hxs h SB EX G1 G2) (by simp) (by decide) (Nat.le_of_ble_eq_true rfl) rfl rfl (by decide) (by decide) ?_
  intro v1 h2 sh2 q3
  obtain ⟨rfl, hq⟩ := q3
  refine ⟨_, fun _ hx => Or.inl hx, ?_⟩
  show oGo l Z a0 EL True pP eE sS mM _ bB tT cC _ _ _ _ _ _ _ _ [x] h2 1 20 6 #[.val (.ref x), .val (.ref sb)] []
  exact oGo.return_ d21_6 rfl (by decide) (by decide) ⟨rfl, hq⟩ (fun _ q => q.elim)
abbrev q_toStr (Z : State) (h : Heap) (cs : List Int32) : Option Value → Heap → Prop := fun v h' => Keep h h' [] ∧ ∃ x t : Nat, v = some (.ref x) ∧ h.size ≤ x ∧ h.size ≤ t ∧ oS Z h' x t cs
set_option maxRecDepth 65536 in
set_option maxHeartbeats 4000000 in
theorem c_toStr {l : Launch} {Z : State} {a0 : Array Value} {EL : List (String × Nat)} (hG : oG a0 Z EL) (sb b : Nat) (cs : List Int32) (cap : Nat) (hN : cs.length ≤ 20) (hne : cs.length < cap) (hcs : ∀ c ∈ cs, ¬ c < 0 ∧ ¬ 255 < c) (h : Heap) (SB : oSB Z h sb b cs cap) :
    oCtr [] l Z a0 EL True (⟨"java/lang/StringBuilder", "toString", "()Ljava/lang/String;"⟩ : MethodName) jdk_67_method_42_code 1 (some (.object "java/lang/String")) ({ frames := 5, cells := 2, slots := 24, locals := 79 } : Room) #[.ref sb] [] h ((q_toStr Z h cs)) oNo := by
  have hsl := own_ltN SB.1.lt
  have hbl : b < h.size := by obtain ⟨_, _, _, _, _, B, _⟩ := SB; exact own_ltN B.lt
  refine oCtr.enter (Ls := #[.val (.ref sb)]) (plainFor_of_name pn4) hG.2.1 (fun m => by first | (simp [entryFrame, mkF, argsToLocals, Value.category]; done) | rfl) ?_
  intro pP eE sS mM bB tT cC
  refine oGo.new (pc' := 3) (k' := 1) (n' := 4) d20_0 rfl (w130 hG) (w1 hG) (w2 hG) rfl rfl (by decide) (by decide) ?_
  intro h1 a2 qa2 la2 E3 X4 F5
  have f6 := F5 (Or.inr (w27 hG)) (ty := .byte) (by decide)
  have f7 := F5 (Or.inr (w29 hG)) (ty := (.array .byte)) (by decide)
  refine oGo.dup (pc' := 4) d20_3 rfl rfl ?_
  refine oGo.aload_n (pc' := 5) d20_4 rfl rfl rfl ?_
  have f8 := SB.ext E3
  refine oGo.invokespecial (pc' := 8) (k' := 2) (n' := 24) (a := a2) (argsL := [.ref sb]) (rest := [.ref a2]) d20_5 rfl rfl (w131 hG) (w132 hG) (w2 hG) (w133 hG) (by decide) pd20 rfl rfl rfl (c_strSB hG a2 sb b cs cap hN hne hcs _ _ (by omega) _ f8 X4 f7 f6) (by simp) (by decide) (Nat.le_of_ble_eq_true rfl) rfl rfl (by decide) (by decide) ?_
  intro v9 h10 sh10 q11
  obtain ⟨rfl, K2, t, ht, S2⟩ := q11
  refine ⟨_, fun _ hx => Or.inl hx, ?_⟩
  show oGo l Z a0 EL True pP eE sS mM _ bB tT cC _ _ _ _ _ _ _ _ [a2] h10 2 24 8 #[.val (.ref sb)] [.ref a2]
  exact oGo.areturn d20_8 rfl rfl rfl rfl (by decide) (by decide) ⟨((Keep.refl h []).ext E3).trans K2 (own_new1 (by omega)), a2, t, rfl, by omega, by omega, S2⟩ (fun _ q => q.elim)
set_option maxRecDepth 65536 in
set_option maxHeartbeats 4000000 in
theorem c_rnn {l : Launch} {Z : State} {a0 : Array Value} {EL : List (String × Nat)} (hG : oG a0 Z EL) (x y : Nat) (h : Heap)  :
    oCtr [] l Z a0 EL True (⟨"java/util/Objects", "requireNonNull", "(Ljava/lang/Object;Ljava/lang/String;)Ljava/lang/Object;"⟩ : MethodName) jdk_31_method_11_code 2 (some (.object "java/lang/Object")) ({ frames := 0, cells := 0, slots := 0, locals := 0 } : Room) #[.ref x, .ref y] [] h (fun v h' => v = some (.ref x) ∧ h' = h) oNo := by
  refine oCtr.enter (Ls := #[.val (.ref x), .val (.ref y)]) (plainFor_of_name pn6) hG.2.1 (fun m => by first | (simp [entryFrame, mkF, argsToLocals, Value.category]; done) | rfl) ?_
  intro pP eE sS mM bB tT cC
  refine oGo.aload_n (pc' := 1) d8_0 rfl rfl rfl ?_
  refine oGo.ifnonnull_y (pc2 := 13) d8_1 (by decide) ?_
  refine oGo.aload_n (pc' := 14) d8_13 rfl rfl rfl ?_
  exact oGo.areturn d8_14 rfl rfl rfl rfl (by decide) (by decide) ⟨rfl, rfl⟩ (fun _ q => q.elim)
set_option maxRecDepth 65536 in
set_option maxHeartbeats 4000000 in
theorem c_latEq {l : Launch} {Z : State} {a0 : Array Value} {EL : List (String × Nat)} (hG : oG a0 Z EL) (a b : Nat) (us : List Int32) (h : Heap) (A : oArr Z h a .byte (oI us)) (B : oArr Z h b .byte (oI us)) :
    oCtr [] l Z a0 EL True (⟨"java/lang/StringLatin1", "equals", "([B[B)Z"⟩ : MethodName) jdk_43_method_13_code 3 (some .boolean) ({ frames := 0, cells := 0, slots := 0, locals := 0 } : Room) #[.ref a, .ref b] [] h (fun v h' => v = some (.int 1) ∧ h' = h) oNo := by
  have hb31 : us.length < 2147483648 := by obtain ⟨_, _, _, q, _⟩ := A; simpa using q
  refine oCtr.enter (Ls := #[.val (.ref a), .val (.ref b), .unset]) (plainFor_of_name pn7) hG.2.1 (fun m => by first | (simp [entryFrame, mkF, argsToLocals, Value.category]; done) | rfl) ?_
  intro pP eE sS mM bB tT cC
  refine oGo.aload_n (pc' := 1) d32_0 rfl rfl rfl ?_
  refine oGo.arraylength (pc' := 2) (z := (Int32.ofNat us.length)) d32_1 rfl A (by rw [List.length_map]) ?_
  refine oGo.aload_n (pc' := 3) d32_2 rfl rfl rfl ?_
  refine oGo.arraylength (pc' := 4) (z := (Int32.ofNat us.length)) d32_3 rfl B (by rw [List.length_map]) ?_
  refine oGo.icmp_ne (pc1 := 7) (pc2 := 34) d32_4 rfl (by decide) (fun q => absurd rfl q) (fun q1 => ?_)
  refine oGo.iconst (pc' := 8) (v := 0) d32_7 rfl (by decide) ?_
  refine oGo.istore_n (pc' := 9) (Ls' := #[.val (.ref a), .val (.ref b), .val (.int (0 : Int32))]) d32_8 rfl rfl ?_
  have loop : ∀ (r i : Nat), r + i = us.length → oGo l Z a0 EL True pP eE sS mM #[.ref a, .ref b] bB tT cC ({ frames := 0, cells := 0, slots := 0, locals := 0 } : Room) "java/lang/StringLatin1" jdk_43_method_13_code 3 (some .boolean) "equals" (fun v h' => v = some (.int 1) ∧ h' = h) oNo [] h 0 0 9 #[.val (.ref a), .val (.ref b), .val (.int (Int32.ofNat i))] [] := by
    intro r
    induction r with
    | zero =>
      intro i hr
      obtain rfl : i = us.length := by omega
      refine oGo.iload_n (pc' := 10) d32_9 rfl rfl ?_
      refine oGo.aload_n (pc' := 11) d32_10 rfl rfl rfl ?_
      refine oGo.arraylength (pc' := 12) (z := (Int32.ofNat us.length)) d32_11 rfl A (by rw [List.length_map]) ?_
      refine oGo.icmp_ge (pc1 := 15) (pc2 := 32) d32_12 rfl (by decide) (fun q2 => ?_) (fun q => absurd q (by rw [own_lt hb31 hb31]; omega))
      refine oGo.iconst (pc' := 33) (v := 1) d32_32 rfl (by decide) ?_
      exact oGo.nreturn d32_33 rfl (by simp) rfl (by decide) (by decide) ⟨rfl, rfl⟩ (fun _ q => q.elim)
    | succ r ih =>
      intro i hr
      have hi : i < us.length := by omega
      obtain ⟨c, hci⟩ : ∃ c, us[i]? = some c := ⟨_, List.getElem?_eq_getElem hi⟩
      refine oGo.iload_n (pc' := 10) d32_9 rfl rfl ?_
      refine oGo.aload_n (pc' := 11) d32_10 rfl rfl rfl ?_
      refine oGo.arraylength (pc' := 12) (z := (Int32.ofNat us.length)) d32_11 rfl A (by rw [List.length_map]) ?_
      refine oGo.icmp_ge (pc1 := 15) (pc2 := 32) d32_12 rfl (by decide) (fun q => absurd ((own_lt (by omega) hb31).mpr hi) q) (fun q3 => ?_)
      refine oGo.aload_n (pc' := 16) d32_15 rfl rfl rfl ?_
      refine oGo.iload_n (pc' := 17) d32_16 rfl rfl ?_
      refine oGo.baload (pc' := 18) (i := i) d32_17 rfl A rfl (by rw [List.getElem?_map, hci]; rfl) ?_
      refine oGo.aload_n (pc' := 19) d32_18 rfl rfl rfl ?_
      refine oGo.iload_n (pc' := 20) d32_19 rfl rfl ?_
      refine oGo.baload (pc' := 21) (i := i) d32_20 rfl B rfl (by rw [List.getElem?_map, hci]; rfl) ?_
      refine oGo.icmp_eq (pc1 := 24) (pc2 := 26) d32_21 rfl (by decide) (fun q4 => ?_) (fun q => absurd rfl q)
      refine oGo.iinc (pc' := 29) (y := 1) (Ls' := #[.val (.ref a), .val (.ref b), .val (.int ((Int32.ofNat i) + (1 : Int32)))]) d32_26 rfl rfl (by decide) rfl ?_
      refine oGo.goto (pc' := 9) d32_29 (by decide) ?_
      rw [own_succ]
      exact ih (i + 1) (by omega)
  exact loop us.length 0 rfl
set_option maxRecDepth 65536 in
set_option maxHeartbeats 4000000 in
theorem c_equals {l : Launch} {Z : State} {a0 : Array Value} {EL : List (String × Nat)} (hG : oG a0 Z EL) (x t y t' : Nat) (cs : List Int32) (hne : x ≠ y) (h : Heap) (Sx : oS Z h x t cs) (Sy : oS Z h y t' cs) :
    oCtr [] l Z a0 EL True (⟨"java/lang/String", "equals", "(Ljava/lang/Object;)Z"⟩ : MethodName) jdk_42_method_66_code 3 (some .boolean) ({ frames := 1, cells := 0, slots := 0, locals := 14 } : Room) #[.ref x, .ref y] [] h (fun v h' => v = some (.int 1) ∧ h' = h) oNo := by
  obtain ⟨z, hzs, hz⟩ := sCOMPACT hG
  refine oCtr.enter (Ls := #[.val (.ref x), .val (.ref y), .unset]) (plainFor_of_name pn1) hG.2.1 (fun m => by first | (simp [entryFrame, mkF, argsToLocals, Value.category]; done) | rfl) ?_
  intro pP eE sS mM bB tT cC
  refine oGo.aload_n (pc' := 1) d31_0 rfl rfl rfl ?_
  refine oGo.aload_n (pc' := 2) d31_1 rfl rfl rfl ?_
  refine oGo.acmp_y (pc2 := 7) d31_2 (by decide) rfl rfl (by simp [XT.acmp, hne]) ?_
  refine oGo.aload_n (pc' := 8) d31_7 rfl rfl rfl ?_
  refine oGo.instanceof_y (pc' := 11) d31_8 rfl (w176 hG) (Ins.self Sy.1) ?_
  refine oGo.if_eq (pc1 := 14) (pc2 := 54) d31_11 rfl (by decide) (fun q => by first | exact absurd q (by decide) | exact absurd (by decide) q) (fun q1 => ?_)
  refine oGo.aload_n (pc' := 15) d31_14 rfl rfl rfl ?_
  refine oGo.checkcast (Cn := "") (pc' := 18) d31_15 rfl (w176 hG) (Ins.self Sy.1) ?_
  refine oGo.astore_n (pc' := 19) (Ls' := #[.val (.ref x), .val (.ref y), .val (.ref y)]) d31_18 rfl rfl rfl ?_
  refine oGo.getstatic (pc' := 22) d31_19 rfl (w14 hG) Via.refl hzs ?_
  refine oGo.if_eq (pc1 := 25) (pc2 := 36) d31_22 rfl (by decide) (fun q => absurd q hz) (fun q2 => ?_)
  refine oGo.aload_n (pc' := 26) d31_25 rfl rfl rfl ?_
  refine oGo.getfield (pc' := 29) d31_26 rfl (w26 hG) Via.refl Sx.2.2.1 ?_
  refine oGo.aload_n (pc' := 30) d31_29 rfl rfl rfl ?_
  refine oGo.getfield (pc' := 33) d31_30 rfl (w26 hG) Via.refl Sy.2.2.1 ?_
  refine oGo.icmp_ne (pc1 := 36) (pc2 := 54) d31_33 rfl (by decide) (fun q => absurd rfl q) (fun q3 => ?_)
  refine oGo.aload_n (pc' := 37) d31_36 rfl rfl rfl ?_
  refine oGo.getfield (pc' := 40) d31_37 rfl (w28 hG) Via.refl Sx.2.1 ?_
  refine oGo.aload_n (pc' := 41) d31_40 rfl rfl rfl ?_
  refine oGo.getfield (pc' := 44) d31_41 rfl (w28 hG) Via.refl Sy.2.1 ?_
  refine oGo.invokestatic (pc' := 47) (k' := 0) (n' := 0) (argsL := [.ref t, .ref t']) (rest := []) d31_44 rfl (w177 hG) (w178 hG) (w179 hG) (w180 hG) (by decide) pd21 rfl rfl rfl (c_latEq hG t t' _ h Sx.2.2.2.1 Sy.2.2.2.1) (by simp) (by decide) (Nat.le_of_ble_eq_true rfl) rfl rfl (by decide) (by decide) ?_
  intro v4 h5 sh5 q6
  obtain ⟨rfl, ee⟩ := q6
  obtain rfl := ee.symm
  refine ⟨_, fun _ hx => Or.inl hx, ?_⟩
  show oGo l Z a0 EL True pP eE sS mM _ bB tT cC _ _ _ _ _ _ _ _ [] h 0 0 47 #[.val (.ref x), .val (.ref y), .val (.ref y)] [.int (1 : Int32)]
  refine oGo.if_eq (pc1 := 50) (pc2 := 54) d31_47 rfl (by decide) (fun q => by first | exact absurd q (by decide) | exact absurd (by decide) q) (fun q7 => ?_)
  refine oGo.iconst (pc' := 51) (v := 1) d31_50 rfl (by decide) ?_
  refine oGo.goto (pc' := 55) d31_51 (by decide) ?_
  exact oGo.nreturn d31_55 rfl (by simp) rfl (by decide) (by decide) ⟨rfl, rfl⟩ (fun _ q => q.elim)
abbrev q_bp (Z : State) (h : Heap) (bp p r : Nat) (vv : Value) : Option Value → Heap → Prop := fun v h' => v = none ∧ Keep h h' [bp] ∧ Exa Z h' bp "com/example/orderly_settings/orderlysettings/BindingProblem" ∧ Fld Z h' bp "com/example/orderly_settings/orderlysettings/BindingProblem" "property" "Ljava/lang/String;" (.ref p) ∧ Fld Z h' bp "com/example/orderly_settings/orderlysettings/BindingProblem" "value" "Ljava/lang/String;" vv ∧ Fld Z h' bp "com/example/orderly_settings/orderlysettings/BindingProblem" "reason" "Ljava/lang/String;" (.ref r)
set_option maxRecDepth 65536 in
set_option maxHeartbeats 4000000 in
theorem c_bp {l : Launch} {Z : State} {a0 : Array Value} {EL : List (String × Nat)} (hG : oG a0 Z EL) (bp p r : Nat) (vv : Value) (hv : vv.isRef = true) (h : Heap) (E : Exa Z h bp "com/example/orderly_settings/orderlysettings/BindingProblem") (Ep : Exa Z h p "java/lang/String") (Er : Exa Z h r "java/lang/String") (F1 : Fld Z h bp "com/example/orderly_settings/orderlysettings/BindingProblem" "property" "Ljava/lang/String;" .null) (F2 : Fld Z h bp "com/example/orderly_settings/orderlysettings/BindingProblem" "value" "Ljava/lang/String;" .null) (F3 : Fld Z h bp "com/example/orderly_settings/orderlysettings/BindingProblem" "reason" "Ljava/lang/String;" .null) :
    oCtr [] l Z a0 EL True (⟨"com/example/orderly_settings/orderlysettings/BindingProblem", "<init>", "(Ljava/lang/String;Ljava/lang/String;Ljava/lang/String;)V"⟩ : MethodName) prog_1_method_1_code 4 none ({ frames := 1, cells := 4, slots := 64, locals := 14 } : Room) #[.ref bp, .ref p, vv, .ref r] [bp] h ((q_bp Z h bp p r vv)) oNo := by
  have lbp := own_ltN E.lt
  refine oCtr.enter (Ls := #[.val (.ref bp), .val (.ref p), .val vv, .val (.ref r)]) (plainFor_of_name pn8) hG.2.1 (fun m => by rcases ref_cases hv with rfl | ⟨_, rfl⟩ <;> first | (simp [entryFrame, mkF, argsToLocals, Value.category]; done) | rfl) ?_
  intro pP eE sS mM bB tT cC
  refine oGo.aload_n (pc' := 1) d7_0 rfl rfl rfl ?_
  refine oGo.objinit (pc' := 4) d7_1 rfl (w39 hG) (w12 hG) (w13 hG) rfl (by decide) (Nat.le_of_ble_eq_true rfl) ?_
  refine oGo.aload_n (pc' := 5) d7_4 rfl rfl rfl ?_
  refine oGo.aload_n (pc' := 6) d7_5 rfl rfl rfl ?_
  refine oGo.ldc_op (pc' := 8) (k' := 2) (n' := 36) d7_6 rfl trivial (w40 hG) (strAt hG) (by decide) rfl rfl (by decide) (by decide) ?_
  intro h1 a2 E3
  have sh1 := E3.1
  refine oGo.invokestatic (pc' := 11) (k' := 2) (n' := 36) (argsL := [.ref p, .ref a2]) (rest := [.ref bp]) d7_8 rfl (w41 hG) (w42 hG) (w43 hG) (w44 hG) (by decide) pd22 rfl rfl rfl (c_rnn hG p a2 _) (by simp) (by decide) (Nat.le_of_ble_eq_true rfl) rfl rfl (by decide) (by decide) ?_
  intro v4 h5 sh5 q6
  obtain ⟨rfl, ee⟩ := q6
  obtain rfl := ee.symm
  refine ⟨_, fun _ hx => Or.inl hx, ?_⟩
  show oGo l Z a0 EL True pP eE sS mM _ bB tT cC _ _ _ _ _ _ _ _ [bp] h1 2 36 11 #[.val (.ref bp), .val (.ref p), .val vv, .val (.ref r)] [.ref p, .ref bp]
  have f7 := Exa.ext E3 Ep
  refine oGo.checkcast (Cn := "") (pc' := 14) d7_11 rfl (w45 hG) (Ins.self f7) ?_
  have f8 := Fld.ext E3 F1
  have f9 := Exa.ext E3 E
  refine oGo.putfield (pc' := 17) (ty := (.object "java/lang/String")) d7_14 rfl (w46 hG) Via.refl f8 f9 (Or.inr ⟨(w47 hG), rfl, rfl⟩) (w34 hG) (by decide) rfl rfl (by simp) ?_
  intro h10 W11 sh10
  have f12 := Fld.same W11 f8
  refine oGo.aload_n (pc' := 18) d7_17 rfl rfl rfl ?_
  refine oGo.aload_n (pc' := 19) d7_18 rfl rfl hv ?_
  have f13 := Fld.ext E3 F2
  have f14 := Fld.other W11 f13 (Or.inr (slot_ne (C := "com/example/orderly_settings/orderlysettings/BindingProblem") (Or.inr (w49 hG)) (Or.inr (w47 hG)) (by decide) (t := (.object "java/lang/String")) (t' := (.object "java/lang/String")) (by decide) (by decide)))
  have f15 := Exa.wr W11 f9
  refine oGo.putfield (pc' := 22) (ty := (.object "java/lang/String")) d7_19 rfl (w48 hG) Via.refl f14 f15 (Or.inr ⟨(w49 hG), rfl, rfl⟩) (w34 hG) (by decide) (by rcases ref_cases hv with rfl | ⟨_, rfl⟩ <;> rfl) (by rcases ref_cases hv with rfl | ⟨_, rfl⟩ <;> rfl) (by simp) ?_
  intro h16 W17 sh16
  have f18 := Fld.same W17 f14
  refine oGo.aload_n (pc' := 23) d7_22 rfl rfl rfl ?_
  refine oGo.aload_n (pc' := 24) d7_23 rfl rfl rfl ?_
  refine oGo.ldc_op (pc' := 26) (k' := 4) (n' := 64) d7_24 rfl trivial (w50 hG) (strAt hG) (by decide) rfl rfl (by decide) (by decide) ?_
  intro h19 a20 E21
  have sh19 := E21.1
  refine oGo.invokestatic (pc' := 29) (k' := 4) (n' := 64) (argsL := [.ref r, .ref a20]) (rest := [.ref bp]) d7_26 rfl (w41 hG) (w42 hG) (w43 hG) (w44 hG) (by decide) pd22 rfl rfl rfl (c_rnn hG r a20 _) (by simp) (by decide) (Nat.le_of_ble_eq_true rfl) rfl rfl (by decide) (by decide) ?_
  intro v22 h23 sh23 q24
  obtain ⟨rfl, ee⟩ := q24
  obtain rfl := ee.symm
  refine ⟨_, fun _ hx => Or.inl hx, ?_⟩
  show oGo l Z a0 EL True pP eE sS mM _ bB tT cC _ _ _ _ _ _ _ _ [bp] h19 4 64 29 #[.val (.ref bp), .val (.ref p), .val vv, .val (.ref r)] [.ref r, .ref bp]
  have f25 := Exa.ext E3 Er
  have f26 := Exa.wr W11 f25
  have f27 := Exa.wr W17 f26
  have f28 := Exa.ext E21 f27
  refine oGo.checkcast (Cn := "") (pc' := 32) d7_29 rfl (w45 hG) (Ins.self f28) ?_
  have f29 := Fld.ext E3 F3
  have f30 := Fld.other W11 f29 (Or.inr (slot_ne (C := "com/example/orderly_settings/orderlysettings/BindingProblem") (Or.inr (w52 hG)) (Or.inr (w47 hG)) (by decide) (t := (.object "java/lang/String")) (t' := (.object "java/lang/String")) (by decide) (by decide)))
  have f31 := Fld.other W17 f30 (Or.inr (slot_ne (C := "com/example/orderly_settings/orderlysettings/BindingProblem") (Or.inr (w52 hG)) (Or.inr (w49 hG)) (by decide) (t := (.object "java/lang/String")) (t' := (.object "java/lang/String")) (by decide) (by decide)))
  have f32 := Fld.ext E21 f31
  have f33 := Exa.wr W17 f15
  have f34 := Exa.ext E21 f33
  refine oGo.putfield (pc' := 35) (ty := (.object "java/lang/String")) d7_32 rfl (w51 hG) Via.refl f32 f34 (Or.inr ⟨(w52 hG), rfl, rfl⟩) (w34 hG) (by decide) rfl rfl (by simp) ?_
  intro h35 W36 sh35
  have f37 := Fld.same W36 f32
  have f38 := Exa.wr W36 f34
  have f39 := Fld.other W17 f12 (Or.inr (slot_ne (C := "com/example/orderly_settings/orderlysettings/BindingProblem") (Or.inr (w47 hG)) (Or.inr (w49 hG)) (by decide) (t := (.object "java/lang/String")) (t' := (.object "java/lang/String")) (by decide) (by decide)))
  have f40 := Fld.ext E21 f39
  have f41 := Fld.other W36 f40 (Or.inr (slot_ne (C := "com/example/orderly_settings/orderlysettings/BindingProblem") (Or.inr (w47 hG)) (Or.inr (w52 hG)) (by decide) (t := (.object "java/lang/String")) (t' := (.object "java/lang/String")) (by decide) (by decide)))
  have f42 := Fld.ext E21 f18
  have f43 := Fld.other W36 f42 (Or.inr (slot_ne (C := "com/example/orderly_settings/orderlysettings/BindingProblem") (Or.inr (w49 hG)) (Or.inr (w52 hG)) (by decide) (t := (.object "java/lang/String")) (t' := (.object "java/lang/String")) (by decide) (by decide)))
  exact oGo.return_ d7_35 rfl (by decide) (by decide) ⟨rfl, ((((((Keep.refl h [bp]).ext E3).wr W11 (Or.inl (by simp))).wr W17 (Or.inl (by simp))).ext E21).wr W36 (Or.inl (by simp))), f38, f41, f43, f37⟩ (fun _ q => q.elim)
set_option maxRecDepth 65536 in
set_option maxHeartbeats 4000000 in
theorem c_tsn {l : Launch} {Z : State} {a0 : Array Value} {EL : List (String × Nat)} (hG : oG a0 Z EL) (bp p tp r tr : Nat) (p0 p1 r0 r1 : Int32) (bp0 : ¬ p0 < 0 ∧ ¬ 255 < p0) (bp1 : ¬ p1 < 0 ∧ ¬ 255 < p1) (br0 : ¬ r0 < 0 ∧ ¬ 255 < r0) (br1 : ¬ r1 < 0 ∧ ¬ 255 < r1) (h : Heap) (F1 : Fld Z h bp "com/example/orderly_settings/orderlysettings/BindingProblem" "property" "Ljava/lang/String;" (.ref p)) (F2 : Fld Z h bp "com/example/orderly_settings/orderlysettings/BindingProblem" "value" "Ljava/lang/String;" .null) (F3 : Fld Z h bp "com/example/orderly_settings/orderlysettings/BindingProblem" "reason" "Ljava/lang/String;" (.ref r)) (Sp : oS Z h p tp [p0, p1]) (Sr : oS Z h r tr [r0, r1]) :
    oCtr [] l Z a0 EL True (⟨"com/example/orderly_settings/orderlysettings/BindingProblem", "toString", "()Ljava/lang/String;"⟩ : MethodName) prog_1_method_5_code 2 (some (.object "java/lang/String")) ({ frames := 6, cells := 24, slots := 1000, locals := 91 } : Room) #[.ref bp] [] h ((q_toStr Z h [p0, p1, 32, 40, 110, 111, 32, 118, 97, 108, 117, 101, 41, 58, 32, r0, r1])) oNo := by
  have lbp := own_ltN F1.lt
  have lp := own_ltN Sp.1.lt
  have ltp := own_ltN Sp.2.2.2.1.lt
  have lr := own_ltN Sr.1.lt
  have ltr := own_ltN Sr.2.2.2.1.lt
  refine oCtr.enter (Ls := #[.val (.ref bp), .unset]) (plainFor_of_name pn8) hG.2.1 (fun m => by first | (simp [entryFrame, mkF, argsToLocals, Value.category]; done) | rfl) ?_
  intro pP eE sS mM bB tT cC
  refine oGo.aload_n (pc' := 1) d9_0 rfl rfl rfl ?_
  refine oGo.getfield (pc' := 4) d9_1 rfl (w48 hG) Via.refl F2 ?_
  refine oGo.ifnonnull_n (b := 0) (pc1 := 7) d9_4 rfl ?_
  refine oGo.ldc_str (pc' := 9) (k' := 2) (n' := 48) (vs := oI (([32, 40, 110, 111, 32, 118, 97, 108, 117, 101, 41] : List Int32).map lo8)) d9_7 rfl trivial (w181 hG) (strAt hG) (hG.2.2.2 _ (by decide)) (by decide) (by decide) rfl rfl (by decide) (by decide) ?_
  intro h1 a2 b3 E4 Xa2 Ca2 Va2 Ba2 la2 lb3 na2
  have S5 : oS Z h1 a2 b3 [32, 40, 110, 111, 32, 118, 97, 108, 117, 101, 41] := ⟨Xa2, Va2, Ca2, Ba2, by decide⟩
  refine oGo.goto (pc' := 39) d9_9 (by decide) ?_
  refine oGo.astore_n (pc' := 40) (Ls' := #[.val (.ref bp), .val (.ref a2)]) d9_39 rfl rfl rfl ?_
  refine oGo.new (pc' := 43) (k' := 3) (n' := 52) d9_40 rfl (w58 hG) (w59 hG) (w60 hG) rfl rfl (by decide) (by decide) ?_
  intro h6 a7 qa7 la7 E8 X9 F10
  have f11 := F10 (Or.inl (w73 hG)) (ty := (.array .byte)) (by decide)
  have f12 := F10 (Or.inl (w75 hG)) (ty := .byte) (by decide)
  have f13 := F10 (Or.inl (w98 hG)) (ty := .int) (by decide)
  refine oGo.dup (pc' := 44) d9_43 rfl rfl ?_
  refine oGo.invokespecial (pc' := 47) (k' := 4) (n' := 68) (a := a7) (argsL := []) (rest := [.ref a7]) d9_44 rfl rfl (w61 hG) (w62 hG) (w60 hG) (w63 hG) (by decide) pd23 rfl rfl rfl (c_sbInit hG a7 _ _ X9 f11 f12 f13) (by simp) (by decide) (Nat.le_of_ble_eq_true rfl) rfl rfl (by decide) (by decide) ?_
  intro v14 h15 sh15 q16
  obtain ⟨rfl, Kc0, bc0, hbc0, SBc0⟩ := q16
  have lbc0 : bc0 < h15.size := by obtain ⟨_, _, _, _, _, B, _⟩ := SBc0; exact own_ltN B.lt
  refine ⟨[bc0, a7], own_D1 (SBc0.2.1), ?_⟩
  show oGo l Z a0 EL True pP eE sS mM _ bB tT cC _ _ _ _ _ _ _ _ [bc0, a7] h15 4 68 47 #[.val (.ref bp), .val (.ref a2)] [.ref a7]
  refine oGo.aload_n (pc' := 48) d9_47 rfl rfl rfl ?_
  have f17 := Fld.ext E4 F1
  have f18 := Fld.ext E8 f17
  have g20 := own_lt_le (x := bp) lbp E4.1
  have f19 := Fld.keep f18 Kc0 (own_nin1 (own_ne_ge (x := bp) (y := a7) g20 (own_ge_eq qa7)))
  refine oGo.getfield (pc' := 51) d9_48 rfl (w46 hG) Via.refl f19 ?_
  have f21 := Sp.ext E4
  have f22 := f21.ext E8
  have g24 := own_lt_le (x := p) lp E4.1
  have g25 := own_lt_le (x := tp) ltp E4.1
  have f23 := f22.keep Kc0 (own_nin1 (own_ne_ge (x := p) (y := a7) g24 (own_ge_eq qa7))) (own_nin1 (own_ne_ge (x := tp) (y := a7) g25 (own_ge_eq qa7)))
  have g26 := own_lt_le (x := p) g24 E8.1
  have g27 := own_lt_le (x := tp) g25 E8.1
  refine oGo.invokevirtual (pc' := 54) (k' := 5) (n' := 102) (a := a7) (argsL := [.ref p]) (rest := []) d9_51 rfl (w77 hG) (w78 hG) (w80 hG) (w80 hG) rfl (w79 hG) (w60 hG) (w81 hG) (by decide) pd24 rfl rfl rfl SBc0.1 (c_append hG a7 bc0 p tp [] [p0, p1] 16 (Nat.le_of_ble_eq_true rfl) (by decide) (Nat.lt_of_sub_pos (by simp)) ⟨(own_ne_ge (x := p) (y := a7) g24 (own_ge_eq qa7)), (own_ne_ge (x := p) (y := bc0) g26 hbc0), (own_ne_ge (x := tp) (y := a7) g25 (own_ge_eq qa7)), (own_ne_ge (x := tp) (y := bc0) g27 hbc0)⟩ _ SBc0 f23) (by simp) (by decide) (Nat.le_of_ble_eq_true rfl) rfl rfl (by decide) (by decide) ?_
  intro v28 h29 sh29 q30
  obtain ⟨rfl, Kc1, bc1, hbc1, SBc1'⟩ := q30
  have SBc1 : oSB Z h29 a7 bc1 [p0, p1] 16 := SBc1'
  have lbc1 : bc1 < h29.size := by obtain ⟨_, _, _, _, _, B, _⟩ := SBc1; exact own_ltN B.lt
  refine ⟨[bc1, bc0, a7], own_D1 (SBc1.2.1), ?_⟩
  show oGo l Z a0 EL True pP eE sS mM _ bB tT cC _ _ _ _ _ _ _ _ [bc1, bc0, a7] h29 5 102 54 #[.val (.ref bp), .val (.ref a2)] [.ref a7]
  refine oGo.aload_n (pc' := 55) d9_54 rfl rfl rfl ?_
  have f31 := S5.ext E8
  have f32 := f31.keep Kc0 (own_nin1 (own_ne_ge (x := a2) (y := a7) la2 (own_ge_eq qa7))) (own_nin1 (own_ne_ge (x := b3) (y := a7) lb3 (own_ge_eq qa7)))
  have g34 := own_lt_le (x := a2) la2 E8.1
  have g35 := own_lt_le (x := b3) lb3 E8.1
  have f33 := f32.keep Kc1 (own_nin2 (own_ne_ge (x := a2) (y := a7) la2 (own_ge_eq qa7)) (own_ne_ge (x := a2) (y := bc0) g34 hbc0)) (own_nin2 (own_ne_ge (x := b3) (y := a7) lb3 (own_ge_eq qa7)) (own_ne_ge (x := b3) (y := bc0) g35 hbc0))
  have g36 := own_lt_le (x := a2) g34 Kc0.1
  have g37 := own_lt_le (x := b3) g35 Kc0.1
  refine oGo.invokevirtual (pc' := 58) (k' := 6) (n' := 136) (a := a7) (argsL := [.ref a2]) (rest := []) d9_55 rfl (w77 hG) (w78 hG) (w80 hG) (w80 hG) rfl (w79 hG) (w60 hG) (w81 hG) (by decide) pd24 rfl rfl rfl SBc1.1 (c_append hG a7 bc1 a2 b3 [p0, p1] [32, 40, 110, 111, 32, 118, 97, 108, 117, 101, 41] 16 (Nat.le_of_ble_eq_true rfl) (by decide) (Nat.lt_of_sub_pos (by simp)) ⟨(own_ne_ge (x := a2) (y := a7) la2 (own_ge_eq qa7)), (own_ne_or (x := a2) (z := bc1) (own_ne_ge (x := a2) (y := bc0) g34 hbc0) g36 hbc1), (own_ne_ge (x := b3) (y := a7) lb3 (own_ge_eq qa7)), (own_ne_or (x := b3) (z := bc1) (own_ne_ge (x := b3) (y := bc0) g35 hbc0) g37 hbc1)⟩ _ SBc1 f33) (by simp) (by decide) (Nat.le_of_ble_eq_true rfl) rfl rfl (by decide) (by decide) ?_
  intro v38 h39 sh39 q40
  obtain ⟨rfl, Kc2, bc2, hbc2, SBc2'⟩ := q40
  have SBc2 : oSB Z h39 a7 bc2 [p0, p1, 32, 40, 110, 111, 32, 118, 97, 108, 117, 101, 41] 16 := SBc2'
  have lbc2 : bc2 < h39.size := by obtain ⟨_, _, _, _, _, B, _⟩ := SBc2; exact own_ltN B.lt
  refine ⟨[bc2, bc1, bc0, a7], own_D1 (SBc2.2.1), ?_⟩
  show oGo l Z a0 EL True pP eE sS mM _ bB tT cC _ _ _ _ _ _ _ _ [bc2, bc1, bc0, a7] h39 6 136 58 #[.val (.ref bp), .val (.ref a2)] [.ref a7]
  refine oGo.ldc_str (pc' := 60) (k' := 8) (n' := 148) (vs := oI (([58, 32] : List Int32).map lo8)) d9_58 rfl trivial (w170 hG) (strAt hG) (hG.2.2.2 _ (by decide)) (by decide) (by decide) rfl rfl (by decide) (by decide) ?_
  intro h41 a42 b43 E44 Xa42 Ca42 Va42 Ba42 la42 lb43 na42
  have S45 : oS Z h41 a42 b43 [58, 32] := ⟨Xa42, Va42, Ca42, Ba42, by decide⟩
  have f46 := SBc2.ext E44
  have f50 := Exa.ext E44 SBc2.1
  refine oGo.invokevirtual (pc' := 63) (k' := 9) (n' := 182) (a := a7) (argsL := [.ref a42]) (rest := []) d9_60 rfl (w77 hG) (w78 hG) (w80 hG) (w80 hG) rfl (w79 hG) (w60 hG) (w81 hG) (by decide) pd24 rfl rfl rfl f50 (c_append hG a7 bc2 a42 b43 [p0, p1, 32, 40, 110, 111, 32, 118, 97, 108, 117, 101, 41] [58, 32] 16 (Nat.le_of_ble_eq_true rfl) (by decide) (Nat.lt_of_sub_pos (by simp)) ⟨(Ne.symm (na42 a7 (by simp)).1), (Ne.symm (na42 bc2 (by simp)).1), (Ne.symm (na42 a7 (by simp)).2), (Ne.symm (na42 bc2 (by simp)).2)⟩ _ f46 S45) (by simp) (by decide) (Nat.le_of_ble_eq_true rfl) rfl rfl (by decide) (by decide) ?_
  intro v47 h48 sh48 q49
  obtain ⟨rfl, Kc3, bc3, hbc3, SBc3'⟩ := q49
  have SBc3 : oSB Z h48 a7 bc3 [p0, p1, 32, 40, 110, 111, 32, 118, 97, 108, 117, 101, 41, 58, 32] 16 := SBc3'
  have lbc3 : bc3 < h48.size := by obtain ⟨_, _, _, _, _, B, _⟩ := SBc3; exact own_ltN B.lt
  refine ⟨[bc3, bc2, bc1, bc0, a7], own_D1 (SBc3.2.1), ?_⟩
  show oGo l Z a0 EL True pP eE sS mM _ bB tT cC _ _ _ _ _ _ _ _ [bc3, bc2, bc1, bc0, a7] h48 9 182 63 #[.val (.ref bp), .val (.ref a2)] [.ref a7]
  refine oGo.aload_n (pc' := 64) d9_63 rfl rfl rfl ?_
  have f51 := Fld.ext E4 F3
  have f52 := Fld.ext E8 f51
  have f53 := Fld.keep f52 Kc0 (own_nin1 (own_ne_ge (x := bp) (y := a7) g20 (own_ge_eq qa7)))
  have g55 := own_lt_le (x := bp) g20 E8.1
  have f54 := Fld.keep f53 Kc1 (own_nin2 (own_ne_ge (x := bp) (y := a7) g20 (own_ge_eq qa7)) (own_ne_ge (x := bp) (y := bc0) g55 hbc0))
  have g57 := own_lt_le (x := bp) g55 Kc0.1
  have f56 := Fld.keep f54 Kc2 (own_nin2 (own_ne_ge (x := bp) (y := a7) g20 (own_ge_eq qa7)) (own_ne_or (x := bp) (z := bc1) (own_ne_ge (x := bp) (y := bc0) g55 hbc0) g57 hbc1))
  have f58 := Fld.ext E44 f56
  have g60 := own_lt_le (x := bp) g57 Kc1.1
  have f59 := Fld.keep f58 Kc3 (own_nin2 (own_ne_ge (x := bp) (y := a7) g20 (own_ge_eq qa7)) (own_ne_or (x := bp) (z := bc2) (own_ne_or (x := bp) (z := bc1) (own_ne_ge (x := bp) (y := bc0) g55 hbc0) g57 hbc1) g60 hbc2))
  refine oGo.getfield (pc' := 67) d9_64 rfl (w51 hG) Via.refl f59 ?_
  have f61 := Sr.ext E4
  have f62 := f61.ext E8
  have g64 := own_lt_le (x := r) lr E4.1
  have g65 := own_lt_le (x := tr) ltr E4.1
  have f63 := f62.keep Kc0 (own_nin1 (own_ne_ge (x := r) (y := a7) g64 (own_ge_eq qa7))) (own_nin1 (own_ne_ge (x := tr) (y := a7) g65 (own_ge_eq qa7)))
  have g67 := own_lt_le (x := r) g64 E8.1
  have g68 := own_lt_le (x := tr) g65 E8.1
  have f66 := f63.keep Kc1 (own_nin2 (own_ne_ge (x := r) (y := a7) g64 (own_ge_eq qa7)) (own_ne_ge (x := r) (y := bc0) g67 hbc0)) (own_nin2 (own_ne_ge (x := tr) (y := a7) g65 (own_ge_eq qa7)) (own_ne_ge (x := tr) (y := bc0) g68 hbc0))
  have g70 := own_lt_le (x := r) g67 Kc0.1
  have g71 := own_lt_le (x := tr) g68 Kc0.1
  have f69 := f66.keep Kc2 (own_nin2 (own_ne_ge (x := r) (y := a7) g64 (own_ge_eq qa7)) (own_ne_or (x := r) (z := bc1) (own_ne_ge (x := r) (y := bc0) g67 hbc0) g70 hbc1)) (own_nin2 (own_ne_ge (x := tr) (y := a7) g65 (own_ge_eq qa7)) (own_ne_or (x := tr) (z := bc1) (own_ne_ge (x := tr) (y := bc0) g68 hbc0) g71 hbc1))
  have f72 := f69.ext E44
  have g74 := own_lt_le (x := r) g70 Kc1.1
  have g75 := own_lt_le (x := tr) g71 Kc1.1
  have f73 := f72.keep Kc3 (own_nin2 (own_ne_ge (x := r) (y := a7) g64 (own_ge_eq qa7)) (own_ne_or (x := r) (z := bc2) (own_ne_or (x := r) (z := bc1) (own_ne_ge (x := r) (y := bc0) g67 hbc0) g70 hbc1) g74 hbc2)) (own_nin2 (own_ne_ge (x := tr) (y := a7) g65 (own_ge_eq qa7)) (own_ne_or (x := tr) (z := bc2) (own_ne_or (x := tr) (z := bc1) (own_ne_ge (x := tr) (y := bc0) g68 hbc0) g71 hbc1) g75 hbc2))
  have g76 := own_lt_le (x := r) g74 Kc2.1
  have g77 := own_lt_le (x := r) g76 E44.1
  have g78 := own_lt_le (x := tr) g75 Kc2.1
  have g79 := own_lt_le (x := tr) g78 E44.1
  refine oGo.invokevirtual (pc' := 70) (k' := 10) (n' := 216) (a := a7) (argsL := [.ref r]) (rest := []) d9_67 rfl (w77 hG) (w78 hG) (w80 hG) (w80 hG) rfl (w79 hG) (w60 hG) (w81 hG) (by decide) pd24 rfl rfl rfl SBc3.1 (c_append hG a7 bc3 r tr [p0, p1, 32, 40, 110, 111, 32, 118, 97, 108, 117, 101, 41, 58, 32] [r0, r1] 16 (Nat.le_of_ble_eq_true rfl) (by decide) (Nat.lt_of_sub_pos (by simp)) ⟨(own_ne_ge (x := r) (y := a7) g64 (own_ge_eq qa7)), (own_ne_or (x := r) (z := bc3) (own_ne_or (x := r) (z := bc2) (own_ne_or (x := r) (z := bc1) (own_ne_ge (x := r) (y := bc0) g67 hbc0) g70 hbc1) g74 hbc2) g77 hbc3), (own_ne_ge (x := tr) (y := a7) g65 (own_ge_eq qa7)), (own_ne_or (x := tr) (z := bc3) (own_ne_or (x := tr) (z := bc2) (own_ne_or (x := tr) (z := bc1) (own_ne_ge (x := tr) (y := bc0) g68 hbc0) g71 hbc1) g75 hbc2) g79 hbc3)⟩ _ SBc3 f73) (by simp) (by decide) (Nat.le_of_ble_eq_true rfl) rfl rfl (by decide) (by decide) ?_
  intro v80 h81 sh81 q82
  obtain ⟨rfl, Kc4, bc4, hbc4, SBc4'⟩ := q82
  have SBc4 : oSB Z h81 a7 bc4 [p0, p1, 32, 40, 110, 111, 32, 118, 97, 108, 117, 101, 41, 58, 32, r0, r1] 34 := SBc4'
  have lbc4 : bc4 < h81.size := by obtain ⟨_, _, _, _, _, B, _⟩ := SBc4; exact own_ltN B.lt
  refine ⟨[bc4, bc3, bc2, bc1, bc0, a7], own_D1 (SBc4.2.1), ?_⟩
  show oGo l Z a0 EL True pP eE sS mM _ bB tT cC _ _ _ _ _ _ _ _ [bc4, bc3, bc2, bc1, bc0, a7] h81 10 216 70 #[.val (.ref bp), .val (.ref a2)] [.ref a7]
  refine oGo.invokevirtual (pc' := 73) (k' := 12) (n' := 240) (a := a7) (argsL := []) (rest := []) d9_70 rfl (w125 hG) (w126 hG) (w128 hG) (w128 hG) rfl (w127 hG) (w60 hG) (w129 hG) (by decide) pd25 rfl rfl rfl SBc4.1 (c_toStr hG a7 bc4 [p0, p1, 32, 40, 110, 111, 32, 118, 97, 108, 117, 101, 41, 58, 32, r0, r1] 34 (by simp) (by simp) (by intro c hc; simp only [List.mem_cons, List.not_mem_nil, or_false] at hc; rcases hc with rfl | rfl | rfl | rfl | rfl | rfl | rfl | rfl | rfl | rfl | rfl | rfl | rfl | rfl | rfl | rfl | rfl <;> first | decide | assumption) _ SBc4) (by simp) (by decide) (Nat.le_of_ble_eq_true rfl) rfl rfl (by decide) (by decide) ?_
  intro v83 h84 sh84 q85
  obtain ⟨Kz, xz, tz, rfl, gxz, gtz, Sz⟩ := q85
  have lxz := own_ltN Sz.1.lt
  have ltz := own_ltN Sz.2.2.2.1.lt
  refine ⟨_, fun _ hx => Or.inl hx, ?_⟩
  show oGo l Z a0 EL True pP eE sS mM _ bB tT cC _ _ _ _ _ _ _ _ [bc4, bc3, bc2, bc1, bc0, a7] h84 12 240 73 #[.val (.ref bp), .val (.ref a2)] [.ref xz]
  have z86 := own_le_le (x := h.size) (Nat.le_refl _) E4.1
  have z87 := own_le_le (x := h.size) z86 E8.1
  have z88 := own_le_le (x := h.size) z87 Kc0.1
  have z89 := own_le_le (x := h.size) z88 Kc1.1
  have z90 := own_le_le (x := h.size) z89 Kc2.1
  have z91 := own_le_le (x := h.size) z90 E44.1
  have K92 : Keep h h84 [] := ((((((((((Keep.refl h []).ext E4).ext E8).trans Kc0 (own_new1 (own_le_le (x := h.size) z86 (own_ge_eq qa7)))).trans Kc1 (own_new2 (own_le_le (x := h.size) z86 (own_ge_eq qa7)) (own_le_le (x := h.size) z87 hbc0))).trans Kc2 (own_new2 (own_le_le (x := h.size) z86 (own_ge_eq qa7)) (own_ge_or (own_le_le (x := h.size) z87 hbc0) z88 hbc1))).ext E44).trans Kc3 (own_new2 (own_le_le (x := h.size) z86 (own_ge_eq qa7)) (own_ge_or (own_ge_or (own_le_le (x := h.size) z87 hbc0) z88 hbc1) z89 hbc2))).trans Kc4 (own_new2 (own_le_le (x := h.size) z86 (own_ge_eq qa7)) (own_ge_or (own_ge_or (own_ge_or (own_le_le (x := h.size) z87 hbc0) z88 hbc1) z89 hbc2) z91 hbc3))).trans Kz (by simp))
  have z93 := own_le_le (x := h.size) z91 Kc3.1
  have z94 := own_le_le (x := h.size) z93 Kc4.1
  exact oGo.areturn d9_73 rfl rfl rfl rfl (by decide) (by decide) ⟨K92, xz, tz, rfl, (own_le_le (x := h.size) z94 gxz), (own_le_le (x := h.size) z94 gtz), Sz⟩ (fun _ q => q.elim)
set_option maxRecDepth 65536 in
set_option maxHeartbeats 4000000 in
theorem c_ts0 {l : Launch} {Z : State} {a0 : Array Value} {EL : List (String × Nat)} (hG : oG a0 Z EL) (bp p tp r tr v tv : Nat) (p0 p1 r0 r1 : Int32) (bp0 : ¬ p0 < 0 ∧ ¬ 255 < p0) (bp1 : ¬ p1 < 0 ∧ ¬ 255 < p1) (br0 : ¬ r0 < 0 ∧ ¬ 255 < r0) (br1 : ¬ r1 < 0 ∧ ¬ 255 < r1) (h : Heap) (F1 : Fld Z h bp "com/example/orderly_settings/orderlysettings/BindingProblem" "property" "Ljava/lang/String;" (.ref p)) (F2 : Fld Z h bp "com/example/orderly_settings/orderlysettings/BindingProblem" "value" "Ljava/lang/String;" (.ref v)) (F3 : Fld Z h bp "com/example/orderly_settings/orderlysettings/BindingProblem" "reason" "Ljava/lang/String;" (.ref r)) (Sp : oS Z h p tp [p0, p1]) (Sr : oS Z h r tr [r0, r1]) (Sv : oS Z h v tv []) :
    oCtr [] l Z a0 EL True (⟨"com/example/orderly_settings/orderlysettings/BindingProblem", "toString", "()Ljava/lang/String;"⟩ : MethodName) prog_1_method_5_code 2 (some (.object "java/lang/String")) ({ frames := 6, cells := 24, slots := 1000, locals := 91 } : Room) #[.ref bp] [] h ((q_toStr Z h [p0, p1, 32, 61, 32, 39, 39, 58, 32, r0, r1])) oNo := by
  have lbp := own_ltN F1.lt
  have lp := own_ltN Sp.1.lt
  have ltp := own_ltN Sp.2.2.2.1.lt
  have lr := own_ltN Sr.1.lt
  have ltr := own_ltN Sr.2.2.2.1.lt
  have lv := own_ltN Sv.1.lt
  have ltv := own_ltN Sv.2.2.2.1.lt
  refine oCtr.enter (Ls := #[.val (.ref bp), .unset]) (plainFor_of_name pn8) hG.2.1 (fun m => by first | (simp [entryFrame, mkF, argsToLocals, Value.category]; done) | rfl) ?_
  intro pP eE sS mM bB tT cC
  refine oGo.aload_n (pc' := 1) d9_0 rfl rfl rfl ?_
  refine oGo.getfield (pc' := 4) d9_1 rfl (w48 hG) Via.refl F2 ?_
  refine oGo.ifnonnull_y (pc2 := 12) d9_4 (by decide) ?_
  refine oGo.new (pc' := 15) (k' := 1) (n' := 4) d9_12 rfl (w58 hG) (w59 hG) (w60 hG) rfl rfl (by decide) (by decide) ?_
  intro h1 a2 qa2 la2 E3 X4 F5
  have f6 := F5 (Or.inl (w73 hG)) (ty := (.array .byte)) (by decide)
  have f7 := F5 (Or.inl (w75 hG)) (ty := .byte) (by decide)
  have f8 := F5 (Or.inl (w98 hG)) (ty := .int) (by decide)
  refine oGo.dup (pc' := 16) d9_15 rfl rfl ?_
  refine oGo.invokespecial (pc' := 19) (k' := 2) (n' := 20) (a := a2) (argsL := []) (rest := [.ref a2]) d9_16 rfl rfl (w61 hG) (w62 hG) (w60 hG) (w63 hG) (by decide) pd23 rfl rfl rfl (c_sbInit hG a2 _ _ X4 f6 f7 f8) (by simp) (by decide) (Nat.le_of_ble_eq_true rfl) rfl rfl (by decide) (by decide) ?_
  intro v9 h10 sh10 q11
  obtain ⟨rfl, Ka0, ba0, hba0, SBa0⟩ := q11
  have lba0 : ba0 < h10.size := by obtain ⟨_, _, _, _, _, B, _⟩ := SBa0; exact own_ltN B.lt
  refine ⟨[ba0, a2], own_D1 (SBa0.2.1), ?_⟩
  show oGo l Z a0 EL True pP eE sS mM _ bB tT cC _ _ _ _ _ _ _ _ [ba0, a2] h10 2 20 19 #[.val (.ref bp), .unset] [.ref a2]
  refine oGo.ldc_str (pc' := 21) (k' := 4) (n' := 40) (vs := oI (([32, 61, 32, 39] : List Int32).map lo8)) d9_19 rfl trivial (w76 hG) (strAt hG) (hG.2.2.2 _ (by decide)) (by decide) (by decide) rfl rfl (by decide) (by decide) ?_
  intro h12 a13 b14 E15 Xa13 Ca13 Va13 Ba13 la13 lb14 na13
  have S16 : oS Z h12 a13 b14 [32, 61, 32, 39] := ⟨Xa13, Va13, Ca13, Ba13, by decide⟩
  have f17 := SBa0.ext E15
  have f21 := Exa.ext E15 SBa0.1
  refine oGo.invokevirtual (pc' := 24) (k' := 5) (n' := 74) (a := a2) (argsL := [.ref a13]) (rest := []) d9_21 rfl (w77 hG) (w78 hG) (w80 hG) (w80 hG) rfl (w79 hG) (w60 hG) (w81 hG) (by decide) pd24 rfl rfl rfl f21 (c_append hG a2 ba0 a13 b14 [] [32, 61, 32, 39] 16 (Nat.le_of_ble_eq_true rfl) (by decide) (Nat.lt_of_sub_pos (by simp)) ⟨(Ne.symm (na13 a2 (by simp)).1), (Ne.symm (na13 ba0 (by simp)).1), (Ne.symm (na13 a2 (by simp)).2), (Ne.symm (na13 ba0 (by simp)).2)⟩ _ f17 S16) (by simp) (by decide) (Nat.le_of_ble_eq_true rfl) rfl rfl (by decide) (by decide) ?_
  intro v18 h19 sh19 q20
  obtain ⟨rfl, Ka1, ba1, hba1, SBa1'⟩ := q20
  have SBa1 : oSB Z h19 a2 ba1 [32, 61, 32, 39] 16 := SBa1'
  have lba1 : ba1 < h19.size := by obtain ⟨_, _, _, _, _, B, _⟩ := SBa1; exact own_ltN B.lt
  refine ⟨[ba1, ba0, a2], own_D1 (SBa1.2.1), ?_⟩
  show oGo l Z a0 EL True pP eE sS mM _ bB tT cC _ _ _ _ _ _ _ _ [ba1, ba0, a2] h19 5 74 24 #[.val (.ref bp), .unset] [.ref a2]
  refine oGo.aload_n (pc' := 25) d9_24 rfl rfl rfl ?_
  have f22 := Fld.ext E3 F2
  have f23 := Fld.keep f22 Ka0 (own_nin1 (own_ne_ge (x := bp) (y := a2) lbp (own_ge_eq qa2)))
  have f24 := Fld.ext E15 f23
  have g26 := own_lt_le (x := bp) lbp E3.1
  have f25 := Fld.keep f24 Ka1 (own_nin2 (own_ne_ge (x := bp) (y := a2) lbp (own_ge_eq qa2)) (own_ne_ge (x := bp) (y := ba0) g26 hba0))
  refine oGo.getfield (pc' := 28) d9_25 rfl (w48 hG) Via.refl f25 ?_
  have f27 := Sv.ext E3
  have f28 := f27.keep Ka0 (own_nin1 (own_ne_ge (x := v) (y := a2) lv (own_ge_eq qa2))) (own_nin1 (own_ne_ge (x := tv) (y := a2) ltv (own_ge_eq qa2)))
  have f29 := f28.ext E15
  have g31 := own_lt_le (x := v) lv E3.1
  have g32 := own_lt_le (x := tv) ltv E3.1
  have f30 := f29.keep Ka1 (own_nin2 (own_ne_ge (x := v) (y := a2) lv (own_ge_eq qa2)) (own_ne_ge (x := v) (y := ba0) g31 hba0)) (own_nin2 (own_ne_ge (x := tv) (y := a2) ltv (own_ge_eq qa2)) (own_ne_ge (x := tv) (y := ba0) g32 hba0))
  have g33 := own_lt_le (x := v) g31 Ka0.1
  have g34 := own_lt_le (x := v) g33 E15.1
  have g35 := own_lt_le (x := tv) g32 Ka0.1
  have g36 := own_lt_le (x := tv) g35 E15.1
  refine oGo.invokevirtual (pc' := 31) (k' := 6) (n' := 108) (a := a2) (argsL := [.ref v]) (rest := []) d9_28 rfl (w77 hG) (w78 hG) (w80 hG) (w80 hG) rfl (w79 hG) (w60 hG) (w81 hG) (by decide) pd24 rfl rfl rfl SBa1.1 (c_append hG a2 ba1 v tv [32, 61, 32, 39] [] 16 (Nat.le_of_ble_eq_true rfl) (by decide) (Nat.lt_of_sub_pos (by simp)) ⟨(own_ne_ge (x := v) (y := a2) lv (own_ge_eq qa2)), (own_ne_or (x := v) (z := ba1) (own_ne_ge (x := v) (y := ba0) g31 hba0) g34 hba1), (own_ne_ge (x := tv) (y := a2) ltv (own_ge_eq qa2)), (own_ne_or (x := tv) (z := ba1) (own_ne_ge (x := tv) (y := ba0) g32 hba0) g36 hba1)⟩ _ SBa1 f30) (by simp) (by decide) (Nat.le_of_ble_eq_true rfl) rfl rfl (by decide) (by decide) ?_
  intro v37 h38 sh38 q39
  obtain ⟨rfl, Ka2, ba2, hba2, SBa2'⟩ := q39
  have SBa2 : oSB Z h38 a2 ba2 [32, 61, 32, 39] 16 := SBa2'
  have lba2 : ba2 < h38.size := by obtain ⟨_, _, _, _, _, B, _⟩ := SBa2; exact own_ltN B.lt
  refine ⟨[ba2, ba1, ba0, a2], own_D1 (SBa2.2.1), ?_⟩
  show oGo l Z a0 EL True pP eE sS mM _ bB tT cC _ _ _ _ _ _ _ _ [ba2, ba1, ba0, a2] h38 6 108 31 #[.val (.ref bp), .unset] [.ref a2]
  refine oGo.ldc_str (pc' := 33) (k' := 8) (n' := 116) (vs := oI (([39] : List Int32).map lo8)) d9_31 rfl trivial (w124 hG) (strAt hG) (hG.2.2.2 _ (by decide)) (by decide) (by decide) rfl rfl (by decide) (by decide) ?_
  intro h40 a41 b42 E43 Xa41 Ca41 Va41 Ba41 la41 lb42 na41
  have S44 : oS Z h40 a41 b42 [39] := ⟨Xa41, Va41, Ca41, Ba41, by decide⟩
  have f45 := SBa2.ext E43
  have f49 := Exa.ext E43 SBa2.1
  refine oGo.invokevirtual (pc' := 36) (k' := 9) (n' := 150) (a := a2) (argsL := [.ref a41]) (rest := []) d9_33 rfl (w77 hG) (w78 hG) (w80 hG) (w80 hG) rfl (w79 hG) (w60 hG) (w81 hG) (by decide) pd24 rfl rfl rfl f49 (c_append hG a2 ba2 a41 b42 [32, 61, 32, 39] [39] 16 (Nat.le_of_ble_eq_true rfl) (by decide) (Nat.lt_of_sub_pos (by simp)) ⟨(Ne.symm (na41 a2 (by simp)).1), (Ne.symm (na41 ba2 (by simp)).1), (Ne.symm (na41 a2 (by simp)).2), (Ne.symm (na41 ba2 (by simp)).2)⟩ _ f45 S44) (by simp) (by decide) (Nat.le_of_ble_eq_true rfl) rfl rfl (by decide) (by decide) ?_
  intro v46 h47 sh47 q48
  obtain ⟨rfl, Ka3, ba3, hba3, SBa3'⟩ := q48
  have SBa3 : oSB Z h47 a2 ba3 [32, 61, 32, 39, 39] 16 := SBa3'
  have lba3 : ba3 < h47.size := by obtain ⟨_, _, _, _, _, B, _⟩ := SBa3; exact own_ltN B.lt
  refine ⟨[ba3, ba2, ba1, ba0, a2], own_D1 (SBa3.2.1), ?_⟩
  show oGo l Z a0 EL True pP eE sS mM _ bB tT cC _ _ _ _ _ _ _ _ [ba3, ba2, ba1, ba0, a2] h47 9 150 36 #[.val (.ref bp), .unset] [.ref a2]
  refine oGo.invokevirtual (pc' := 39) (k' := 11) (n' := 174) (a := a2) (argsL := []) (rest := []) d9_36 rfl (w125 hG) (w126 hG) (w128 hG) (w128 hG) rfl (w127 hG) (w60 hG) (w129 hG) (by decide) pd25 rfl rfl rfl SBa3.1 (c_toStr hG a2 ba3 [32, 61, 32, 39, 39] 16 (by simp) (by simp) (by intro c hc; simp only [List.mem_cons, List.not_mem_nil, or_false] at hc; rcases hc with rfl | rfl | rfl | rfl | rfl <;> first | decide | assumption) _ SBa3) (by simp) (by decide) (Nat.le_of_ble_eq_true rfl) rfl rfl (by decide) (by decide) ?_
  intro v50 h51 sh51 q52
  obtain ⟨Kst, xst, tst, rfl, gxst, gtst, Sst⟩ := q52
  have lxst := own_ltN Sst.1.lt
  have ltst := own_ltN Sst.2.2.2.1.lt
  refine ⟨_, fun _ hx => Or.inl hx, ?_⟩
  show oGo l Z a0 EL True pP eE sS mM _ bB tT cC _ _ _ _ _ _ _ _ [ba3, ba2, ba1, ba0, a2] h51 11 174 39 #[.val (.ref bp), .unset] [.ref xst]
  refine oGo.astore_n (pc' := 40) (Ls' := #[.val (.ref bp), .val (.ref xst)]) d9_39 rfl rfl rfl ?_
  refine oGo.new (pc' := 43) (k' := 12) (n' := 178) d9_40 rfl (w58 hG) (w59 hG) (w60 hG) rfl rfl (by decide) (by decide) ?_
  intro h53 a54 qa54 la54 E55 X56 F57
  have f58 := F57 (Or.inl (w73 hG)) (ty := (.array .byte)) (by decide)
  have f59 := F57 (Or.inl (w75 hG)) (ty := .byte) (by decide)
  have f60 := F57 (Or.inl (w98 hG)) (ty := .int) (by decide)
  refine oGo.dup (pc' := 44) d9_43 rfl rfl ?_
  refine oGo.invokespecial (pc' := 47) (k' := 13) (n' := 194) (a := a54) (argsL := []) (rest := [.ref a54]) d9_44 rfl rfl (w61 hG) (w62 hG) (w60 hG) (w63 hG) (by decide) pd23 rfl rfl rfl (c_sbInit hG a54 _ _ X56 f58 f59 f60) (by simp) (by decide) (Nat.le_of_ble_eq_true rfl) rfl rfl (by decide) (by decide) ?_
  intro v61 h62 sh62 q63
  obtain ⟨rfl, Kc0, bc0, hbc0, SBc0⟩ := q63
  have lbc0 : bc0 < h62.size := by obtain ⟨_, _, _, _, _, B, _⟩ := SBc0; exact own_ltN B.lt
  refine ⟨[bc0, a54, ba3, ba2, ba1, ba0, a2], own_D1 (SBc0.2.1), ?_⟩
  show oGo l Z a0 EL True pP eE sS mM _ bB tT cC _ _ _ _ _ _ _ _ [bc0, a54, ba3, ba2, ba1, ba0, a2] h62 13 194 47 #[.val (.ref bp), .val (.ref xst)] [.ref a54]
  refine oGo.aload_n (pc' := 48) d9_47 rfl rfl rfl ?_
  have f64 := Fld.ext E3 F1
  have f65 := Fld.keep f64 Ka0 (own_nin1 (own_ne_ge (x := bp) (y := a2) lbp (own_ge_eq qa2)))
  have f66 := Fld.ext E15 f65
  have f67 := Fld.keep f66 Ka1 (own_nin2 (own_ne_ge (x := bp) (y := a2) lbp (own_ge_eq qa2)) (own_ne_ge (x := bp) (y := ba0) g26 hba0))
  have g69 := own_lt_le (x := bp) g26 Ka0.1
  have g70 := own_lt_le (x := bp) g69 E15.1
  have f68 := Fld.keep f67 Ka2 (own_nin2 (own_ne_ge (x := bp) (y := a2) lbp (own_ge_eq qa2)) (own_ne_or (x := bp) (z := ba1) (own_ne_ge (x := bp) (y := ba0) g26 hba0) g70 hba1))
  have f71 := Fld.ext E43 f68
  have g73 := own_lt_le (x := bp) g70 Ka1.1
  have f72 := Fld.keep f71 Ka3 (own_nin2 (own_ne_ge (x := bp) (y := a2) lbp (own_ge_eq qa2)) (own_ne_or (x := bp) (z := ba2) (own_ne_or (x := bp) (z := ba1) (own_ne_ge (x := bp) (y := ba0) g26 hba0) g70 hba1) g73 hba2))
  have f74 := Fld.keep f72 Kst nin0
  have f75 := Fld.ext E55 f74
  have g77 := own_lt_le (x := bp) g73 Ka2.1
  have g78 := own_lt_le (x := bp) g77 E43.1
  have g79 := own_lt_le (x := bp) g78 Ka3.1
  have g80 := own_lt_le (x := bp) g79 Kst.1
  have f76 := Fld.keep f75 Kc0 (own_nin1 (own_ne_ge (x := bp) (y := a54) g80 (own_ge_eq qa54)))
  refine oGo.getfield (pc' := 51) d9_48 rfl (w46 hG) Via.refl f76 ?_
  have f81 := Sp.ext E3
  have f82 := f81.keep Ka0 (own_nin1 (own_ne_ge (x := p) (y := a2) lp (own_ge_eq qa2))) (own_nin1 (own_ne_ge (x := tp) (y := a2) ltp (own_ge_eq qa2)))
  have f83 := f82.ext E15
  have g85 := own_lt_le (x := p) lp E3.1
  have g86 := own_lt_le (x := tp) ltp E3.1
  have f84 := f83.keep Ka1 (own_nin2 (own_ne_ge (x := p) (y := a2) lp (own_ge_eq qa2)) (own_ne_ge (x := p) (y := ba0) g85 hba0)) (own_nin2 (own_ne_ge (x := tp) (y := a2) ltp (own_ge_eq qa2)) (own_ne_ge (x := tp) (y := ba0) g86 hba0))
  have g88 := own_lt_le (x := p) g85 Ka0.1
  have g89 := own_lt_le (x := p) g88 E15.1
  have g90 := own_lt_le (x := tp) g86 Ka0.1
  have g91 := own_lt_le (x := tp) g90 E15.1
  have f87 := f84.keep Ka2 (own_nin2 (own_ne_ge (x := p) (y := a2) lp (own_ge_eq qa2)) (own_ne_or (x := p) (z := ba1) (own_ne_ge (x := p) (y := ba0) g85 hba0) g89 hba1)) (own_nin2 (own_ne_ge (x := tp) (y := a2) ltp (own_ge_eq qa2)) (own_ne_or (x := tp) (z := ba1) (own_ne_ge (x := tp) (y := ba0) g86 hba0) g91 hba1))
  have f92 := f87.ext E43
  have g94 := own_lt_le (x := p) g89 Ka1.1
  have g95 := own_lt_le (x := tp) g91 Ka1.1
  have f93 := f92.keep Ka3 (own_nin2 (own_ne_ge (x := p) (y := a2) lp (own_ge_eq qa2)) (own_ne_or (x := p) (z := ba2) (own_ne_or (x := p) (z := ba1) (own_ne_ge (x := p) (y := ba0) g85 hba0) g89 hba1) g94 hba2)) (own_nin2 (own_ne_ge (x := tp) (y := a2) ltp (own_ge_eq qa2)) (own_ne_or (x := tp) (z := ba2) (own_ne_or (x := tp) (z := ba1) (own_ne_ge (x := tp) (y := ba0) g86 hba0) g91 hba1) g95 hba2))
  have f96 := f93.keep Kst nin0 nin0
  have f97 := f96.ext E55
  have g99 := own_lt_le (x := p) g94 Ka2.1
  have g100 := own_lt_le (x := p) g99 E43.1
  have g101 := own_lt_le (x := p) g100 Ka3.1
  have g102 := own_lt_le (x := p) g101 Kst.1
  have g103 := own_lt_le (x := tp) g95 Ka2.1
  have g104 := own_lt_le (x := tp) g103 E43.1
  have g105 := own_lt_le (x := tp) g104 Ka3.1
  have g106 := own_lt_le (x := tp) g105 Kst.1
  have f98 := f97.keep Kc0 (own_nin1 (own_ne_ge (x := p) (y := a54) g102 (own_ge_eq qa54))) (own_nin1 (own_ne_ge (x := tp) (y := a54) g106 (own_ge_eq qa54)))
  have g107 := own_lt_le (x := p) g102 E55.1
  have g108 := own_lt_le (x := tp) g106 E55.1
  refine oGo.invokevirtual (pc' := 54) (k' := 14) (n' := 228) (a := a54) (argsL := [.ref p]) (rest := []) d9_51 rfl (w77 hG) (w78 hG) (w80 hG) (w80 hG) rfl (w79 hG) (w60 hG) (w81 hG) (by decide) pd24 rfl rfl rfl SBc0.1 (c_append hG a54 bc0 p tp [] [p0, p1] 16 (Nat.le_of_ble_eq_true rfl) (by decide) (Nat.lt_of_sub_pos (by simp)) ⟨(own_ne_ge (x := p) (y := a54) g102 (own_ge_eq qa54)), (own_ne_ge (x := p) (y := bc0) g107 hbc0), (own_ne_ge (x := tp) (y := a54) g106 (own_ge_eq qa54)), (own_ne_ge (x := tp) (y := bc0) g108 hbc0)⟩ _ SBc0 f98) (by simp) (by decide) (Nat.le_of_ble_eq_true rfl) rfl rfl (by decide) (by decide) ?_
  intro v109 h110 sh110 q111
  obtain ⟨rfl, Kc1, bc1, hbc1, SBc1'⟩ := q111
  have SBc1 : oSB Z h110 a54 bc1 [p0, p1] 16 := SBc1'
  have lbc1 : bc1 < h110.size := by obtain ⟨_, _, _, _, _, B, _⟩ := SBc1; exact own_ltN B.lt
  refine ⟨[bc1, bc0, a54, ba3, ba2, ba1, ba0, a2], own_D1 (SBc1.2.1), ?_⟩
  show oGo l Z a0 EL True pP eE sS mM _ bB tT cC _ _ _ _ _ _ _ _ [bc1, bc0, a54, ba3, ba2, ba1, ba0, a2] h110 14 228 54 #[.val (.ref bp), .val (.ref xst)] [.ref a54]
  refine oGo.aload_n (pc' := 55) d9_54 rfl rfl rfl ?_
  have f112 := Sst.ext E55
  have f113 := f112.keep Kc0 (own_nin1 (own_ne_ge (x := xst) (y := a54) lxst (own_ge_eq qa54))) (own_nin1 (own_ne_ge (x := tst) (y := a54) ltst (own_ge_eq qa54)))
  have g115 := own_lt_le (x := xst) lxst E55.1
  have g116 := own_lt_le (x := tst) ltst E55.1
  have f114 := f113.keep Kc1 (own_nin2 (own_ne_ge (x := xst) (y := a54) lxst (own_ge_eq qa54)) (own_ne_ge (x := xst) (y := bc0) g115 hbc0)) (own_nin2 (own_ne_ge (x := tst) (y := a54) ltst (own_ge_eq qa54)) (own_ne_ge (x := tst) (y := bc0) g116 hbc0))
  have g117 := own_lt_le (x := xst) g115 Kc0.1
  have g118 := own_lt_le (x := tst) g116 Kc0.1
  refine oGo.invokevirtual (pc' := 58) (k' := 15) (n' := 262) (a := a54) (argsL := [.ref xst]) (rest := []) d9_55 rfl (w77 hG) (w78 hG) (w80 hG) (w80 hG) rfl (w79 hG) (w60 hG) (w81 hG) (by decide) pd24 rfl rfl rfl SBc1.1 (c_append hG a54 bc1 xst tst [p0, p1] [32, 61, 32, 39, 39] 16 (Nat.le_of_ble_eq_true rfl) (by decide) (Nat.lt_of_sub_pos (by simp)) ⟨(own_ne_ge (x := xst) (y := a54) lxst (own_ge_eq qa54)), (own_ne_or (x := xst) (z := bc1) (own_ne_ge (x := xst) (y := bc0) g115 hbc0) g117 hbc1), (own_ne_ge (x := tst) (y := a54) ltst (own_ge_eq qa54)), (own_ne_or (x := tst) (z := bc1) (own_ne_ge (x := tst) (y := bc0) g116 hbc0) g118 hbc1)⟩ _ SBc1 f114) (by simp) (by decide) (Nat.le_of_ble_eq_true rfl) rfl rfl (by decide) (by decide) ?_
  intro v119 h120 sh120 q121
  obtain ⟨rfl, Kc2, bc2, hbc2, SBc2'⟩ := q121
  have SBc2 : oSB Z h120 a54 bc2 [p0, p1, 32, 61, 32, 39, 39] 16 := SBc2'
  have lbc2 : bc2 < h120.size := by obtain ⟨_, _, _, _, _, B, _⟩ := SBc2; exact own_ltN B.lt
  refine ⟨[bc2, bc1, bc0, a54, ba3, ba2, ba1, ba0, a2], own_D1 (SBc2.2.1), ?_⟩
  show oGo l Z a0 EL True pP eE sS mM _ bB tT cC _ _ _ _ _ _ _ _ [bc2, bc1, bc0, a54, ba3, ba2, ba1, ba0, a2] h120 15 262 58 #[.val (.ref bp), .val (.ref xst)] [.ref a54]
  refine oGo.ldc_str (pc' := 60) (k' := 17) (n' := 274) (vs := oI (([58, 32] : List Int32).map lo8)) d9_58 rfl trivial (w170 hG) (strAt hG) (hG.2.2.2 _ (by decide)) (by decide) (by decide) rfl rfl (by decide) (by decide) ?_
  intro h122 a123 b124 E125 Xa123 Ca123 Va123 Ba123 la123 lb124 na123
  have S126 : oS Z h122 a123 b124 [58, 32] := ⟨Xa123, Va123, Ca123, Ba123, by decide⟩
  have f127 := SBc2.ext E125
  have f131 := Exa.ext E125 SBc2.1
  refine oGo.invokevirtual (pc' := 63) (k' := 18) (n' := 308) (a := a54) (argsL := [.ref a123]) (rest := []) d9_60 rfl (w77 hG) (w78 hG) (w80 hG) (w80 hG) rfl (w79 hG) (w60 hG) (w81 hG) (by decide) pd24 rfl rfl rfl f131 (c_append hG a54 bc2 a123 b124 [p0, p1, 32, 61, 32, 39, 39] [58, 32] 16 (Nat.le_of_ble_eq_true rfl) (by decide) (Nat.lt_of_sub_pos (by simp)) ⟨(Ne.symm (na123 a54 (by simp)).1), (Ne.symm (na123 bc2 (by simp)).1), (Ne.symm (na123 a54 (by simp)).2), (Ne.symm (na123 bc2 (by simp)).2)⟩ _ f127 S126) (by simp) (by decide) (Nat.le_of_ble_eq_true rfl) rfl rfl (by decide) (by decide) ?_
  intro v128 h129 sh129 q130
  obtain ⟨rfl, Kc3, bc3, hbc3, SBc3'⟩ := q130
  have SBc3 : oSB Z h129 a54 bc3 [p0, p1, 32, 61, 32, 39, 39, 58, 32] 16 := SBc3'
  have lbc3 : bc3 < h129.size := by obtain ⟨_, _, _, _, _, B, _⟩ := SBc3; exact own_ltN B.lt
  refine ⟨[bc3, bc2, bc1, bc0, a54, ba3, ba2, ba1, ba0, a2], own_D1 (SBc3.2.1), ?_⟩
  show oGo l Z a0 EL True pP eE sS mM _ bB tT cC _ _ _ _ _ _ _ _ [bc3, bc2, bc1, bc0, a54, ba3, ba2, ba1, ba0, a2] h129 18 308 63 #[.val (.ref bp), .val (.ref xst)] [.ref a54]
  refine oGo.aload_n (pc' := 64) d9_63 rfl rfl rfl ?_
  have f132 := Fld.ext E3 F3
  have f133 := Fld.keep f132 Ka0 (own_nin1 (own_ne_ge (x := bp) (y := a2) lbp (own_ge_eq qa2)))
  have f134 := Fld.ext E15 f133
  have f135 := Fld.keep f134 Ka1 (own_nin2 (own_ne_ge (x := bp) (y := a2) lbp (own_ge_eq qa2)) (own_ne_ge (x := bp) (y := ba0) g26 hba0))
  have f136 := Fld.keep f135 Ka2 (own_nin2 (own_ne_ge (x := bp) (y := a2) lbp (own_ge_eq qa2)) (own_ne_or (x := bp) (z := ba1) (own_ne_ge (x := bp) (y := ba0) g26 hba0) g70 hba1))
  have f137 := Fld.ext E43 f136
  have f138 := Fld.keep f137 Ka3 (own_nin2 (own_ne_ge (x := bp) (y := a2) lbp (own_ge_eq qa2)) (own_ne_or (x := bp) (z := ba2) (own_ne_or (x := bp) (z := ba1) (own_ne_ge (x := bp) (y := ba0) g26 hba0) g70 hba1) g73 hba2))
  have f139 := Fld.keep f138 Kst nin0
  have f140 := Fld.ext E55 f139
  have f141 := Fld.keep f140 Kc0 (own_nin1 (own_ne_ge (x := bp) (y := a54) g80 (own_ge_eq qa54)))
  have g143 := own_lt_le (x := bp) g80 E55.1
  have f142 := Fld.keep f141 Kc1 (own_nin2 (own_ne_ge (x := bp) (y := a54) g80 (own_ge_eq qa54)) (own_ne_ge (x := bp) (y := bc0) g143 hbc0))
  have g145 := own_lt_le (x := bp) g143 Kc0.1
  have f144 := Fld.keep f142 Kc2 (own_nin2 (own_ne_ge (x := bp) (y := a54) g80 (own_ge_eq qa54)) (own_ne_or (x := bp) (z := bc1) (own_ne_ge (x := bp) (y := bc0) g143 hbc0) g145 hbc1))
  have f146 := Fld.ext E125 f144
  have g148 := own_lt_le (x := bp) g145 Kc1.1
  have f147 := Fld.keep f146 Kc3 (own_nin2 (own_ne_ge (x := bp) (y := a54) g80 (own_ge_eq qa54)) (own_ne_or (x := bp) (z := bc2) (own_ne_or (x := bp) (z := bc1) (own_ne_ge (x := bp) (y := bc0) g143 hbc0) g145 hbc1) g148 hbc2))
  refine oGo.getfield (pc' := 67) d9_64 rfl (w51 hG) Via.refl f147 ?_
  have f149 := Sr.ext E3
  have f150 := f149.keep Ka0 (own_nin1 (own_ne_ge (x := r) (y := a2) lr (own_ge_eq qa2))) (own_nin1 (own_ne_ge (x := tr) (y := a2) ltr (own_ge_eq qa2)))
  have f151 := f150.ext E15
  have g153 := own_lt_le (x := r) lr E3.1
  have g154 := own_lt_le (x := tr) ltr E3.1
  have f152 := f151.keep Ka1 (own_nin2 (own_ne_ge (x := r) (y := a2) lr (own_ge_eq qa2)) (own_ne_ge (x := r) (y := ba0) g153 hba0)) (own_nin2 (own_ne_ge (x := tr) (y := a2) ltr (own_ge_eq qa2)) (own_ne_ge (x := tr) (y := ba0) g154 hba0))
  have g156 := own_lt_le (x := r) g153 Ka0.1
  have g157 := own_lt_le (x := r) g156 E15.1
  have g158 := own_lt_le (x := tr) g154 Ka0.1
  have g159 := own_lt_le (x := tr) g158 E15.1
  have f155 := f152.keep Ka2 (own_nin2 (own_ne_ge (x := r) (y := a2) lr (own_ge_eq qa2)) (own_ne_or (x := r) (z := ba1) (own_ne_ge (x := r) (y := ba0) g153 hba0) g157 hba1)) (own_nin2 (own_ne_ge (x := tr) (y := a2) ltr (own_ge_eq qa2)) (own_ne_or (x := tr) (z := ba1) (own_ne_ge (x := tr) (y := ba0) g154 hba0) g159 hba1))
  have f160 := f155.ext E43
  have g162 := own_lt_le (x := r) g157 Ka1.1
  have g163 := own_lt_le (x := tr) g159 Ka1.1
  have f161 := f160.keep Ka3 (own_nin2 (own_ne_ge (x := r) (y := a2) lr (own_ge_eq qa2)) (own_ne_or (x := r) (z := ba2) (own_ne_or (x := r) (z := ba1) (own_ne_ge (x := r) (y := ba0) g153 hba0) g157 hba1) g162 hba2)) (own_nin2 (own_ne_ge (x := tr) (y := a2) ltr (own_ge_eq qa2)) (own_ne_or (x := tr) (z := ba2) (own_ne_or (x := tr) (z := ba1) (own_ne_ge (x := tr) (y := ba0) g154 hba0) g159 hba1) g163 hba2))
  have f164 := f161.keep Kst nin0 nin0
  have f165 := f164.ext E55
  have g167 := own_lt_le (x := r) g162 Ka2.1
  have g168 := own_lt_le (x := r) g167 E43.1
  have g169 := own_lt_le (x := r) g168 Ka3.1
  have g170 := own_lt_le (x := r) g169 Kst.1
  have g171 := own_lt_le (x := tr) g163 Ka2.1
  have g172 := own_lt_le (x := tr) g171 E43.1
  have g173 := own_lt_le (x := tr) g172 Ka3.1
  have g174 := own_lt_le (x := tr) g173 Kst.1
  have f166 := f165.keep Kc0 (own_nin1 (own_ne_ge (x := r) (y := a54) g170 (own_ge_eq qa54))) (own_nin1 (own_ne_ge (x := tr) (y := a54) g174 (own_ge_eq qa54)))
  have g176 := own_lt_le (x := r) g170 E55.1
  have g177 := own_lt_le (x := tr) g174 E55.1
  have f175 := f166.keep Kc1 (own_nin2 (own_ne_ge (x := r) (y := a54) g170 (own_ge_eq qa54)) (own_ne_ge (x := r) (y := bc0) g176 hbc0)) (own_nin2 (own_ne_ge (x := tr) (y := a54) g174 (own_ge_eq qa54)) (own_ne_ge (x := tr) (y := bc0) g177 hbc0))
  have g179 := own_lt_le (x := r) g176 Kc0.1
  have g180 := own_lt_le (x := tr) g177 Kc0.1
  have f178 := f175.keep Kc2 (own_nin2 (own_ne_ge (x := r) (y := a54) g170 (own_ge_eq qa54)) (own_ne_or (x := r) (z := bc1) (own_ne_ge (x := r) (y := bc0) g176 hbc0) g179 hbc1)) (own_nin2 (own_ne_ge (x := tr) (y := a54) g174 (own_ge_eq qa54)) (own_ne_or (x := tr) (z := bc1) (own_ne_ge (x := tr) (y := bc0) g177 hbc0) g180 hbc1))
  have f181 := f178.ext E125
  have g183 := own_lt_le (x := r) g179 Kc1.1
  have g184 := own_lt_le (x := tr) g180 Kc1.1
  have f182 := f181.keep Kc3 (own_nin2 (own_ne_ge (x := r) (y := a54) g170 (own_ge_eq qa54)) (own_ne_or (x := r) (z := bc2) (own_ne_or (x := r) (z := bc1) (own_ne_ge (x := r) (y := bc0) g176 hbc0) g179 hbc1) g183 hbc2)) (own_nin2 (own_ne_ge (x := tr) (y := a54) g174 (own_ge_eq qa54)) (own_ne_or (x := tr) (z := bc2) (own_ne_or (x := tr) (z := bc1) (own_ne_ge (x := tr) (y := bc0) g177 hbc0) g180 hbc1) g184 hbc2))
  have g185 := own_lt_le (x := r) g183 Kc2.1
  have g186 := own_lt_le (x := r) g185 E125.1
  have g187 := own_lt_le (x := tr) g184 Kc2.1
  have g188 := own_lt_le (x := tr) g187 E125.1
  refine oGo.invokevirtual (pc' := 70) (k' := 19) (n' := 342) (a := a54) (argsL := [.ref r]) (rest := []) d9_67 rfl (w77 hG) (w78 hG) (w80 hG) (w80 hG) rfl (w79 hG) (w60 hG) (w81 hG) (by decide) pd24 rfl rfl rfl SBc3.1 (c_append hG a54 bc3 r tr [p0, p1, 32, 61, 32, 39, 39, 58, 32] [r0, r1] 16 (Nat.le_of_ble_eq_true rfl) (by decide) (Nat.lt_of_sub_pos (by simp)) ⟨(own_ne_ge (x := r) (y := a54) g170 (own_ge_eq qa54)), (own_ne_or (x := r) (z := bc3) (own_ne_or (x := r) (z := bc2) (own_ne_or (x := r) (z := bc1) (own_ne_ge (x := r) (y := bc0) g176 hbc0) g179 hbc1) g183 hbc2) g186 hbc3), (own_ne_ge (x := tr) (y := a54) g174 (own_ge_eq qa54)), (own_ne_or (x := tr) (z := bc3) (own_ne_or (x := tr) (z := bc2) (own_ne_or (x := tr) (z := bc1) (own_ne_ge (x := tr) (y := bc0) g177 hbc0) g180 hbc1) g184 hbc2) g188 hbc3)⟩ _ SBc3 f182) (by simp) (by decide) (Nat.le_of_ble_eq_true rfl) rfl rfl (by decide) (by decide) ?_
  intro v189 h190 sh190 q191
  obtain ⟨rfl, Kc4, bc4, hbc4, SBc4'⟩ := q191
  have SBc4 : oSB Z h190 a54 bc4 [p0, p1, 32, 61, 32, 39, 39, 58, 32, r0, r1] 16 := SBc4'
  have lbc4 : bc4 < h190.size := by obtain ⟨_, _, _, _, _, B, _⟩ := SBc4; exact own_ltN B.lt
  refine ⟨[bc4, bc3, bc2, bc1, bc0, a54, ba3, ba2, ba1, ba0, a2], own_D1 (SBc4.2.1), ?_⟩
  show oGo l Z a0 EL True pP eE sS mM _ bB tT cC _ _ _ _ _ _ _ _ [bc4, bc3, bc2, bc1, bc0, a54, ba3, ba2, ba1, ba0, a2] h190 19 342 70 #[.val (.ref bp), .val (.ref xst)] [.ref a54]
  refine oGo.invokevirtual (pc' := 73) (k' := 21) (n' := 366) (a := a54) (argsL := []) (rest := []) d9_70 rfl (w125 hG) (w126 hG) (w128 hG) (w128 hG) rfl (w127 hG) (w60 hG) (w129 hG) (by decide) pd25 rfl rfl rfl SBc4.1 (c_toStr hG a54 bc4 [p0, p1, 32, 61, 32, 39, 39, 58, 32, r0, r1] 16 (by simp) (by simp) (by intro c hc; simp only [List.mem_cons, List.not_mem_nil, or_false] at hc; rcases hc with rfl | rfl | rfl | rfl | rfl | rfl | rfl | rfl | rfl | rfl | rfl <;> first | decide | assumption) _ SBc4) (by simp) (by decide) (Nat.le_of_ble_eq_true rfl) rfl rfl (by decide) (by decide) ?_
  intro v192 h193 sh193 q194
  obtain ⟨Kz, xz, tz, rfl, gxz, gtz, Sz⟩ := q194
  have lxz := own_ltN Sz.1.lt
  have ltz := own_ltN Sz.2.2.2.1.lt
  refine ⟨_, fun _ hx => Or.inl hx, ?_⟩
  show oGo l Z a0 EL True pP eE sS mM _ bB tT cC _ _ _ _ _ _ _ _ [bc4, bc3, bc2, bc1, bc0, a54, ba3, ba2, ba1, ba0, a2] h193 21 366 73 #[.val (.ref bp), .val (.ref xst)] [.ref xz]
  have z195 := own_le_le (x := h.size) (Nat.le_refl _) E3.1
  have z196 := own_le_le (x := h.size) z195 Ka0.1
  have z197 := own_le_le (x := h.size) z196 E15.1
  have z198 := own_le_le (x := h.size) z197 Ka1.1
  have z199 := own_le_le (x := h.size) z198 Ka2.1
  have z200 := own_le_le (x := h.size) z199 E43.1
  have z201 := own_le_le (x := h.size) z200 Ka3.1
  have z202 := own_le_le (x := h.size) z201 Kst.1
  have z203 := own_le_le (x := h.size) z202 E55.1
  have z204 := own_le_le (x := h.size) z203 Kc0.1
  have z205 := own_le_le (x := h.size) z204 Kc1.1
  have z206 := own_le_le (x := h.size) z205 Kc2.1
  have z207 := own_le_le (x := h.size) z206 E125.1
  have K208 : Keep h h193 [] := (((((((((((((((((Keep.refl h []).ext E3).trans Ka0 (own_new1 (own_le_le (x := h.size) (Nat.le_refl _) (own_ge_eq qa2)))).ext E15).trans Ka1 (own_new2 (own_le_le (x := h.size) (Nat.le_refl _) (own_ge_eq qa2)) (own_le_le (x := h.size) z195 hba0))).trans Ka2 (own_new2 (own_le_le (x := h.size) (Nat.le_refl _) (own_ge_eq qa2)) (own_ge_or (own_le_le (x := h.size) z195 hba0) z197 hba1))).ext E43).trans Ka3 (own_new2 (own_le_le (x := h.size) (Nat.le_refl _) (own_ge_eq qa2)) (own_ge_or (own_ge_or (own_le_le (x := h.size) z195 hba0) z197 hba1) z198 hba2))).trans Kst (by simp)).ext E55).trans Kc0 (own_new1 (own_le_le (x := h.size) z202 (own_ge_eq qa54)))).trans Kc1 (own_new2 (own_le_le (x := h.size) z202 (own_ge_eq qa54)) (own_le_le (x := h.size) z203 hbc0))).trans Kc2 (own_new2 (own_le_le (x := h.size) z202 (own_ge_eq qa54)) (own_ge_or (own_le_le (x := h.size) z203 hbc0) z204 hbc1))).ext E125).trans Kc3 (own_new2 (own_le_le (x := h.size) z202 (own_ge_eq qa54)) (own_ge_or (own_ge_or (own_le_le (x := h.size) z203 hbc0) z204 hbc1) z205 hbc2))).trans Kc4 (own_new2 (own_le_le (x := h.size) z202 (own_ge_eq qa54)) (own_ge_or (own_ge_or (own_ge_or (own_le_le (x := h.size) z203 hbc0) z204 hbc1) z205 hbc2) z207 hbc3))).trans Kz (by simp))
  have z209 := own_le_le (x := h.size) z207 Kc3.1
  have z210 := own_le_le (x := h.size) z209 Kc4.1
  exact oGo.areturn d9_73 rfl rfl rfl rfl (by decide) (by decide) ⟨K208, xz, tz, rfl, (own_le_le (x := h.size) z210 gxz), (own_le_le (x := h.size) z210 gtz), Sz⟩ (fun _ q => q.elim)
set_option maxRecDepth 65536 in
set_option maxHeartbeats 4000000 in
theorem c_ts2 {l : Launch} {Z : State} {a0 : Array Value} {EL : List (String × Nat)} (hG : oG a0 Z EL) (bp p tp r tr v tv : Nat) (p0 p1 r0 r1 v0 v1 : Int32) (bp0 : ¬ p0 < 0 ∧ ¬ 255 < p0) (bp1 : ¬ p1 < 0 ∧ ¬ 255 < p1) (br0 : ¬ r0 < 0 ∧ ¬ 255 < r0) (br1 : ¬ r1 < 0 ∧ ¬ 255 < r1) (bv0 : ¬ v0 < 0 ∧ ¬ 255 < v0) (bv1 : ¬ v1 < 0 ∧ ¬ 255 < v1) (h : Heap) (F1 : Fld Z h bp "com/example/orderly_settings/orderlysettings/BindingProblem" "property" "Ljava/lang/String;" (.ref p)) (F2 : Fld Z h bp "com/example/orderly_settings/orderlysettings/BindingProblem" "value" "Ljava/lang/String;" (.ref v)) (F3 : Fld Z h bp "com/example/orderly_settings/orderlysettings/BindingProblem" "reason" "Ljava/lang/String;" (.ref r)) (Sp : oS Z h p tp [p0, p1]) (Sr : oS Z h r tr [r0, r1]) (Sv : oS Z h v tv [v0, v1]) :
    oCtr [] l Z a0 EL True (⟨"com/example/orderly_settings/orderlysettings/BindingProblem", "toString", "()Ljava/lang/String;"⟩ : MethodName) prog_1_method_5_code 2 (some (.object "java/lang/String")) ({ frames := 6, cells := 24, slots := 1000, locals := 91 } : Room) #[.ref bp] [] h ((q_toStr Z h [p0, p1, 32, 61, 32, 39, v0, v1, 39, 58, 32, r0, r1])) oNo := by
  have lbp := own_ltN F1.lt
  have lp := own_ltN Sp.1.lt
  have ltp := own_ltN Sp.2.2.2.1.lt
  have lr := own_ltN Sr.1.lt
  have ltr := own_ltN Sr.2.2.2.1.lt
  have lv := own_ltN Sv.1.lt
  have ltv := own_ltN Sv.2.2.2.1.lt
  refine oCtr.enter (Ls := #[.val (.ref bp), .unset]) (plainFor_of_name pn8) hG.2.1 (fun m => by first | (simp [entryFrame, mkF, argsToLocals, Value.category]; done) | rfl) ?_
  intro pP eE sS mM bB tT cC
  refine oGo.aload_n (pc' := 1) d9_0 rfl rfl rfl ?_
  refine oGo.getfield (pc' := 4) d9_1 rfl (w48 hG) Via.refl F2 ?_
  refine oGo.ifnonnull_y (pc2 := 12) d9_4 (by decide) ?_
  refine oGo.new (pc' := 15) (k' := 1) (n' := 4) d9_12 rfl (w58 hG) (w59 hG) (w60 hG) rfl rfl (by decide) (by decide) ?_
  intro h1 a2 qa2 la2 E3 X4 F5
  have f6 := F5 (Or.inl (w73 hG)) (ty := (.array .byte)) (by decide)
  have f7 := F5 (Or.inl (w75 hG)) (ty := .byte) (by decide)
  have f8 := F5 (Or.inl (w98 hG)) (ty := .int) (by decide)
  refine oGo.dup (pc' := 16) d9_15 rfl rfl ?_
  refine oGo.invokespecial (pc' := 19) (k' := 2) (n' := 20) (a := a2) (argsL := []) (rest := [.ref a2]) d9_16 rfl rfl (w61 hG) (w62 hG) (w60 hG) (w63 hG) (by decide) pd23 rfl rfl rfl (c_sbInit hG a2 _ _ X4 f6 f7 f8) (by simp) (by decide) (Nat.le_of_ble_eq_true rfl) rfl rfl (by decide) (by decide) ?_
  intro v9 h10 sh10 q11
  obtain ⟨rfl, Ka0, ba0, hba0, SBa0⟩ := q11
  have lba0 : ba0 < h10.size := by obtain ⟨_, _, _, _, _, B, _⟩ := SBa0; exact own_ltN B.lt
  refine ⟨[ba0, a2], own_D1 (SBa0.2.1), ?_⟩
  show oGo l Z a0 EL True pP eE sS mM _ bB tT cC _ _ _ _ _ _ _ _ [ba0, a2] h10 2 20 19 #[.val (.ref bp), .unset] [.ref a2]
  refine oGo.ldc_str (pc' := 21) (k' := 4) (n' := 40) (vs := oI (([32, 61, 32, 39] : List Int32).map lo8)) d9_19 rfl trivial (w76 hG) (strAt hG) (hG.2.2.2 _ (by decide)) (by decide) (by decide) rfl rfl (by decide) (by decide) ?_
  intro h12 a13 b14 E15 Xa13 Ca13 Va13 Ba13 la13 lb14 na13
  have S16 : oS Z h12 a13 b14 [32, 61, 32, 39] := ⟨Xa13, Va13, Ca13, Ba13, by decide⟩
  have f17 := SBa0.ext E15
  have f21 := Exa.ext E15 SBa0.1
  refine oGo.invokevirtual (pc' := 24) (k' := 5) (n' := 74) (a := a2) (argsL := [.ref a13]) (rest := []) d9_21 rfl (w77 hG) (w78 hG) (w80 hG) (w80 hG) rfl (w79 hG) (w60 hG) (w81 hG) (by decide) pd24 rfl rfl rfl f21 (c_append hG a2 ba0 a13 b14 [] [32, 61, 32, 39] 16 (Nat.le_of_ble_eq_true rfl) (by decide) (Nat.lt_of_sub_pos (by simp)) ⟨(Ne.symm (na13 a2 (by simp)).1), (Ne.symm (na13 ba0 (by simp)).1), (Ne.symm (na13 a2 (by simp)).2), (Ne.symm (na13 ba0 (by simp)).2)⟩ _ f17 S16) (by simp) (by decide) (Nat.le_of_ble_eq_true rfl) rfl rfl (by decide) (by decide) ?_
  intro v18 h19 sh19 q20
  obtain ⟨rfl, Ka1, ba1, hba1, SBa1'⟩ := q20
  have SBa1 : oSB Z h19 a2 ba1 [32, 61, 32, 39] 16 := SBa1'
  have lba1 : ba1 < h19.size := by obtain ⟨_, _, _, _, _, B, _⟩ := SBa1; exact own_ltN B.lt
  refine ⟨[ba1, ba0, a2], own_D1 (SBa1.2.1), ?_⟩
  show oGo l Z a0 EL True pP eE sS mM _ bB tT cC _ _ _ _ _ _ _ _ [ba1, ba0, a2] h19 5 74 24 #[.val (.ref bp), .unset] [.ref a2]
  refine oGo.aload_n (pc' := 25) d9_24 rfl rfl rfl ?_
  have f22 := Fld.ext E3 F2
  have f23 := Fld.keep f22 Ka0 (own_nin1 (own_ne_ge (x := bp) (y := a2) lbp (own_ge_eq qa2)))
  have f24 := Fld.ext E15 f23
  have g26 := own_lt_le (x := bp) lbp E3.1
  have f25 := Fld.keep f24 Ka1 (own_nin2 (own_ne_ge (x := bp) (y := a2) lbp (own_ge_eq qa2)) (own_ne_ge (x := bp) (y := ba0) g26 hba0))
  refine oGo.getfield (pc' := 28) d9_25 rfl (w48 hG) Via.refl f25 ?_
  have f27 := Sv.ext E3
  have f28 := f27.keep Ka0 (own_nin1 (own_ne_ge (x := v) (y := a2) lv (own_ge_eq qa2))) (own_nin1 (own_ne_ge (x := tv) (y := a2) ltv (own_ge_eq qa2)))
  have f29 := f28.ext E15
  have g31 := own_lt_le (x := v) lv E3.1
  have g32 := own_lt_le (x := tv) ltv E3.1
  have f30 := f29.keep Ka1 (own_nin2 (own_ne_ge (x := v) (y := a2) lv (own_ge_eq qa2)) (own_ne_ge (x := v) (y := ba0) g31 hba0)) (own_nin2 (own_ne_ge (x := tv) (y := a2) ltv (own_ge_eq qa2)) (own_ne_ge (x := tv) (y := ba0) g32 hba0))
  have g33 := own_lt_le (x := v) g31 Ka0.1
  have g34 := own_lt_le (x := v) g33 E15.1
  have g35 := own_lt_le (x := tv) g32 Ka0.1
  have g36 := own_lt_le (x := tv) g35 E15.1
  refine oGo.invokevirtual (pc' := 31) (k' := 6) (n' := 108) (a := a2) (argsL := [.ref v]) (rest := []) d9_28 rfl (w77 hG) (w78 hG) (w80 hG) (w80 hG) rfl (w79 hG) (w60 hG) (w81 hG) (by decide) pd24 rfl rfl rfl SBa1.1 (c_append hG a2 ba1 v tv [32, 61, 32, 39] [v0, v1] 16 (Nat.le_of_ble_eq_true rfl) (by decide) (Nat.lt_of_sub_pos (by simp)) ⟨(own_ne_ge (x := v) (y := a2) lv (own_ge_eq qa2)), (own_ne_or (x := v) (z := ba1) (own_ne_ge (x := v) (y := ba0) g31 hba0) g34 hba1), (own_ne_ge (x := tv) (y := a2) ltv (own_ge_eq qa2)), (own_ne_or (x := tv) (z := ba1) (own_ne_ge (x := tv) (y := ba0) g32 hba0) g36 hba1)⟩ _ SBa1 f30) (by simp) (by decide) (Nat.le_of_ble_eq_true rfl) rfl rfl (by decide) (by decide) ?_
  intro v37 h38 sh38 q39
  obtain ⟨rfl, Ka2, ba2, hba2, SBa2'⟩ := q39
  have SBa2 : oSB Z h38 a2 ba2 [32, 61, 32, 39, v0, v1] 16 := SBa2'
  have lba2 : ba2 < h38.size := by obtain ⟨_, _, _, _, _, B, _⟩ := SBa2; exact own_ltN B.lt
  refine ⟨[ba2, ba1, ba0, a2], own_D1 (SBa2.2.1), ?_⟩
  show oGo l Z a0 EL True pP eE sS mM _ bB tT cC _ _ _ _ _ _ _ _ [ba2, ba1, ba0, a2] h38 6 108 31 #[.val (.ref bp), .unset] [.ref a2]
  refine oGo.ldc_str (pc' := 33) (k' := 8) (n' := 116) (vs := oI (([39] : List Int32).map lo8)) d9_31 rfl trivial (w124 hG) (strAt hG) (hG.2.2.2 _ (by decide)) (by decide) (by decide) rfl rfl (by decide) (by decide) ?_
  intro h40 a41 b42 E43 Xa41 Ca41 Va41 Ba41 la41 lb42 na41
  have S44 : oS Z h40 a41 b42 [39] := ⟨Xa41, Va41, Ca41, Ba41, by decide⟩
  have f45 := SBa2.ext E43
  have f49 := Exa.ext E43 SBa2.1
  refine oGo.invokevirtual (pc' := 36) (k' := 9) (n' := 150) (a := a2) (argsL := [.ref a41]) (rest := []) d9_33 rfl (w77 hG) (w78 hG) (w80 hG) (w80 hG) rfl (w79 hG) (w60 hG) (w81 hG) (by decide) pd24 rfl rfl rfl f49 (c_append hG a2 ba2 a41 b42 [32, 61, 32, 39, v0, v1] [39] 16 (Nat.le_of_ble_eq_true rfl) (by decide) (Nat.lt_of_sub_pos (by simp)) ⟨(Ne.symm (na41 a2 (by simp)).1), (Ne.symm (na41 ba2 (by simp)).1), (Ne.symm (na41 a2 (by simp)).2), (Ne.symm (na41 ba2 (by simp)).2)⟩ _ f45 S44) (by simp) (by decide) (Nat.le_of_ble_eq_true rfl) rfl rfl (by decide) (by decide) ?_
  intro v46 h47 sh47 q48
  obtain ⟨rfl, Ka3, ba3, hba3, SBa3'⟩ := q48
  have SBa3 : oSB Z h47 a2 ba3 [32, 61, 32, 39, v0, v1, 39] 16 := SBa3'
  have lba3 : ba3 < h47.size := by obtain ⟨_, _, _, _, _, B, _⟩ := SBa3; exact own_ltN B.lt
  refine ⟨[ba3, ba2, ba1, ba0, a2], own_D1 (SBa3.2.1), ?_⟩
  show oGo l Z a0 EL True pP eE sS mM _ bB tT cC _ _ _ _ _ _ _ _ [ba3, ba2, ba1, ba0, a2] h47 9 150 36 #[.val (.ref bp), .unset] [.ref a2]
  refine oGo.invokevirtual (pc' := 39) (k' := 11) (n' := 174) (a := a2) (argsL := []) (rest := []) d9_36 rfl (w125 hG) (w126 hG) (w128 hG) (w128 hG) rfl (w127 hG) (w60 hG) (w129 hG) (by decide) pd25 rfl rfl rfl SBa3.1 (c_toStr hG a2 ba3 [32, 61, 32, 39, v0, v1, 39] 16 (by simp) (by simp) (by intro c hc; simp only [List.mem_cons, List.not_mem_nil, or_false] at hc; rcases hc with rfl | rfl | rfl | rfl | rfl | rfl | rfl <;> first | decide | assumption) _ SBa3) (by simp) (by decide) (Nat.le_of_ble_eq_true rfl) rfl rfl (by decide) (by decide) ?_
  intro v50 h51 sh51 q52
  obtain ⟨Kst, xst, tst, rfl, gxst, gtst, Sst⟩ := q52
  have lxst := own_ltN Sst.1.lt
  have ltst := own_ltN Sst.2.2.2.1.lt
  refine ⟨_, fun _ hx => Or.inl hx, ?_⟩
  show oGo l Z a0 EL True pP eE sS mM _ bB tT cC _ _ _ _ _ _ _ _ [ba3, ba2, ba1, ba0, a2] h51 11 174 39 #[.val (.ref bp), .unset] [.ref xst]
  refine oGo.astore_n (pc' := 40) (Ls' := #[.val (.ref bp), .val (.ref xst)]) d9_39 rfl rfl rfl ?_
  refine oGo.new (pc' := 43) (k' := 12) (n' := 178) d9_40 rfl (w58 hG) (w59 hG) (w60 hG) rfl rfl (by decide) (by decide) ?_
  intro h53 a54 qa54 la54 E55 X56 F57
  have f58 := F57 (Or.inl (w73 hG)) (ty := (.array .byte)) (by decide)
  have f59 := F57 (Or.inl (w75 hG)) (ty := .byte) (by decide)
  have f60 := F57 (Or.inl (w98 hG)) (ty := .int) (by decide)
  refine oGo.dup (pc' := 44) d9_43 rfl rfl ?_
  refine oGo.invokespecial (pc' := 47) (k' := 13) (n' := 194) (a := a54) (argsL := []) (rest := [.ref a54]) d9_44 rfl rfl (w61 hG) (w62 hG) (w60 hG) (w63 hG) (by decide) pd23 rfl rfl rfl (c_sbInit hG a54 _ _ X56 f58 f59 f60) (by simp) (by decide) (Nat.le_of_ble_eq_true rfl) rfl rfl (by decide) (by decide) ?_
  intro v61 h62 sh62 q63
  obtain ⟨rfl, Kc0, bc0, hbc0, SBc0⟩ := q63
  have lbc0 : bc0 < h62.size := by obtain ⟨_, _, _, _, _, B, _⟩ := SBc0; exact own_ltN B.lt
  refine ⟨[bc0, a54, ba3, ba2, ba1, ba0, a2], own_D1 (SBc0.2.1), ?_⟩
  show oGo l Z a0 EL True pP eE sS mM _ bB tT cC _ _ _ _ _ _ _ _ [bc0, a54, ba3, ba2, ba1, ba0, a2] h62 13 194 47 #[.val (.ref bp), .val (.ref xst)] [.ref a54]
  refine oGo.aload_n (pc' := 48) d9_47 rfl rfl rfl ?_
  have f64 := Fld.ext E3 F1
  have f65 := Fld.keep f64 Ka0 (own_nin1 (own_ne_ge (x := bp) (y := a2) lbp (own_ge_eq qa2)))
  have f66 := Fld.ext E15 f65
  have f67 := Fld.keep f66 Ka1 (own_nin2 (own_ne_ge (x := bp) (y := a2) lbp (own_ge_eq qa2)) (own_ne_ge (x := bp) (y := ba0) g26 hba0))
  have g69 := own_lt_le (x := bp) g26 Ka0.1
  have g70 := own_lt_le (x := bp) g69 E15.1
  have f68 := Fld.keep f67 Ka2 (own_nin2 (own_ne_ge (x := bp) (y := a2) lbp (own_ge_eq qa2)) (own_ne_or (x := bp) (z := ba1) (own_ne_ge (x := bp) (y := ba0) g26 hba0) g70 hba1))
  have f71 := Fld.ext E43 f68
  have g73 := own_lt_le (x := bp) g70 Ka1.1
  have f72 := Fld.keep f71 Ka3 (own_nin2 (own_ne_ge (x := bp) (y := a2) lbp (own_ge_eq qa2)) (own_ne_or (x := bp) (z := ba2) (own_ne_or (x := bp) (z := ba1) (own_ne_ge (x := bp) (y := ba0) g26 hba0) g70 hba1) g73 hba2))
  have f74 := Fld.keep f72 Kst nin0
  have f75 := Fld.ext E55 f74
  have g77 := own_lt_le (x := bp) g73 Ka2.1
  have g78 := own_lt_le (x := bp) g77 E43.1
  have g79 := own_lt_le (x := bp) g78 Ka3.1
  have g80 := own_lt_le (x := bp) g79 Kst.1
  have f76 := Fld.keep f75 Kc0 (own_nin1 (own_ne_ge (x := bp) (y := a54) g80 (own_ge_eq qa54)))
  refine oGo.getfield (pc' := 51) d9_48 rfl (w46 hG) Via.refl f76 ?_
  have f81 := Sp.ext E3
  have f82 := f81.keep Ka0 (own_nin1 (own_ne_ge (x := p) (y := a2) lp (own_ge_eq qa2))) (own_nin1 (own_ne_ge (x := tp) (y := a2) ltp (own_ge_eq qa2)))
  have f83 := f82.ext E15
  have g85 := own_lt_le (x := p) lp E3.1
  have g86 := own_lt_le (x := tp) ltp E3.1
  have f84 := f83.keep Ka1 (own_nin2 (own_ne_ge (x := p) (y := a2) lp (own_ge_eq qa2)) (own_ne_ge (x := p) (y := ba0) g85 hba0)) (own_nin2 (own_ne_ge (x := tp) (y := a2) ltp (own_ge_eq qa2)) (own_ne_ge (x := tp) (y := ba0) g86 hba0))
  have g88 := own_lt_le (x := p) g85 Ka0.1
  have g89 := own_lt_le (x := p) g88 E15.1
  have g90 := own_lt_le (x := tp) g86 Ka0.1
  have g91 := own_lt_le (x := tp) g90 E15.1
  have f87 := f84.keep Ka2 (own_nin2 (own_ne_ge (x := p) (y := a2) lp (own_ge_eq qa2)) (own_ne_or (x := p) (z := ba1) (own_ne_ge (x := p) (y := ba0) g85 hba0) g89 hba1)) (own_nin2 (own_ne_ge (x := tp) (y := a2) ltp (own_ge_eq qa2)) (own_ne_or (x := tp) (z := ba1) (own_ne_ge (x := tp) (y := ba0) g86 hba0) g91 hba1))
  have f92 := f87.ext E43
  have g94 := own_lt_le (x := p) g89 Ka1.1
  have g95 := own_lt_le (x := tp) g91 Ka1.1
  have f93 := f92.keep Ka3 (own_nin2 (own_ne_ge (x := p) (y := a2) lp (own_ge_eq qa2)) (own_ne_or (x := p) (z := ba2) (own_ne_or (x := p) (z := ba1) (own_ne_ge (x := p) (y := ba0) g85 hba0) g89 hba1) g94 hba2)) (own_nin2 (own_ne_ge (x := tp) (y := a2) ltp (own_ge_eq qa2)) (own_ne_or (x := tp) (z := ba2) (own_ne_or (x := tp) (z := ba1) (own_ne_ge (x := tp) (y := ba0) g86 hba0) g91 hba1) g95 hba2))
  have f96 := f93.keep Kst nin0 nin0
  have f97 := f96.ext E55
  have g99 := own_lt_le (x := p) g94 Ka2.1
  have g100 := own_lt_le (x := p) g99 E43.1
  have g101 := own_lt_le (x := p) g100 Ka3.1
  have g102 := own_lt_le (x := p) g101 Kst.1
  have g103 := own_lt_le (x := tp) g95 Ka2.1
  have g104 := own_lt_le (x := tp) g103 E43.1
  have g105 := own_lt_le (x := tp) g104 Ka3.1
  have g106 := own_lt_le (x := tp) g105 Kst.1
  have f98 := f97.keep Kc0 (own_nin1 (own_ne_ge (x := p) (y := a54) g102 (own_ge_eq qa54))) (own_nin1 (own_ne_ge (x := tp) (y := a54) g106 (own_ge_eq qa54)))
  have g107 := own_lt_le (x := p) g102 E55.1
  have g108 := own_lt_le (x := tp) g106 E55.1
  refine oGo.invokevirtual (pc' := 54) (k' := 14) (n' := 228) (a := a54) (argsL := [.ref p]) (rest := []) d9_51 rfl (w77 hG) (w78 hG) (w80 hG) (w80 hG) rfl (w79 hG) (w60 hG) (w81 hG) (by decide) pd24 rfl rfl rfl SBc0.1 (c_append hG a54 bc0 p tp [] [p0, p1] 16 (Nat.le_of_ble_eq_true rfl) (by decide) (Nat.lt_of_sub_pos (by simp)) ⟨(own_ne_ge (x := p) (y := a54) g102 (own_ge_eq qa54)), (own_ne_ge (x := p) (y := bc0) g107 hbc0), (own_ne_ge (x := tp) (y := a54) g106 (own_ge_eq qa54)), (own_ne_ge (x := tp) (y := bc0) g108 hbc0)⟩ _ SBc0 f98) (by simp) (by decide) (Nat.le_of_ble_eq_true rfl) rfl rfl (by decide) (by decide) ?_
  intro v109 h110 sh110 q111
  obtain ⟨rfl, Kc1, bc1, hbc1, SBc1'⟩ := q111
  have SBc1 : oSB Z h110 a54 bc1 [p0, p1] 16 := SBc1'
  have lbc1 : bc1 < h110.size := by obtain ⟨_, _, _, _, _, B, _⟩ := SBc1; exact own_ltN B.lt
  refine ⟨[bc1, bc0, a54, ba3, ba2, ba1, ba0, a2], own_D1 (SBc1.2.1), ?_⟩
  show oGo l Z a0 EL True pP eE sS mM _ bB tT cC _ _ _ _ _ _ _ _ [bc1, bc0, a54, ba3, ba2, ba1, ba0, a2] h110 14 228 54 #[.val (.ref bp), .val (.ref xst)] [.ref a54]
  refine oGo.aload_n (pc' := 55) d9_54 rfl rfl rfl ?_
  have f112 := Sst.ext E55
  have f113 := f112.keep Kc0 (own_nin1 (own_ne_ge (x := xst) (y := a54) lxst (own_ge_eq qa54))) (own_nin1 (own_ne_ge (x := tst) (y := a54) ltst (own_ge_eq qa54)))
  have g115 := own_lt_le (x := xst) lxst E55.1
  have g116 := own_lt_le (x := tst) ltst E55.1
  have f114 := f113.keep Kc1 (own_nin2 (own_ne_ge (x := xst) (y := a54) lxst (own_ge_eq qa54)) (own_ne_ge (x := xst) (y := bc0) g115 hbc0)) (own_nin2 (own_ne_ge (x := tst) (y := a54) ltst (own_ge_eq qa54)) (own_ne_ge (x := tst) (y := bc0) g116 hbc0))
  have g117 := own_lt_le (x := xst) g115 Kc0.1
  have g118 := own_lt_le (x := tst) g116 Kc0.1
  refine oGo.invokevirtual (pc' := 58) (k' := 15) (n' := 262) (a := a54) (argsL := [.ref xst]) (rest := []) d9_55 rfl (w77 hG) (w78 hG) (w80 hG) (w80 hG) rfl (w79 hG) (w60 hG) (w81 hG) (by decide) pd24 rfl rfl rfl SBc1.1 (c_append hG a54 bc1 xst tst [p0, p1] [32, 61, 32, 39, v0, v1, 39] 16 (Nat.le_of_ble_eq_true rfl) (by decide) (Nat.lt_of_sub_pos (by simp)) ⟨(own_ne_ge (x := xst) (y := a54) lxst (own_ge_eq qa54)), (own_ne_or (x := xst) (z := bc1) (own_ne_ge (x := xst) (y := bc0) g115 hbc0) g117 hbc1), (own_ne_ge (x := tst) (y := a54) ltst (own_ge_eq qa54)), (own_ne_or (x := tst) (z := bc1) (own_ne_ge (x := tst) (y := bc0) g116 hbc0) g118 hbc1)⟩ _ SBc1 f114) (by simp) (by decide) (Nat.le_of_ble_eq_true rfl) rfl rfl (by decide) (by decide) ?_
  intro v119 h120 sh120 q121
  obtain ⟨rfl, Kc2, bc2, hbc2, SBc2'⟩ := q121
  have SBc2 : oSB Z h120 a54 bc2 [p0, p1, 32, 61, 32, 39, v0, v1, 39] 16 := SBc2'
  have lbc2 : bc2 < h120.size := by obtain ⟨_, _, _, _, _, B, _⟩ := SBc2; exact own_ltN B.lt
  refine ⟨[bc2, bc1, bc0, a54, ba3, ba2, ba1, ba0, a2], own_D1 (SBc2.2.1), ?_⟩
  show oGo l Z a0 EL True pP eE sS mM _ bB tT cC _ _ _ _ _ _ _ _ [bc2, bc1, bc0, a54, ba3, ba2, ba1, ba0, a2] h120 15 262 58 #[.val (.ref bp), .val (.ref xst)] [.ref a54]
  refine oGo.ldc_str (pc' := 60) (k' := 17) (n' := 274) (vs := oI (([58, 32] : List Int32).map lo8)) d9_58 rfl trivial (w170 hG) (strAt hG) (hG.2.2.2 _ (by decide)) (by decide) (by decide) rfl rfl (by decide) (by decide) ?_
  intro h122 a123 b124 E125 Xa123 Ca123 Va123 Ba123 la123 lb124 na123
  have S126 : oS Z h122 a123 b124 [58, 32] := ⟨Xa123, Va123, Ca123, Ba123, by decide⟩
  have f127 := SBc2.ext E125
  have f131 := Exa.ext E125 SBc2.1
  refine oGo.invokevirtual (pc' := 63) (k' := 18) (n' := 308) (a := a54) (argsL := [.ref a123]) (rest := []) d9_60 rfl (w77 hG) (w78 hG) (w80 hG) (w80 hG) rfl (w79 hG) (w60 hG) (w81 hG) (by decide) pd24 rfl rfl rfl f131 (c_append hG a54 bc2 a123 b124 [p0, p1, 32, 61, 32, 39, v0, v1, 39] [58, 32] 16 (Nat.le_of_ble_eq_true rfl) (by decide) (Nat.lt_of_sub_pos (by simp)) ⟨(Ne.symm (na123 a54 (by simp)).1), (Ne.symm (na123 bc2 (by simp)).1), (Ne.symm (na123 a54 (by simp)).2), (Ne.symm (na123 bc2 (by simp)).2)⟩ _ f127 S126) (by simp) (by decide) (Nat.le_of_ble_eq_true rfl) rfl rfl (by decide) (by decide) ?_
  intro v128 h129 sh129 q130
  obtain ⟨rfl, Kc3, bc3, hbc3, SBc3'⟩ := q130
  have SBc3 : oSB Z h129 a54 bc3 [p0, p1, 32, 61, 32, 39, v0, v1, 39, 58, 32] 16 := SBc3'
  have lbc3 : bc3 < h129.size := by obtain ⟨_, _, _, _, _, B, _⟩ := SBc3; exact own_ltN B.lt
  refine ⟨[bc3, bc2, bc1, bc0, a54, ba3, ba2, ba1, ba0, a2], own_D1 (SBc3.2.1), ?_⟩
  show oGo l Z a0 EL True pP eE sS mM _ bB tT cC _ _ _ _ _ _ _ _ [bc3, bc2, bc1, bc0, a54, ba3, ba2, ba1, ba0, a2] h129 18 308 63 #[.val (.ref bp), .val (.ref xst)] [.ref a54]
  refine oGo.aload_n (pc' := 64) d9_63 rfl rfl rfl ?_
  have f132 := Fld.ext E3 F3
  have f133 := Fld.keep f132 Ka0 (own_nin1 (own_ne_ge (x := bp) (y := a2) lbp (own_ge_eq qa2)))
  have f134 := Fld.ext E15 f133
  have f135 := Fld.keep f134 Ka1 (own_nin2 (own_ne_ge (x := bp) (y := a2) lbp (own_ge_eq qa2)) (own_ne_ge (x := bp) (y := ba0) g26 hba0))
  have f136 := Fld.keep f135 Ka2 (own_nin2 (own_ne_ge (x := bp) (y := a2) lbp (own_ge_eq qa2)) (own_ne_or (x := bp) (z := ba1) (own_ne_ge (x := bp) (y := ba0) g26 hba0) g70 hba1))
  have f137 := Fld.ext E43 f136
  have f138 := Fld.keep f137 Ka3 (own_nin2 (own_ne_ge (x := bp) (y := a2) lbp (own_ge_eq qa2)) (own_ne_or (x := bp) (z := ba2) (own_ne_or (x := bp) (z := ba1) (own_ne_ge (x := bp) (y := ba0) g26 hba0) g70 hba1) g73 hba2))
  have f139 := Fld.keep f138 Kst nin0
  have f140 := Fld.ext E55 f139
  have f141 := Fld.keep f140 Kc0 (own_nin1 (own_ne_ge (x := bp) (y := a54) g80 (own_ge_eq qa54)))
  have g143 := own_lt_le (x := bp) g80 E55.1
  have f142 := Fld.keep f141 Kc1 (own_nin2 (own_ne_ge (x := bp) (y := a54) g80 (own_ge_eq qa54)) (own_ne_ge (x := bp) (y := bc0) g143 hbc0))
  have g145 := own_lt_le (x := bp) g143 Kc0.1
  have f144 := Fld.keep f142 Kc2 (own_nin2 (own_ne_ge (x := bp) (y := a54) g80 (own_ge_eq qa54)) (own_ne_or (x := bp) (z := bc1) (own_ne_ge (x := bp) (y := bc0) g143 hbc0) g145 hbc1))
  have f146 := Fld.ext E125 f144
  have g148 := own_lt_le (x := bp) g145 Kc1.1
  have f147 := Fld.keep f146 Kc3 (own_nin2 (own_ne_ge (x := bp) (y := a54) g80 (own_ge_eq qa54)) (own_ne_or (x := bp) (z := bc2) (own_ne_or (x := bp) (z := bc1) (own_ne_ge (x := bp) (y := bc0) g143 hbc0) g145 hbc1) g148 hbc2))
  refine oGo.getfield (pc' := 67) d9_64 rfl (w51 hG) Via.refl f147 ?_
  have f149 := Sr.ext E3
  have f150 := f149.keep Ka0 (own_nin1 (own_ne_ge (x := r) (y := a2) lr (own_ge_eq qa2))) (own_nin1 (own_ne_ge (x := tr) (y := a2) ltr (own_ge_eq qa2)))
  have f151 := f150.ext E15
  have g153 := own_lt_le (x := r) lr E3.1
  have g154 := own_lt_le (x := tr) ltr E3.1
  have f152 := f151.keep Ka1 (own_nin2 (own_ne_ge (x := r) (y := a2) lr (own_ge_eq qa2)) (own_ne_ge (x := r) (y := ba0) g153 hba0)) (own_nin2 (own_ne_ge (x := tr) (y := a2) ltr (own_ge_eq qa2)) (own_ne_ge (x := tr) (y := ba0) g154 hba0))
  have g156 := own_lt_le (x := r) g153 Ka0.1
  have g157 := own_lt_le (x := r) g156 E15.1
  have g158 := own_lt_le (x := tr) g154 Ka0.1
  have g159 := own_lt_le (x := tr) g158 E15.1
  have f155 := f152.keep Ka2 (own_nin2 (own_ne_ge (x := r) (y := a2) lr (own_ge_eq qa2)) (own_ne_or (x := r) (z := ba1) (own_ne_ge (x := r) (y := ba0) g153 hba0) g157 hba1)) (own_nin2 (own_ne_ge (x := tr) (y := a2) ltr (own_ge_eq qa2)) (own_ne_or (x := tr) (z := ba1) (own_ne_ge (x := tr) (y := ba0) g154 hba0) g159 hba1))
  have f160 := f155.ext E43
  have g162 := own_lt_le (x := r) g157 Ka1.1
  have g163 := own_lt_le (x := tr) g159 Ka1.1
  have f161 := f160.keep Ka3 (own_nin2 (own_ne_ge (x := r) (y := a2) lr (own_ge_eq qa2)) (own_ne_or (x := r) (z := ba2) (own_ne_or (x := r) (z := ba1) (own_ne_ge (x := r) (y := ba0) g153 hba0) g157 hba1) g162 hba2)) (own_nin2 (own_ne_ge (x := tr) (y := a2) ltr (own_ge_eq qa2)) (own_ne_or (x := tr) (z := ba2) (own_ne_or (x := tr) (z := ba1) (own_ne_ge (x := tr) (y := ba0) g154 hba0) g159 hba1) g163 hba2))
  have f164 := f161.keep Kst nin0 nin0
  have f165 := f164.ext E55
  have g167 := own_lt_le (x := r) g162 Ka2.1
  have g168 := own_lt_le (x := r) g167 E43.1
  have g169 := own_lt_le (x := r) g168 Ka3.1
  have g170 := own_lt_le (x := r) g169 Kst.1
  have g171 := own_lt_le (x := tr) g163 Ka2.1
  have g172 := own_lt_le (x := tr) g171 E43.1
  have g173 := own_lt_le (x := tr) g172 Ka3.1
  have g174 := own_lt_le (x := tr) g173 Kst.1
  have f166 := f165.keep Kc0 (own_nin1 (own_ne_ge (x := r) (y := a54) g170 (own_ge_eq qa54))) (own_nin1 (own_ne_ge (x := tr) (y := a54) g174 (own_ge_eq qa54)))
  have g176 := own_lt_le (x := r) g170 E55.1
  have g177 := own_lt_le (x := tr) g174 E55.1
  have f175 := f166.keep Kc1 (own_nin2 (own_ne_ge (x := r) (y := a54) g170 (own_ge_eq qa54)) (own_ne_ge (x := r) (y := bc0) g176 hbc0)) (own_nin2 (own_ne_ge (x := tr) (y := a54) g174 (own_ge_eq qa54)) (own_ne_ge (x := tr) (y := bc0) g177 hbc0))
  have g179 := own_lt_le (x := r) g176 Kc0.1
  have g180 := own_lt_le (x := tr) g177 Kc0.1
  have f178 := f175.keep Kc2 (own_nin2 (own_ne_ge (x := r) (y := a54) g170 (own_ge_eq qa54)) (own_ne_or (x := r) (z := bc1) (own_ne_ge (x := r) (y := bc0) g176 hbc0) g179 hbc1)) (own_nin2 (own_ne_ge (x := tr) (y := a54) g174 (own_ge_eq qa54)) (own_ne_or (x := tr) (z := bc1) (own_ne_ge (x := tr) (y := bc0) g177 hbc0) g180 hbc1))
  have f181 := f178.ext E125
  have g183 := own_lt_le (x := r) g179 Kc1.1
  have g184 := own_lt_le (x := tr) g180 Kc1.1
  have f182 := f181.keep Kc3 (own_nin2 (own_ne_ge (x := r) (y := a54) g170 (own_ge_eq qa54)) (own_ne_or (x := r) (z := bc2) (own_ne_or (x := r) (z := bc1) (own_ne_ge (x := r) (y := bc0) g176 hbc0) g179 hbc1) g183 hbc2)) (own_nin2 (own_ne_ge (x := tr) (y := a54) g174 (own_ge_eq qa54)) (own_ne_or (x := tr) (z := bc2) (own_ne_or (x := tr) (z := bc1) (own_ne_ge (x := tr) (y := bc0) g177 hbc0) g180 hbc1) g184 hbc2))
  have g185 := own_lt_le (x := r) g183 Kc2.1
  have g186 := own_lt_le (x := r) g185 E125.1
  have g187 := own_lt_le (x := tr) g184 Kc2.1
  have g188 := own_lt_le (x := tr) g187 E125.1
  refine oGo.invokevirtual (pc' := 70) (k' := 19) (n' := 342) (a := a54) (argsL := [.ref r]) (rest := []) d9_67 rfl (w77 hG) (w78 hG) (w80 hG) (w80 hG) rfl (w79 hG) (w60 hG) (w81 hG) (by decide) pd24 rfl rfl rfl SBc3.1 (c_append hG a54 bc3 r tr [p0, p1, 32, 61, 32, 39, v0, v1, 39, 58, 32] [r0, r1] 16 (Nat.le_of_ble_eq_true rfl) (by decide) (Nat.lt_of_sub_pos (by simp)) ⟨(own_ne_ge (x := r) (y := a54) g170 (own_ge_eq qa54)), (own_ne_or (x := r) (z := bc3) (own_ne_or (x := r) (z := bc2) (own_ne_or (x := r) (z := bc1) (own_ne_ge (x := r) (y := bc0) g176 hbc0) g179 hbc1) g183 hbc2) g186 hbc3), (own_ne_ge (x := tr) (y := a54) g174 (own_ge_eq qa54)), (own_ne_or (x := tr) (z := bc3) (own_ne_or (x := tr) (z := bc2) (own_ne_or (x := tr) (z := bc1) (own_ne_ge (x := tr) (y := bc0) g177 hbc0) g180 hbc1) g184 hbc2) g188 hbc3)⟩ _ SBc3 f182) (by simp) (by decide) (Nat.le_of_ble_eq_true rfl) rfl rfl (by decide) (by decide) ?_
  intro v189 h190 sh190 q191
  obtain ⟨rfl, Kc4, bc4, hbc4, SBc4'⟩ := q191
  have SBc4 : oSB Z h190 a54 bc4 [p0, p1, 32, 61, 32, 39, v0, v1, 39, 58, 32, r0, r1] 16 := SBc4'
  have lbc4 : bc4 < h190.size := by obtain ⟨_, _, _, _, _, B, _⟩ := SBc4; exact own_ltN B.lt
  refine ⟨[bc4, bc3, bc2, bc1, bc0, a54, ba3, ba2, ba1, ba0, a2], own_D1 (SBc4.2.1), ?_⟩
  show oGo l Z a0 EL True pP eE sS mM _ bB tT cC _ _ _ _ _ _ _ _ [bc4, bc3, bc2, bc1, bc0, a54, ba3, ba2, ba1, ba0, a2] h190 19 342 70 #[.val (.ref bp), .val (.ref xst)] [.ref a54]
  refine oGo.invokevirtual (pc' := 73) (k' := 21) (n' := 366) (a := a54) (argsL := []) (rest := []) d9_70 rfl (w125 hG) (w126 hG) (w128 hG) (w128 hG) rfl (w127 hG) (w60 hG) (w129 hG) (by decide) pd25 rfl rfl rfl SBc4.1 (c_toStr hG a54 bc4 [p0, p1, 32, 61, 32, 39, v0, v1, 39, 58, 32, r0, r1] 16 (by simp) (by simp) (by intro c hc; simp only [List.mem_cons, List.not_mem_nil, or_false] at hc; rcases hc with rfl | rfl | rfl | rfl | rfl | rfl | rfl | rfl | rfl | rfl | rfl | rfl | rfl <;> first | decide | assumption) _ SBc4) (by simp) (by decide) (Nat.le_of_ble_eq_true rfl) rfl rfl (by decide) (by decide) ?_
  intro v192 h193 sh193 q194
  obtain ⟨Kz, xz, tz, rfl, gxz, gtz, Sz⟩ := q194
  have lxz := own_ltN Sz.1.lt
  have ltz := own_ltN Sz.2.2.2.1.lt
  refine ⟨_, fun _ hx => Or.inl hx, ?_⟩
  show oGo l Z a0 EL True pP eE sS mM _ bB tT cC _ _ _ _ _ _ _ _ [bc4, bc3, bc2, bc1, bc0, a54, ba3, ba2, ba1, ba0, a2] h193 21 366 73 #[.val (.ref bp), .val (.ref xst)] [.ref xz]
  have z195 := own_le_le (x := h.size) (Nat.le_refl _) E3.1
  have z196 := own_le_le (x := h.size) z195 Ka0.1
  have z197 := own_le_le (x := h.size) z196 E15.1
  have z198 := own_le_le (x := h.size) z197 Ka1.1
  have z199 := own_le_le (x := h.size) z198 Ka2.1
  have z200 := own_le_le (x := h.size) z199 E43.1
  have z201 := own_le_le (x := h.size) z200 Ka3.1
  have z202 := own_le_le (x := h.size) z201 Kst.1
  have z203 := own_le_le (x := h.size) z202 E55.1
  have z204 := own_le_le (x := h.size) z203 Kc0.1
  have z205 := own_le_le (x := h.size) z204 Kc1.1
  have z206 := own_le_le (x := h.size) z205 Kc2.1
  have z207 := own_le_le (x := h.size) z206 E125.1
  have K208 : Keep h h193 [] := (((((((((((((((((Keep.refl h []).ext E3).trans Ka0 (own_new1 (own_le_le (x := h.size) (Nat.le_refl _) (own_ge_eq qa2)))).ext E15).trans Ka1 (own_new2 (own_le_le (x := h.size) (Nat.le_refl _) (own_ge_eq qa2)) (own_le_le (x := h.size) z195 hba0))).trans Ka2 (own_new2 (own_le_le (x := h.size) (Nat.le_refl _) (own_ge_eq qa2)) (own_ge_or (own_le_le (x := h.size) z195 hba0) z197 hba1))).ext E43).trans Ka3 (own_new2 (own_le_le (x := h.size) (Nat.le_refl _) (own_ge_eq qa2)) (own_ge_or (own_ge_or (own_le_le (x := h.size) z195 hba0) z197 hba1) z198 hba2))).trans Kst (by simp)).ext E55).trans Kc0 (own_new1 (own_le_le (x := h.size) z202 (own_ge_eq qa54)))).trans Kc1 (own_new2 (own_le_le (x := h.size) z202 (own_ge_eq qa54)) (own_le_le (x := h.size) z203 hbc0))).trans Kc2 (own_new2 (own_le_le (x := h.size) z202 (own_ge_eq qa54)) (own_ge_or (own_le_le (x := h.size) z203 hbc0) z204 hbc1))).ext E125).trans Kc3 (own_new2 (own_le_le (x := h.size) z202 (own_ge_eq qa54)) (own_ge_or (own_ge_or (own_le_le (x := h.size) z203 hbc0) z204 hbc1) z205 hbc2))).trans Kc4 (own_new2 (own_le_le (x := h.size) z202 (own_ge_eq qa54)) (own_ge_or (own_ge_or (own_ge_or (own_le_le (x := h.size) z203 hbc0) z204 hbc1) z205 hbc2) z207 hbc3))).trans Kz (by simp))
  have z209 := own_le_le (x := h.size) z207 Kc3.1
  have z210 := own_le_le (x := h.size) z209 Kc4.1
  exact oGo.areturn d9_73 rfl rfl rfl rfl (by decide) (by decide) ⟨K208, xz, tz, rfl, (own_le_le (x := h.size) z210 gxz), (own_le_le (x := h.size) z210 gtz), Sz⟩ (fun _ q => q.elim)
set_option maxRecDepth 65536 in
set_option maxHeartbeats 4000000 in
theorem c_law {l : Launch} {Z : State} {a0 : Array Value} {EL : List (String × Nat)} (hG : oG a0 Z EL) (i0 i1 i2 i3 : Int32) (h : Heap)  :
    oCtr tables_1 l Z a0 EL True (⟨"com/example/orderly_settings/orderlysettings/BindingProblemToStringPinLaw", "law", "(IIII)Z"⟩ : MethodName) code 17 (some .boolean) room_1 #[.int i0, .int i1, .int i2, .int i3] [] h (fun v h' => v = some (.int 1)) oNo := by
  refine oCtr.enter (Ls := #[.val (.int i0), .val (.int i1), .val (.int i2), .val (.int i3), .unset, .unset, .unset, .unset, .unset, .unset, .unset, .unset, .unset, .unset, .unset, .unset, .unset]) (plainFor_of_name pn9) hG.2.1 (fun m => by first | (simp [entryFrame, mkF, argsToLocals, Value.category]; done) | rfl) ?_
  intro pP eE sS mM bB tT cC
  refine oGo.iload_n (pc' := 1) at_0 rfl rfl ?_
  refine oGo.sipush (pc' := 4) (v := 255) at_1 rfl (by decide) ?_
  refine oGo.iand (pc' := 5) at_4 rfl ?_
  refine oGo.i2c (pc' := 6) at_5 rfl ?_
  obtain ⟨p0, hp0⟩ : ∃ c, c = ((i0 &&& (255 : Int32)).toUInt32.toUInt16.toUInt32.toInt32) := ⟨_, rfl⟩
  rw [← hp0]
  have bp0 : ¬ p0 < 0 ∧ ¬ 255 < p0 := by rw [hp0]; exact own_b255 _
  refine oGo.istore (pc' := 8) (Ls' := #[.val (.int i0), .val (.int i1), .val (.int i2), .val (.int i3), .val (.int p0), .unset, .unset, .unset, .unset, .unset, .unset, .unset, .unset, .unset, .unset, .unset, .unset]) at_6 rfl rfl ?_
  refine oGo.iload_n (pc' := 9) at_8 rfl rfl ?_
  refine oGo.bipush (pc' := 11) (v := 8) at_9 rfl (by decide) ?_
  refine oGo.iushr (pc' := 12) at_11 rfl ?_
  refine oGo.sipush (pc' := 15) (v := 255) at_12 rfl (by decide) ?_
  refine oGo.iand (pc' := 16) at_15 rfl ?_
  refine oGo.i2c (pc' := 17) at_16 rfl ?_
  obtain ⟨p1, hp1⟩ : ∃ c, c = (((XT.ushr i0 (8 : Int32)) &&& (255 : Int32)).toUInt32.toUInt16.toUInt32.toInt32) := ⟨_, rfl⟩
  rw [← hp1]
  have bp1 : ¬ p1 < 0 ∧ ¬ 255 < p1 := by rw [hp1]; exact own_b255 _
  refine oGo.istore (pc' := 19) (Ls' := #[.val (.int i0), .val (.int i1), .val (.int i2), .val (.int i3), .val (.int p0), .val (.int p1), .unset, .unset, .unset, .unset, .unset, .unset, .unset, .unset, .unset, .unset, .unset]) at_17 rfl rfl ?_
  refine oGo.iload_n (pc' := 20) at_19 rfl rfl ?_
  refine oGo.sipush (pc' := 23) (v := 255) at_20 rfl (by decide) ?_
  refine oGo.iand (pc' := 24) at_23 rfl ?_
  refine oGo.i2c (pc' := 25) at_24 rfl ?_
  obtain ⟨v0, hv0⟩ : ∃ c, c = ((i1 &&& (255 : Int32)).toUInt32.toUInt16.toUInt32.toInt32) := ⟨_, rfl⟩
  rw [← hv0]
  have bv0 : ¬ v0 < 0 ∧ ¬ 255 < v0 := by rw [hv0]; exact own_b255 _
  refine oGo.istore (pc' := 27) (Ls' := #[.val (.int i0), .val (.int i1), .val (.int i2), .val (.int i3), .val (.int p0), .val (.int p1), .val (.int v0), .unset, .unset, .unset, .unset, .unset, .unset, .unset, .unset, .unset, .unset]) at_25 rfl rfl ?_
  refine oGo.iload_n (pc' := 28) at_27 rfl rfl ?_
  refine oGo.bipush (pc' := 30) (v := 8) at_28 rfl (by decide) ?_
  refine oGo.iushr (pc' := 31) at_30 rfl ?_
  refine oGo.sipush (pc' := 34) (v := 255) at_31 rfl (by decide) ?_
  refine oGo.iand (pc' := 35) at_34 rfl ?_
  refine oGo.i2c (pc' := 36) at_35 rfl ?_
  obtain ⟨v1, hv1⟩ : ∃ c, c = (((XT.ushr i1 (8 : Int32)) &&& (255 : Int32)).toUInt32.toUInt16.toUInt32.toInt32) := ⟨_, rfl⟩
  rw [← hv1]
  have bv1 : ¬ v1 < 0 ∧ ¬ 255 < v1 := by rw [hv1]; exact own_b255 _
  refine oGo.istore (pc' := 38) (Ls' := #[.val (.int i0), .val (.int i1), .val (.int i2), .val (.int i3), .val (.int p0), .val (.int p1), .val (.int v0), .val (.int v1), .unset, .unset, .unset, .unset, .unset, .unset, .unset, .unset, .unset]) at_36 rfl rfl ?_
  refine oGo.iload_n (pc' := 39) at_38 rfl rfl ?_
  refine oGo.sipush (pc' := 42) (v := 255) at_39 rfl (by decide) ?_
  refine oGo.iand (pc' := 43) at_42 rfl ?_
  refine oGo.i2c (pc' := 44) at_43 rfl ?_
  obtain ⟨r0, hr0⟩ : ∃ c, c = ((i2 &&& (255 : Int32)).toUInt32.toUInt16.toUInt32.toInt32) := ⟨_, rfl⟩
  rw [← hr0]
  have br0 : ¬ r0 < 0 ∧ ¬ 255 < r0 := by rw [hr0]; exact own_b255 _
  refine oGo.istore (pc' := 46) (Ls' := #[.val (.int i0), .val (.int i1), .val (.int i2), .val (.int i3), .val (.int p0), .val (.int p1), .val (.int v0), .val (.int v1), .val (.int r0), .unset, .unset, .unset, .unset, .unset, .unset, .unset, .unset]) at_44 rfl rfl ?_
  refine oGo.iload_n (pc' := 47) at_46 rfl rfl ?_
  refine oGo.bipush (pc' := 49) (v := 8) at_47 rfl (by decide) ?_
  refine oGo.iushr (pc' := 50) at_49 rfl ?_
  refine oGo.sipush (pc' := 53) (v := 255) at_50 rfl (by decide) ?_
  refine oGo.iand (pc' := 54) at_53 rfl ?_
  refine oGo.i2c (pc' := 55) at_54 rfl ?_
  obtain ⟨r1, hr1⟩ : ∃ c, c = (((XT.ushr i2 (8 : Int32)) &&& (255 : Int32)).toUInt32.toUInt16.toUInt32.toInt32) := ⟨_, rfl⟩
  rw [← hr1]
  have br1 : ¬ r1 < 0 ∧ ¬ 255 < r1 := by rw [hr1]; exact own_b255 _
  refine oGo.istore (pc' := 57) (Ls' := #[.val (.int i0), .val (.int i1), .val (.int i2), .val (.int i3), .val (.int p0), .val (.int p1), .val (.int v0), .val (.int v1), .val (.int r0), .val (.int r1), .unset, .unset, .unset, .unset, .unset, .unset, .unset]) at_55 rfl rfl ?_
  refine oGo.new (pc' := 60) (k' := 1) (n' := 4) at_57 rfl (w0 hG) (w1 hG) (w2 hG) rfl rfl (by decide) (by decide) ?_
  intro h1 a2 qa2 la2 E3 X4 F5
  have f6 := F5 (Or.inr (w27 hG)) (ty := .byte) (by decide)
  have f7 := F5 (Or.inr (w29 hG)) (ty := (.array .byte)) (by decide)
  refine oGo.dup (pc' := 61) at_60 rfl rfl ?_
  refine oGo.iconst (pc' := 62) (v := 2) at_61 rfl (by decide) ?_
  refine oGo.newarray (pc' := 64) (k' := 2) (n' := 6) (i := 2) at_62 rfl (w3 hG) rfl 2 (by decide) (by decide) rfl rfl (by decide) (by decide) (by decide) ?_
  intro h8 a9 qa9 la9 E10 A11'
  have A11 : oArr Z h8 a9 .char (List.replicate (2) (.int 0)) := A11'
  refine oGo.dup (pc' := 65) at_64 rfl rfl ?_
  refine oGo.iconst (pc' := 66) (v := 0) at_65 rfl (by decide) ?_
  refine oGo.iload (pc' := 68) at_66 rfl rfl ?_
  refine oGo.castore (pc' := 69) (i := 0) (w := p0) at_68 rfl A11 rfl (by simp) (nar_char bp0.1 (own_255 bp0.2)) (by simp) ?_
  intro h12 W13 sh12 A14
  refine oGo.dup (pc' := 70) at_69 rfl rfl ?_
  refine oGo.iconst (pc' := 71) (v := 1) at_70 rfl (by decide) ?_
  refine oGo.iload (pc' := 73) at_71 rfl rfl ?_
  refine oGo.castore (pc' := 74) (i := 1) (w := p1) at_73 rfl A14 rfl (by simp) (nar_char bp1.1 (own_255 bp1.2)) (by simp) ?_
  intro h15 W16 sh15 A17
  have A18 : oArr Z h15 a9 .char (oI [p0, p1]) := A17
  have K19 : Keep h8 h15 [a9] := (((Keep.refl h8 [a9]).wr W13 (Or.inl (by simp))).wr W16 (Or.inl (by simp)))
  have f20 := Exa.ext E10 X4
  have f21 := Exa.keep f20 K19
  have f22 := Fld.ext E10 f7
  have f23 := Fld.keep f22 K19 (own_nin1 (own_ne_ge (x := a2) (y := a9) la2 (own_ge_eq qa9)))
  have f24 := Fld.ext E10 f6
  have f25 := Fld.keep f24 K19 (own_nin1 (own_ne_ge (x := a2) (y := a9) la2 (own_ge_eq qa9)))
  refine oGo.invokespecial (pc' := 77) (k' := 3) (n' := 26) (a := a2) (argsL := [.ref a9]) (rest := [.ref a2]) at_74 rfl rfl (w4 hG) (w5 hG) (w2 hG) (w6 hG) (by decide) pd26 rfl rfl rfl (c_strI1 hG a2 a9 [p0, p1] (by simp) (by simp) (by intro c hc; simp only [List.mem_cons, List.not_mem_nil, or_false] at hc; rcases hc with rfl | rfl <;> first | decide | assumption) _ _ _ A18 f21 f23 f25) (by simp) (by decide) (Nat.le_of_ble_eq_true rfl) rfl rfl (by decide) (by decide) ?_
  intro v26 h27 sh27 q28
  obtain ⟨rfl, KP, tP, SP⟩ := q28
  have lxP := own_ltN SP.1.lt
  have ltP := own_ltN SP.2.2.2.1.lt
  refine ⟨_, fun _ hx => Or.inl hx, ?_⟩
  show oGo l Z a0 EL True pP eE sS mM _ bB tT cC _ _ _ _ _ _ _ _ [a9, a2] h27 3 26 77 #[.val (.int i0), .val (.int i1), .val (.int i2), .val (.int i3), .val (.int p0), .val (.int p1), .val (.int v0), .val (.int v1), .val (.int r0), .val (.int r1), .unset, .unset, .unset, .unset, .unset, .unset, .unset] [.ref a2]
  refine oGo.astore (pc' := 79) (Ls' := #[.val (.int i0), .val (.int i1), .val (.int i2), .val (.int i3), .val (.int p0), .val (.int p1), .val (.int v0), .val (.int v1), .val (.int r0), .val (.int r1), .val (.ref a2), .unset, .unset, .unset, .unset, .unset, .unset]) at_77 rfl rfl rfl ?_
  refine oGo.new (pc' := 82) (k' := 4) (n' := 30) at_79 rfl (w0 hG) (w1 hG) (w2 hG) rfl rfl (by decide) (by decide) ?_
  intro h29 a30 qa30 la30 E31 X32 F33
  have f34 := F33 (Or.inr (w27 hG)) (ty := .byte) (by decide)
  have f35 := F33 (Or.inr (w29 hG)) (ty := (.array .byte)) (by decide)
  refine oGo.dup (pc' := 83) at_82 rfl rfl ?_
  refine oGo.iconst (pc' := 84) (v := 2) at_83 rfl (by decide) ?_
  refine oGo.newarray (pc' := 86) (k' := 5) (n' := 32) (i := 2) at_84 rfl (w3 hG) rfl 2 (by decide) (by decide) rfl rfl (by decide) (by decide) (by decide) ?_
  intro h36 a37 qa37 la37 E38 A39'
  have A39 : oArr Z h36 a37 .char (List.replicate (2) (.int 0)) := A39'
  refine oGo.dup (pc' := 87) at_86 rfl rfl ?_
  refine oGo.iconst (pc' := 88) (v := 0) at_87 rfl (by decide) ?_
  refine oGo.iload (pc' := 90) at_88 rfl rfl ?_
  refine oGo.castore (pc' := 91) (i := 0) (w := r0) at_90 rfl A39 rfl (by simp) (nar_char br0.1 (own_255 br0.2)) (by simp) ?_
  intro h40 W41 sh40 A42
  refine oGo.dup (pc' := 92) at_91 rfl rfl ?_
  refine oGo.iconst (pc' := 93) (v := 1) at_92 rfl (by decide) ?_
  refine oGo.iload (pc' := 95) at_93 rfl rfl ?_
  refine oGo.castore (pc' := 96) (i := 1) (w := r1) at_95 rfl A42 rfl (by simp) (nar_char br1.1 (own_255 br1.2)) (by simp) ?_
  intro h43 W44 sh43 A45
  have A46 : oArr Z h43 a37 .char (oI [r0, r1]) := A45
  have K47 : Keep h36 h43 [a37] := (((Keep.refl h36 [a37]).wr W41 (Or.inl (by simp))).wr W44 (Or.inl (by simp)))
  have f48 := Exa.ext E38 X32
  have f49 := Exa.keep f48 K47
  have f50 := Fld.ext E38 f35
  have f51 := Fld.keep f50 K47 (own_nin1 (own_ne_ge (x := a30) (y := a37) la30 (own_ge_eq qa37)))
  have f52 := Fld.ext E38 f34
  have f53 := Fld.keep f52 K47 (own_nin1 (own_ne_ge (x := a30) (y := a37) la30 (own_ge_eq qa37)))
  refine oGo.invokespecial (pc' := 99) (k' := 6) (n' := 52) (a := a30) (argsL := [.ref a37]) (rest := [.ref a30]) at_96 rfl rfl (w4 hG) (w5 hG) (w2 hG) (w6 hG) (by decide) pd26 rfl rfl rfl (c_strI1 hG a30 a37 [r0, r1] (by simp) (by simp) (by intro c hc; simp only [List.mem_cons, List.not_mem_nil, or_false] at hc; rcases hc with rfl | rfl <;> first | decide | assumption) _ _ _ A46 f49 f51 f53) (by simp) (by decide) (Nat.le_of_ble_eq_true rfl) rfl rfl (by decide) (by decide) ?_
  intro v54 h55 sh55 q56
  obtain ⟨rfl, KR, tR, SR⟩ := q56
  have lxR := own_ltN SR.1.lt
  have ltR := own_ltN SR.2.2.2.1.lt
  refine ⟨_, fun _ hx => Or.inl hx, ?_⟩
  show oGo l Z a0 EL True pP eE sS mM _ bB tT cC _ _ _ _ _ _ _ _ [a37, a30, a9, a2] h55 6 52 99 #[.val (.int i0), .val (.int i1), .val (.int i2), .val (.int i3), .val (.int p0), .val (.int p1), .val (.int v0), .val (.int v1), .val (.int r0), .val (.int r1), .val (.ref a2), .unset, .unset, .unset, .unset, .unset, .unset] [.ref a30]
  refine oGo.astore (pc' := 101) (Ls' := #[.val (.int i0), .val (.int i1), .val (.int i2), .val (.int i3), .val (.int p0), .val (.int p1), .val (.int v0), .val (.int v1), .val (.int r0), .val (.int r1), .val (.ref a2), .val (.ref a30), .unset, .unset, .unset, .unset, .unset]) at_99 rfl rfl rfl ?_
  refine oGo.iload_n (pc' := 102) at_101 rfl rfl ?_
  refine oGo.iconst (pc' := 103) (v := 3) at_102 rfl (by decide) ?_
  refine oGo.iand (pc' := 104) at_103 rfl ?_
  refine oGo.istore (pc' := 106) (Ls' := #[.val (.int i0), .val (.int i1), .val (.int i2), .val (.int i3), .val (.int p0), .val (.int p1), .val (.int v0), .val (.int v1), .val (.int r0), .val (.int r1), .val (.ref a2), .val (.ref a30), .val (.int (i3 &&& (3 : Int32))), .unset, .unset, .unset, .unset]) at_104 rfl rfl ?_
  refine oGo.iload (pc' := 108) at_106 rfl rfl ?_
  refine oGo.if_ne (pc1 := 111) (pc2 := 219) at_108 rfl (by decide) (fun q1 => ?_) (fun q1 => ?_)
  · refine oGo.iload (pc' := 221) at_219 rfl rfl ?_
    refine oGo.iconst (pc' := 222) (v := 1) at_221 rfl (by decide) ?_
    refine oGo.icmp_ne (pc1 := 225) (pc2 := 298) at_222 rfl (by decide) (fun q2 => ?_) (fun q2 => ?_)
    · refine oGo.new (pc' := 301) (k' := 7) (n' := 56) at_298 rfl (w0 hG) (w1 hG) (w2 hG) rfl rfl (by decide) (by decide) ?_
      intro h57 a58 qa58 la58 E59 X60 F61
      have f62 := F61 (Or.inr (w27 hG)) (ty := .byte) (by decide)
      have f63 := F61 (Or.inr (w29 hG)) (ty := (.array .byte)) (by decide)
      refine oGo.dup (pc' := 302) at_301 rfl rfl ?_
      refine oGo.iconst (pc' := 303) (v := 2) at_302 rfl (by decide) ?_
      refine oGo.newarray (pc' := 305) (k' := 8) (n' := 58) (i := 2) at_303 rfl (w3 hG) rfl 2 (by decide) (by decide) rfl rfl (by decide) (by decide) (by decide) ?_
      intro h64 a65 qa65 la65 E66 A67'
      have A67 : oArr Z h64 a65 .char (List.replicate (2) (.int 0)) := A67'
      refine oGo.dup (pc' := 306) at_305 rfl rfl ?_
      refine oGo.iconst (pc' := 307) (v := 0) at_306 rfl (by decide) ?_
      refine oGo.iload (pc' := 309) at_307 rfl rfl ?_
      refine oGo.castore (pc' := 310) (i := 0) (w := v0) at_309 rfl A67 rfl (by simp) (nar_char bv0.1 (own_255 bv0.2)) (by simp) ?_
      intro h68 W69 sh68 A70
      refine oGo.dup (pc' := 311) at_310 rfl rfl ?_
      refine oGo.iconst (pc' := 312) (v := 1) at_311 rfl (by decide) ?_
      refine oGo.iload (pc' := 314) at_312 rfl rfl ?_
      refine oGo.castore (pc' := 315) (i := 1) (w := v1) at_314 rfl A70 rfl (by simp) (nar_char bv1.1 (own_255 bv1.2)) (by simp) ?_
      intro h71 W72 sh71 A73
      have A74 : oArr Z h71 a65 .char (oI [v0, v1]) := A73
      have K75 : Keep h64 h71 [a65] := (((Keep.refl h64 [a65]).wr W69 (Or.inl (by simp))).wr W72 (Or.inl (by simp)))
      have f76 := Exa.ext E66 X60
      have f77 := Exa.keep f76 K75
      have f78 := Fld.ext E66 f63
      have f79 := Fld.keep f78 K75 (own_nin1 (own_ne_ge (x := a58) (y := a65) la58 (own_ge_eq qa65)))
      have f80 := Fld.ext E66 f62
      have f81 := Fld.keep f80 K75 (own_nin1 (own_ne_ge (x := a58) (y := a65) la58 (own_ge_eq qa65)))
      refine oGo.invokespecial (pc' := 318) (k' := 9) (n' := 78) (a := a58) (argsL := [.ref a65]) (rest := [.ref a58]) at_315 rfl rfl (w4 hG) (w5 hG) (w2 hG) (w6 hG) (by decide) pd26 rfl rfl rfl (c_strI1 hG a58 a65 [v0, v1] (by simp) (by simp) (by intro c hc; simp only [List.mem_cons, List.not_mem_nil, or_false] at hc; rcases hc with rfl | rfl <;> first | decide | assumption) _ _ _ A74 f77 f79 f81) (by simp) (by decide) (Nat.le_of_ble_eq_true rfl) rfl rfl (by decide) (by decide) ?_
      intro v82 h83 sh83 q84
      obtain ⟨rfl, KV, tV, SV⟩ := q84
      have lxV := own_ltN SV.1.lt
      have ltV := own_ltN SV.2.2.2.1.lt
      refine ⟨_, fun _ hx => Or.inl hx, ?_⟩
      show oGo l Z a0 EL True pP eE sS mM _ bB tT cC _ _ _ _ _ _ _ _ [a65, a58, a37, a30, a9, a2] h83 9 78 318 #[.val (.int i0), .val (.int i1), .val (.int i2), .val (.int i3), .val (.int p0), .val (.int p1), .val (.int v0), .val (.int v1), .val (.int r0), .val (.int r1), .val (.ref a2), .val (.ref a30), .val (.int (i3 &&& (3 : Int32))), .unset, .unset, .unset, .unset] [.ref a58]
      refine oGo.astore (pc' := 320) (Ls' := #[.val (.int i0), .val (.int i1), .val (.int i2), .val (.int i3), .val (.int p0), .val (.int p1), .val (.int v0), .val (.int v1), .val (.int r0), .val (.int r1), .val (.ref a2), .val (.ref a30), .val (.int (i3 &&& (3 : Int32))), .val (.ref a58), .unset, .unset, .unset]) at_318 rfl rfl rfl ?_
      refine oGo.bipush (pc' := 322) (v := 13) at_320 rfl (by decide) ?_
      refine oGo.newarray (pc' := 324) (k' := 10) (n' := 91) (i := 13) at_322 rfl (w3 hG) rfl 13 (by decide) (by decide) rfl rfl (by decide) (by decide) (by decide) ?_
      intro h85 a86 qa86 la86 E87 A88'
      have A88 : oArr Z h85 a86 .char (List.replicate (13) (.int 0)) := A88'
      refine oGo.dup (pc' := 325) at_324 rfl rfl ?_
      refine oGo.iconst (pc' := 326) (v := 0) at_325 rfl (by decide) ?_
      refine oGo.iload (pc' := 328) at_326 rfl rfl ?_
      refine oGo.castore (pc' := 329) (i := 0) (w := p0) at_328 rfl A88 rfl (by simp) (nar_char bp0.1 (own_255 bp0.2)) (by simp) ?_
      intro h89 W90 sh89 A91
      refine oGo.dup (pc' := 330) at_329 rfl rfl ?_
      refine oGo.iconst (pc' := 331) (v := 1) at_330 rfl (by decide) ?_
      refine oGo.iload (pc' := 333) at_331 rfl rfl ?_
      refine oGo.castore (pc' := 334) (i := 1) (w := p1) at_333 rfl A91 rfl (by simp) (nar_char bp1.1 (own_255 bp1.2)) (by simp) ?_
      intro h92 W93 sh92 A94
      refine oGo.dup (pc' := 335) at_334 rfl rfl ?_
      refine oGo.iconst (pc' := 336) (v := 2) at_335 rfl (by decide) ?_
      refine oGo.bipush (pc' := 338) (v := 32) at_336 rfl (by decide) ?_
      refine oGo.castore (pc' := 339) (i := 2) (w := (32 : Int32)) at_338 rfl A94 rfl (by simp) (by decide) (by simp) ?_
      intro h95 W96 sh95 A97
      refine oGo.dup (pc' := 340) at_339 rfl rfl ?_
      refine oGo.iconst (pc' := 341) (v := 3) at_340 rfl (by decide) ?_
      refine oGo.bipush (pc' := 343) (v := 61) at_341 rfl (by decide) ?_
      refine oGo.castore (pc' := 344) (i := 3) (w := (61 : Int32)) at_343 rfl A97 rfl (by simp) (by decide) (by simp) ?_
      intro h98 W99 sh98 A100
      refine oGo.dup (pc' := 345) at_344 rfl rfl ?_
      refine oGo.iconst (pc' := 346) (v := 4) at_345 rfl (by decide) ?_
      refine oGo.bipush (pc' := 348) (v := 32) at_346 rfl (by decide) ?_
      refine oGo.castore (pc' := 349) (i := 4) (w := (32 : Int32)) at_348 rfl A100 rfl (by simp) (by decide) (by simp) ?_
      intro h101 W102 sh101 A103
      refine oGo.dup (pc' := 350) at_349 rfl rfl ?_
      refine oGo.iconst (pc' := 351) (v := 5) at_350 rfl (by decide) ?_
      refine oGo.bipush (pc' := 353) (v := 39) at_351 rfl (by decide) ?_
      refine oGo.castore (pc' := 354) (i := 5) (w := (39 : Int32)) at_353 rfl A103 rfl (by simp) (by decide) (by simp) ?_
      intro h104 W105 sh104 A106
      refine oGo.dup (pc' := 355) at_354 rfl rfl ?_
      refine oGo.bipush (pc' := 357) (v := 6) at_355 rfl (by decide) ?_
      refine oGo.iload (pc' := 359) at_357 rfl rfl ?_
      refine oGo.castore (pc' := 360) (i := 6) (w := v0) at_359 rfl A106 rfl (by simp) (nar_char bv0.1 (own_255 bv0.2)) (by simp) ?_
      intro h107 W108 sh107 A109
      refine oGo.dup (pc' := 361) at_360 rfl rfl ?_
      refine oGo.bipush (pc' := 363) (v := 7) at_361 rfl (by decide) ?_
      refine oGo.iload (pc' := 365) at_363 rfl rfl ?_
      refine oGo.castore (pc' := 366) (i := 7) (w := v1) at_365 rfl A109 rfl (by simp) (nar_char bv1.1 (own_255 bv1.2)) (by simp) ?_
      intro h110 W111 sh110 A112
      refine oGo.dup (pc' := 367) at_366 rfl rfl ?_
      refine oGo.bipush (pc' := 369) (v := 8) at_367 rfl (by decide) ?_
      refine oGo.bipush (pc' := 371) (v := 39) at_369 rfl (by decide) ?_
      refine oGo.castore (pc' := 372) (i := 8) (w := (39 : Int32)) at_371 rfl A112 rfl (by simp) (by decide) (by simp) ?_
      intro h113 W114 sh113 A115
      refine oGo.dup (pc' := 373) at_372 rfl rfl ?_
      refine oGo.bipush (pc' := 375) (v := 9) at_373 rfl (by decide) ?_
      refine oGo.bipush (pc' := 377) (v := 58) at_375 rfl (by decide) ?_
      refine oGo.castore (pc' := 378) (i := 9) (w := (58 : Int32)) at_377 rfl A115 rfl (by simp) (by decide) (by simp) ?_
      intro h116 W117 sh116 A118
      refine oGo.dup (pc' := 379) at_378 rfl rfl ?_
      refine oGo.bipush (pc' := 381) (v := 10) at_379 rfl (by decide) ?_
      refine oGo.bipush (pc' := 383) (v := 32) at_381 rfl (by decide) ?_
      refine oGo.castore (pc' := 384) (i := 10) (w := (32 : Int32)) at_383 rfl A118 rfl (by simp) (by decide) (by simp) ?_
      intro h119 W120 sh119 A121
      refine oGo.dup (pc' := 385) at_384 rfl rfl ?_
      refine oGo.bipush (pc' := 387) (v := 11) at_385 rfl (by decide) ?_
      refine oGo.iload (pc' := 389) at_387 rfl rfl ?_
      refine oGo.castore (pc' := 390) (i := 11) (w := r0) at_389 rfl A121 rfl (by simp) (nar_char br0.1 (own_255 br0.2)) (by simp) ?_
      intro h122 W123 sh122 A124
      refine oGo.dup (pc' := 391) at_390 rfl rfl ?_
      refine oGo.bipush (pc' := 393) (v := 12) at_391 rfl (by decide) ?_
      refine oGo.iload (pc' := 395) at_393 rfl rfl ?_
      refine oGo.castore (pc' := 396) (i := 12) (w := r1) at_395 rfl A124 rfl (by simp) (nar_char br1.1 (own_255 br1.2)) (by simp) ?_
      intro h125 W126 sh125 A127
      refine oGo.astore (pc' := 398) (Ls' := #[.val (.int i0), .val (.int i1), .val (.int i2), .val (.int i3), .val (.int p0), .val (.int p1), .val (.int v0), .val (.int v1), .val (.int r0), .val (.int r1), .val (.ref a2), .val (.ref a30), .val (.int (i3 &&& (3 : Int32))), .val (.ref a58), .val (.ref a86), .unset, .unset]) at_396 rfl rfl rfl ?_
      refine oGo.new (pc' := 401) (k' := 11) (n' := 95) at_398 rfl (w0 hG) (w1 hG) (w2 hG) rfl rfl (by decide) (by decide) ?_
      intro h128 a129 qa129 la129 E130 X131 F132
      have f133 := F132 (Or.inr (w27 hG)) (ty := .byte) (by decide)
      have f134 := F132 (Or.inr (w29 hG)) (ty := (.array .byte)) (by decide)
      refine oGo.dup (pc' := 402) at_401 rfl rfl ?_
      refine oGo.aload (pc' := 404) at_402 rfl rfl rfl ?_
      have f135 := oArr.ext E130 A127
      have A136 : oArr Z h128 a86 .char (oI [p0, p1, (32 : Int32), (61 : Int32), (32 : Int32), (39 : Int32), v0, v1, (39 : Int32), (58 : Int32), (32 : Int32), r0, r1]) := f135
      refine oGo.invokespecial (pc' := 407) (k' := 12) (n' := 115) (a := a129) (argsL := [.ref a86]) (rest := [.ref a129]) at_404 rfl rfl (w4 hG) (w5 hG) (w2 hG) (w6 hG) (by decide) pd26 rfl rfl rfl (c_strI1 hG a129 a86 [p0, p1, (32 : Int32), (61 : Int32), (32 : Int32), (39 : Int32), v0, v1, (39 : Int32), (58 : Int32), (32 : Int32), r0, r1] (by simp) (by simp) (by intro c hc; simp only [List.mem_cons, List.not_mem_nil, or_false] at hc; rcases hc with rfl | rfl | rfl | rfl | rfl | rfl | rfl | rfl | rfl | rfl | rfl | rfl | rfl <;> first | decide | assumption) _ _ _ A136 X131 f134 f133) (by simp) (by decide) (Nat.le_of_ble_eq_true rfl) rfl rfl (by decide) (by decide) ?_
      intro v137 h138 sh138 q139
      obtain ⟨rfl, KX, tX, SX⟩ := q139
      have lxX := own_ltN SX.1.lt
      have ltX := own_ltN SX.2.2.2.1.lt
      refine ⟨_, fun _ hx => Or.inl hx, ?_⟩
      show oGo l Z a0 EL True pP eE sS mM _ bB tT cC _ _ _ _ _ _ _ _ [a129, a86, a65, a58, a37, a30, a9, a2] h138 12 115 407 #[.val (.int i0), .val (.int i1), .val (.int i2), .val (.int i3), .val (.int p0), .val (.int p1), .val (.int v0), .val (.int v1), .val (.int r0), .val (.int r1), .val (.ref a2), .val (.ref a30), .val (.int (i3 &&& (3 : Int32))), .val (.ref a58), .val (.ref a86), .unset, .unset] [.ref a129]
      refine oGo.astore (pc' := 409) (Ls' := #[.val (.int i0), .val (.int i1), .val (.int i2), .val (.int i3), .val (.int p0), .val (.int p1), .val (.int v0), .val (.int v1), .val (.int r0), .val (.int r1), .val (.ref a2), .val (.ref a30), .val (.int (i3 &&& (3 : Int32))), .val (.ref a58), .val (.ref a86), .val (.ref a129), .unset]) at_407 rfl rfl rfl ?_
      refine oGo.new (pc' := 412) (k' := 13) (n' := 118) at_409 rfl (w33 hG) (w34 hG) (w35 hG) rfl rfl (by decide) (by decide) ?_
      intro h140 a141 qa141 la141 E142 X143 F144
      have f145 := F144 (Or.inr (w47 hG)) (ty := (.object "java/lang/String")) (by decide)
      have f146 := F144 (Or.inr (w49 hG)) (ty := (.object "java/lang/String")) (by decide)
      have f147 := F144 (Or.inr (w52 hG)) (ty := (.object "java/lang/String")) (by decide)
      refine oGo.dup (pc' := 413) at_412 rfl rfl ?_
      refine oGo.aload (pc' := 415) at_413 rfl rfl rfl ?_
      refine oGo.aload (pc' := 417) at_415 rfl rfl rfl ?_
      refine oGo.aload (pc' := 419) at_417 rfl rfl rfl ?_
      have f148 := Exa.ext E31 SP.1
      have f149 := Exa.ext E38 f148
      have f150 := Exa.keep f149 K47
      have f151 := Exa.keep f150 KR
      have f152 := Exa.ext E59 f151
      have f153 := Exa.ext E66 f152
      have f154 := Exa.keep f153 K75
      have f155 := Exa.keep f154 KV
      have f156 := Exa.ext E87 f155
      have f157 := Exa.wr W90 f156
      have f158 := Exa.wr W93 f157
      have f159 := Exa.wr W96 f158
      have f160 := Exa.wr W99 f159
      have f161 := Exa.wr W102 f160
      have f162 := Exa.wr W105 f161
      have f163 := Exa.wr W108 f162
      have f164 := Exa.wr W111 f163
      have f165 := Exa.wr W114 f164
      have f166 := Exa.wr W117 f165
      have f167 := Exa.wr W120 f166
      have f168 := Exa.wr W123 f167
      have f169 := Exa.wr W126 f168
      have f170 := Exa.ext E130 f169
      have f171 := Exa.keep f170 KX
      have f172 := Exa.ext E142 f171
      have f173 := Exa.ext E59 SR.1
      have f174 := Exa.ext E66 f173
      have f175 := Exa.keep f174 K75
      have f176 := Exa.keep f175 KV
      have f177 := Exa.ext E87 f176
      have f178 := Exa.wr W90 f177
      have f179 := Exa.wr W93 f178
      have f180 := Exa.wr W96 f179
      have f181 := Exa.wr W99 f180
      have f182 := Exa.wr W102 f181
      have f183 := Exa.wr W105 f182
      have f184 := Exa.wr W108 f183
      have f185 := Exa.wr W111 f184
      have f186 := Exa.wr W114 f185
      have f187 := Exa.wr W117 f186
      have f188 := Exa.wr W120 f187
      have f189 := Exa.wr W123 f188
      have f190 := Exa.wr W126 f189
      have f191 := Exa.ext E130 f190
      have f192 := Exa.keep f191 KX
      have f193 := Exa.ext E142 f192
      refine oGo.invokespecial (pc' := 422) (k' := 17) (n' := 182) (a := a141) (argsL := [.ref a2, .ref a58, .ref a30]) (rest := [.ref a141]) at_419 rfl rfl (w36 hG) (w37 hG) (w35 hG) (w38 hG) (by decide) pd27 rfl rfl rfl (c_bp hG a141 a2 a30 (.ref a58) rfl _ X143 f172 f193 f145 f146 f147) (by simp) (by decide) (Nat.le_of_ble_eq_true rfl) rfl rfl (by decide) (by decide) ?_
      intro v194 h195 sh195 q196
      obtain ⟨rfl, KB, EB, G1, G2, G3⟩ := q196
      refine ⟨_, fun _ hx => Or.inl hx, ?_⟩
      show oGo l Z a0 EL True pP eE sS mM _ bB tT cC _ _ _ _ _ _ _ _ [a141, a129, a86, a65, a58, a37, a30, a9, a2] h195 17 182 422 #[.val (.int i0), .val (.int i1), .val (.int i2), .val (.int i3), .val (.int p0), .val (.int p1), .val (.int v0), .val (.int v1), .val (.int r0), .val (.int r1), .val (.ref a2), .val (.ref a30), .val (.int (i3 &&& (3 : Int32))), .val (.ref a58), .val (.ref a86), .val (.ref a129), .unset] [.ref a141]
      refine oGo.astore (pc' := 424) (Ls' := #[.val (.int i0), .val (.int i1), .val (.int i2), .val (.int i3), .val (.int p0), .val (.int p1), .val (.int v0), .val (.int v1), .val (.int r0), .val (.int r1), .val (.ref a2), .val (.ref a30), .val (.int (i3 &&& (3 : Int32))), .val (.ref a58), .val (.ref a86), .val (.ref a129), .val (.ref a141)]) at_422 rfl rfl rfl ?_
      refine oGo.aload (pc' := 426) at_424 rfl rfl rfl ?_
      refine oGo.aload (pc' := 428) at_426 rfl rfl rfl ?_
      have f197 := SP.ext E31
      have f198 := f197.ext E38
      have g200 := own_lt_le (x := a2) la2 E10.1
      have g201 := own_lt_le (x := a2) g200 K19.1
      have g202 := own_lt_le (x := a2) g201 KP.1
      have g203 := own_lt_le (x := a2) g202 E31.1
      have g204 := own_lt_le (x := tP) ltP E31.1
      have f199 := f198.keep K47 (own_nin1 (own_ne_ge (x := a2) (y := a37) g203 (own_ge_eq qa37))) (own_nin1 (own_ne_ge (x := tP) (y := a37) g204 (own_ge_eq qa37)))
      have f205 := f199.keep KR (own_nin1 (own_ne_ge (x := a2) (y := a30) g202 (own_ge_eq qa30))) (own_nin1 (own_ne_ge (x := tP) (y := a30) ltP (own_ge_eq qa30)))
      have f206 := f205.ext E59
      have f207 := f206.ext E66
      have g209 := own_lt_le (x := a2) g203 E38.1
      have g210 := own_lt_le (x := a2) g209 K47.1
      have g211 := own_lt_le (x := a2) g210 KR.1
      have g212 := own_lt_le (x := a2) g211 E59.1
      have g213 := own_lt_le (x := tP) g204 E38.1
      have g214 := own_lt_le (x := tP) g213 K47.1
      have g215 := own_lt_le (x := tP) g214 KR.1
      have g216 := own_lt_le (x := tP) g215 E59.1
      have f208 := f207.keep K75 (own_nin1 (own_ne_ge (x := a2) (y := a65) g212 (own_ge_eq qa65))) (own_nin1 (own_ne_ge (x := tP) (y := a65) g216 (own_ge_eq qa65)))
      have f217 := f208.keep KV (own_nin1 (own_ne_ge (x := a2) (y := a58) g211 (own_ge_eq qa58))) (own_nin1 (own_ne_ge (x := tP) (y := a58) g215 (own_ge_eq qa58)))
      have f218 := f217.ext E87
      have g220 := own_lt_le (x := a2) g212 E66.1
      have g221 := own_lt_le (x := a2) g220 K75.1
      have g222 := own_lt_le (x := a2) g221 KV.1
      have g223 := own_lt_le (x := tP) g216 E66.1
      have g224 := own_lt_le (x := tP) g223 K75.1
      have g225 := own_lt_le (x := tP) g224 KV.1
      have f219 := f218.other W90 (own_ne_ge (x := a2) (y := a86) g222 (own_ge_eq qa86)) (own_ne_ge (x := tP) (y := a86) g225 (own_ge_eq qa86))
      have f226 := f219.other W93 (own_ne_ge (x := a2) (y := a86) g222 (own_ge_eq qa86)) (own_ne_ge (x := tP) (y := a86) g225 (own_ge_eq qa86))
      have f227 := f226.other W96 (own_ne_ge (x := a2) (y := a86) g222 (own_ge_eq qa86)) (own_ne_ge (x := tP) (y := a86) g225 (own_ge_eq qa86))
      have f228 := f227.other W99 (own_ne_ge (x := a2) (y := a86) g222 (own_ge_eq qa86)) (own_ne_ge (x := tP) (y := a86) g225 (own_ge_eq qa86))
      have f229 := f228.other W102 (own_ne_ge (x := a2) (y := a86) g222 (own_ge_eq qa86)) (own_ne_ge (x := tP) (y := a86) g225 (own_ge_eq qa86))
      have f230 := f229.other W105 (own_ne_ge (x := a2) (y := a86) g222 (own_ge_eq qa86)) (own_ne_ge (x := tP) (y := a86) g225 (own_ge_eq qa86))
      have f231 := f230.other W108 (own_ne_ge (x := a2) (y := a86) g222 (own_ge_eq qa86)) (own_ne_ge (x := tP) (y := a86) g225 (own_ge_eq qa86))
      have f232 := f231.other W111 (own_ne_ge (x := a2) (y := a86) g222 (own_ge_eq qa86)) (own_ne_ge (x := tP) (y := a86) g225 (own_ge_eq qa86))
      have f233 := f232.other W114 (own_ne_ge (x := a2) (y := a86) g222 (own_ge_eq qa86)) (own_ne_ge (x := tP) (y := a86) g225 (own_ge_eq qa86))
      have f234 := f233.other W117 (own_ne_ge (x := a2) (y := a86) g222 (own_ge_eq qa86)) (own_ne_ge (x := tP) (y := a86) g225 (own_ge_eq qa86))
      have f235 := f234.other W120 (own_ne_ge (x := a2) (y := a86) g222 (own_ge_eq qa86)) (own_ne_ge (x := tP) (y := a86) g225 (own_ge_eq qa86))
      have f236 := f235.other W123 (own_ne_ge (x := a2) (y := a86) g222 (own_ge_eq qa86)) (own_ne_ge (x := tP) (y := a86) g225 (own_ge_eq qa86))
      have f237 := f236.other W126 (own_ne_ge (x := a2) (y := a86) g222 (own_ge_eq qa86)) (own_ne_ge (x := tP) (y := a86) g225 (own_ge_eq qa86))
      have f238 := f237.ext E130
      have g240 := own_lt_le (x := a2) g222 E87.1
      have g241 := own_lt_le (x := a2) g240 (Nat.le_of_eq (Wr.size W90).symm)
      have g242 := own_lt_le (x := a2) g241 (Nat.le_of_eq (Wr.size W93).symm)
      have g243 := own_lt_le (x := a2) g242 (Nat.le_of_eq (Wr.size W96).symm)
      have g244 := own_lt_le (x := a2) g243 (Nat.le_of_eq (Wr.size W99).symm)
      have g245 := own_lt_le (x := a2) g244 (Nat.le_of_eq (Wr.size W102).symm)
      have g246 := own_lt_le (x := a2) g245 (Nat.le_of_eq (Wr.size W105).symm)
      have g247 := own_lt_le (x := a2) g246 (Nat.le_of_eq (Wr.size W108).symm)
      have g248 := own_lt_le (x := a2) g247 (Nat.le_of_eq (Wr.size W111).symm)
      have g249 := own_lt_le (x := a2) g248 (Nat.le_of_eq (Wr.size W114).symm)
      have g250 := own_lt_le (x := a2) g249 (Nat.le_of_eq (Wr.size W117).symm)
      have g251 := own_lt_le (x := a2) g250 (Nat.le_of_eq (Wr.size W120).symm)
      have g252 := own_lt_le (x := a2) g251 (Nat.le_of_eq (Wr.size W123).symm)
      have g253 := own_lt_le (x := a2) g252 (Nat.le_of_eq (Wr.size W126).symm)
      have g254 := own_lt_le (x := tP) g225 E87.1
      have g255 := own_lt_le (x := tP) g254 (Nat.le_of_eq (Wr.size W90).symm)
      have g256 := own_lt_le (x := tP) g255 (Nat.le_of_eq (Wr.size W93).symm)
      have g257 := own_lt_le (x := tP) g256 (Nat.le_of_eq (Wr.size W96).symm)
      have g258 := own_lt_le (x := tP) g257 (Nat.le_of_eq (Wr.size W99).symm)
      have g259 := own_lt_le (x := tP) g258 (Nat.le_of_eq (Wr.size W102).symm)
      have g260 := own_lt_le (x := tP) g259 (Nat.le_of_eq (Wr.size W105).symm)
      have g261 := own_lt_le (x := tP) g260 (Nat.le_of_eq (Wr.size W108).symm)
      have g262 := own_lt_le (x := tP) g261 (Nat.le_of_eq (Wr.size W111).symm)
      have g263 := own_lt_le (x := tP) g262 (Nat.le_of_eq (Wr.size W114).symm)
      have g264 := own_lt_le (x := tP) g263 (Nat.le_of_eq (Wr.size W117).symm)
      have g265 := own_lt_le (x := tP) g264 (Nat.le_of_eq (Wr.size W120).symm)
      have g266 := own_lt_le (x := tP) g265 (Nat.le_of_eq (Wr.size W123).symm)
      have g267 := own_lt_le (x := tP) g266 (Nat.le_of_eq (Wr.size W126).symm)
      have f239 := f238.keep KX (own_nin1 (own_ne_ge (x := a2) (y := a129) g253 (own_ge_eq qa129))) (own_nin1 (own_ne_ge (x := tP) (y := a129) g267 (own_ge_eq qa129)))
      have f268 := f239.ext E142
      have g270 := own_lt_le (x := a2) g253 E130.1
      have g271 := own_lt_le (x := a2) g270 KX.1
      have g272 := own_lt_le (x := tP) g267 E130.1
      have g273 := own_lt_le (x := tP) g272 KX.1
      have f269 := f268.keep KB (own_nin1 (own_ne_ge (x := a2) (y := a141) g271 (own_ge_eq qa141))) (own_nin1 (own_ne_ge (x := tP) (y := a141) g273 (own_ge_eq qa141)))
      have f274 := SR.ext E59
      have f275 := f274.ext E66
      have g277 := own_lt_le (x := a30) la30 E38.1
      have g278 := own_lt_le (x := a30) g277 K47.1
      have g279 := own_lt_le (x := a30) g278 KR.1
      have g280 := own_lt_le (x := a30) g279 E59.1
      have g281 := own_lt_le (x := tR) ltR E59.1
      have f276 := f275.keep K75 (own_nin1 (own_ne_ge (x := a30) (y := a65) g280 (own_ge_eq qa65))) (own_nin1 (own_ne_ge (x := tR) (y := a65) g281 (own_ge_eq qa65)))
      have f282 := f276.keep KV (own_nin1 (own_ne_ge (x := a30) (y := a58) g279 (own_ge_eq qa58))) (own_nin1 (own_ne_ge (x := tR) (y := a58) ltR (own_ge_eq qa58)))
      have f283 := f282.ext E87
      have g285 := own_lt_le (x := a30) g280 E66.1
      have g286 := own_lt_le (x := a30) g285 K75.1
      have g287 := own_lt_le (x := a30) g286 KV.1
      have g288 := own_lt_le (x := tR) g281 E66.1
      have g289 := own_lt_le (x := tR) g288 K75.1
      have g290 := own_lt_le (x := tR) g289 KV.1
      have f284 := f283.other W90 (own_ne_ge (x := a30) (y := a86) g287 (own_ge_eq qa86)) (own_ne_ge (x := tR) (y := a86) g290 (own_ge_eq qa86))
      have f291 := f284.other W93 (own_ne_ge (x := a30) (y := a86) g287 (own_ge_eq qa86)) (own_ne_ge (x := tR) (y := a86) g290 (own_ge_eq qa86))
      have f292 := f291.other W96 (own_ne_ge (x := a30) (y := a86) g287 (own_ge_eq qa86)) (own_ne_ge (x := tR) (y := a86) g290 (own_ge_eq qa86))
      have f293 := f292.other W99 (own_ne_ge (x := a30) (y := a86) g287 (own_ge_eq qa86)) (own_ne_ge (x := tR) (y := a86) g290 (own_ge_eq qa86))
      have f294 := f293.other W102 (own_ne_ge (x := a30) (y := a86) g287 (own_ge_eq qa86)) (own_ne_ge (x := tR) (y := a86) g290 (own_ge_eq qa86))
      have f295 := f294.other W105 (own_ne_ge (x := a30) (y := a86) g287 (own_ge_eq qa86)) (own_ne_ge (x := tR) (y := a86) g290 (own_ge_eq qa86))
      have f296 := f295.other W108 (own_ne_ge (x := a30) (y := a86) g287 (own_ge_eq qa86)) (own_ne_ge (x := tR) (y := a86) g290 (own_ge_eq qa86))
      have f297 := f296.other W111 (own_ne_ge (x := a30) (y := a86) g287 (own_ge_eq qa86)) (own_ne_ge (x := tR) (y := a86) g290 (own_ge_eq qa86))
      have f298 := f297.other W114 (own_ne_ge (x := a30) (y := a86) g287 (own_ge_eq qa86)) (own_ne_ge (x := tR) (y := a86) g290 (own_ge_eq qa86))
      have f299 := f298.other W117 (own_ne_ge (x := a30) (y := a86) g287 (own_ge_eq qa86)) (own_ne_ge (x := tR) (y := a86) g290 (own_ge_eq qa86))
      have f300 := f299.other W120 (own_ne_ge (x := a30) (y := a86) g287 (own_ge_eq qa86)) (own_ne_ge (x := tR) (y := a86) g290 (own_ge_eq qa86))
      have f301 := f300.other W123 (own_ne_ge (x := a30) (y := a86) g287 (own_ge_eq qa86)) (own_ne_ge (x := tR) (y := a86) g290 (own_ge_eq qa86))
      have f302 := f301.other W126 (own_ne_ge (x := a30) (y := a86) g287 (own_ge_eq qa86)) (own_ne_ge (x := tR) (y := a86) g290 (own_ge_eq qa86))
      have f303 := f302.ext E130
      have g305 := own_lt_le (x := a30) g287 E87.1
      have g306 := own_lt_le (x := a30) g305 (Nat.le_of_eq (Wr.size W90).symm)
      have g307 := own_lt_le (x := a30) g306 (Nat.le_of_eq (Wr.size W93).symm)
      have g308 := own_lt_le (x := a30) g307 (Nat.le_of_eq (Wr.size W96).symm)
      have g309 := own_lt_le (x := a30) g308 (Nat.le_of_eq (Wr.size W99).symm)
      have g310 := own_lt_le (x := a30) g309 (Nat.le_of_eq (Wr.size W102).symm)
      have g311 := own_lt_le (x := a30) g310 (Nat.le_of_eq (Wr.size W105).symm)
      have g312 := own_lt_le (x := a30) g311 (Nat.le_of_eq (Wr.size W108).symm)
      have g313 := own_lt_le (x := a30) g312 (Nat.le_of_eq (Wr.size W111).symm)
      have g314 := own_lt_le (x := a30) g313 (Nat.le_of_eq (Wr.size W114).symm)
      have g315 := own_lt_le (x := a30) g314 (Nat.le_of_eq (Wr.size W117).symm)
      have g316 := own_lt_le (x := a30) g315 (Nat.le_of_eq (Wr.size W120).symm)
      have g317 := own_lt_le (x := a30) g316 (Nat.le_of_eq (Wr.size W123).symm)
      have g318 := own_lt_le (x := a30) g317 (Nat.le_of_eq (Wr.size W126).symm)
      have g319 := own_lt_le (x := tR) g290 E87.1
      have g320 := own_lt_le (x := tR) g319 (Nat.le_of_eq (Wr.size W90).symm)
      have g321 := own_lt_le (x := tR) g320 (Nat.le_of_eq (Wr.size W93).symm)
      have g322 := own_lt_le (x := tR) g321 (Nat.le_of_eq (Wr.size W96).symm)
      have g323 := own_lt_le (x := tR) g322 (Nat.le_of_eq (Wr.size W99).symm)
      have g324 := own_lt_le (x := tR) g323 (Nat.le_of_eq (Wr.size W102).symm)
      have g325 := own_lt_le (x := tR) g324 (Nat.le_of_eq (Wr.size W105).symm)
      have g326 := own_lt_le (x := tR) g325 (Nat.le_of_eq (Wr.size W108).symm)
      have g327 := own_lt_le (x := tR) g326 (Nat.le_of_eq (Wr.size W111).symm)
      have g328 := own_lt_le (x := tR) g327 (Nat.le_of_eq (Wr.size W114).symm)
      have g329 := own_lt_le (x := tR) g328 (Nat.le_of_eq (Wr.size W117).symm)
      have g330 := own_lt_le (x := tR) g329 (Nat.le_of_eq (Wr.size W120).symm)
      have g331 := own_lt_le (x := tR) g330 (Nat.le_of_eq (Wr.size W123).symm)
      have g332 := own_lt_le (x := tR) g331 (Nat.le_of_eq (Wr.size W126).symm)
      have f304 := f303.keep KX (own_nin1 (own_ne_ge (x := a30) (y := a129) g318 (own_ge_eq qa129))) (own_nin1 (own_ne_ge (x := tR) (y := a129) g332 (own_ge_eq qa129)))
      have f333 := f304.ext E142
      have g335 := own_lt_le (x := a30) g318 E130.1
      have g336 := own_lt_le (x := a30) g335 KX.1
      have g337 := own_lt_le (x := tR) g332 E130.1
      have g338 := own_lt_le (x := tR) g337 KX.1
      have f334 := f333.keep KB (own_nin1 (own_ne_ge (x := a30) (y := a141) g336 (own_ge_eq qa141))) (own_nin1 (own_ne_ge (x := tR) (y := a141) g338 (own_ge_eq qa141)))
      have f339 := SV.ext E87
      have g341 := own_lt_le (x := a58) la58 E66.1
      have g342 := own_lt_le (x := a58) g341 K75.1
      have g343 := own_lt_le (x := a58) g342 KV.1
      have f340 := f339.other W90 (own_ne_ge (x := a58) (y := a86) g343 (own_ge_eq qa86)) (own_ne_ge (x := tV) (y := a86) ltV (own_ge_eq qa86))
      have f344 := f340.other W93 (own_ne_ge (x := a58) (y := a86) g343 (own_ge_eq qa86)) (own_ne_ge (x := tV) (y := a86) ltV (own_ge_eq qa86))
      have f345 := f344.other W96 (own_ne_ge (x := a58) (y := a86) g343 (own_ge_eq qa86)) (own_ne_ge (x := tV) (y := a86) ltV (own_ge_eq qa86))
      have f346 := f345.other W99 (own_ne_ge (x := a58) (y := a86) g343 (own_ge_eq qa86)) (own_ne_ge (x := tV) (y := a86) ltV (own_ge_eq qa86))
      have f347 := f346.other W102 (own_ne_ge (x := a58) (y := a86) g343 (own_ge_eq qa86)) (own_ne_ge (x := tV) (y := a86) ltV (own_ge_eq qa86))
      have f348 := f347.other W105 (own_ne_ge (x := a58) (y := a86) g343 (own_ge_eq qa86)) (own_ne_ge (x := tV) (y := a86) ltV (own_ge_eq qa86))
      have f349 := f348.other W108 (own_ne_ge (x := a58) (y := a86) g343 (own_ge_eq qa86)) (own_ne_ge (x := tV) (y := a86) ltV (own_ge_eq qa86))
      have f350 := f349.other W111 (own_ne_ge (x := a58) (y := a86) g343 (own_ge_eq qa86)) (own_ne_ge (x := tV) (y := a86) ltV (own_ge_eq qa86))
      have f351 := f350.other W114 (own_ne_ge (x := a58) (y := a86) g343 (own_ge_eq qa86)) (own_ne_ge (x := tV) (y := a86) ltV (own_ge_eq qa86))
      have f352 := f351.other W117 (own_ne_ge (x := a58) (y := a86) g343 (own_ge_eq qa86)) (own_ne_ge (x := tV) (y := a86) ltV (own_ge_eq qa86))
      have f353 := f352.other W120 (own_ne_ge (x := a58) (y := a86) g343 (own_ge_eq qa86)) (own_ne_ge (x := tV) (y := a86) ltV (own_ge_eq qa86))
      have f354 := f353.other W123 (own_ne_ge (x := a58) (y := a86) g343 (own_ge_eq qa86)) (own_ne_ge (x := tV) (y := a86) ltV (own_ge_eq qa86))
      have f355 := f354.other W126 (own_ne_ge (x := a58) (y := a86) g343 (own_ge_eq qa86)) (own_ne_ge (x := tV) (y := a86) ltV (own_ge_eq qa86))
      have f356 := f355.ext E130
      have g358 := own_lt_le (x := a58) g343 E87.1
      have g359 := own_lt_le (x := a58) g358 (Nat.le_of_eq (Wr.size W90).symm)
      have g360 := own_lt_le (x := a58) g359 (Nat.le_of_eq (Wr.size W93).symm)
      have g361 := own_lt_le (x := a58) g360 (Nat.le_of_eq (Wr.size W96).symm)
      have g362 := own_lt_le (x := a58) g361 (Nat.le_of_eq (Wr.size W99).symm)
      have g363 := own_lt_le (x := a58) g362 (Nat.le_of_eq (Wr.size W102).symm)
      have g364 := own_lt_le (x := a58) g363 (Nat.le_of_eq (Wr.size W105).symm)
      have g365 := own_lt_le (x := a58) g364 (Nat.le_of_eq (Wr.size W108).symm)
      have g366 := own_lt_le (x := a58) g365 (Nat.le_of_eq (Wr.size W111).symm)
      have g367 := own_lt_le (x := a58) g366 (Nat.le_of_eq (Wr.size W114).symm)
      have g368 := own_lt_le (x := a58) g367 (Nat.le_of_eq (Wr.size W117).symm)
      have g369 := own_lt_le (x := a58) g368 (Nat.le_of_eq (Wr.size W120).symm)
      have g370 := own_lt_le (x := a58) g369 (Nat.le_of_eq (Wr.size W123).symm)
      have g371 := own_lt_le (x := a58) g370 (Nat.le_of_eq (Wr.size W126).symm)
      have g372 := own_lt_le (x := tV) ltV E87.1
      have g373 := own_lt_le (x := tV) g372 (Nat.le_of_eq (Wr.size W90).symm)
      have g374 := own_lt_le (x := tV) g373 (Nat.le_of_eq (Wr.size W93).symm)
      have g375 := own_lt_le (x := tV) g374 (Nat.le_of_eq (Wr.size W96).symm)
      have g376 := own_lt_le (x := tV) g375 (Nat.le_of_eq (Wr.size W99).symm)
      have g377 := own_lt_le (x := tV) g376 (Nat.le_of_eq (Wr.size W102).symm)
      have g378 := own_lt_le (x := tV) g377 (Nat.le_of_eq (Wr.size W105).symm)
      have g379 := own_lt_le (x := tV) g378 (Nat.le_of_eq (Wr.size W108).symm)
      have g380 := own_lt_le (x := tV) g379 (Nat.le_of_eq (Wr.size W111).symm)
      have g381 := own_lt_le (x := tV) g380 (Nat.le_of_eq (Wr.size W114).symm)
      have g382 := own_lt_le (x := tV) g381 (Nat.le_of_eq (Wr.size W117).symm)
      have g383 := own_lt_le (x := tV) g382 (Nat.le_of_eq (Wr.size W120).symm)
      have g384 := own_lt_le (x := tV) g383 (Nat.le_of_eq (Wr.size W123).symm)
      have g385 := own_lt_le (x := tV) g384 (Nat.le_of_eq (Wr.size W126).symm)
      have f357 := f356.keep KX (own_nin1 (own_ne_ge (x := a58) (y := a129) g371 (own_ge_eq qa129))) (own_nin1 (own_ne_ge (x := tV) (y := a129) g385 (own_ge_eq qa129)))
      have f386 := f357.ext E142
      have g388 := own_lt_le (x := a58) g371 E130.1
      have g389 := own_lt_le (x := a58) g388 KX.1
      have g390 := own_lt_le (x := tV) g385 E130.1
      have g391 := own_lt_le (x := tV) g390 KX.1
      have f387 := f386.keep KB (own_nin1 (own_ne_ge (x := a58) (y := a141) g389 (own_ge_eq qa141))) (own_nin1 (own_ne_ge (x := tV) (y := a141) g391 (own_ge_eq qa141)))
      refine oGo.invokevirtual (pc' := 431) (k' := 41) (n' := 1182) (a := a141) (argsL := []) (rest := [.ref a129]) at_428 rfl (w53 hG) (w54 hG) (w56 hG) (w56 hG) rfl (w55 hG) (w35 hG) (w57 hG) (by decide) pd25 rfl rfl rfl EB (c_ts2 hG a141 a2 tP a30 tR a58 tV p0 p1 r0 r1 v0 v1 bp0 bp1 br0 br1 bv0 bv1 _ G1 G2 G3 f269 f334 f387) (by simp) (by decide) (Nat.le_of_ble_eq_true rfl) rfl rfl (by decide) (by decide) ?_
      intro v392 h393 sh393 q394
      obtain ⟨KT, y, ty, rfl, gy, gty, Sy⟩ := q394
      refine ⟨_, fun _ hx => Or.inl hx, ?_⟩
      show oGo l Z a0 EL True pP eE sS mM _ bB tT cC _ _ _ _ _ _ _ _ [a141, a129, a86, a65, a58, a37, a30, a9, a2] h393 41 1182 431 #[.val (.int i0), .val (.int i1), .val (.int i2), .val (.int i3), .val (.int p0), .val (.int p1), .val (.int v0), .val (.int v1), .val (.int r0), .val (.int r1), .val (.ref a2), .val (.ref a30), .val (.int (i3 &&& (3 : Int32))), .val (.ref a58), .val (.ref a86), .val (.ref a129), .val (.ref a141)] [.ref y, .ref a129]
      have f395 := SX.ext E142
      have g397 := own_lt_le (x := a129) la129 KX.1
      have f396 := f395.keep KB (own_nin1 (own_ne_ge (x := a129) (y := a141) g397 (own_ge_eq qa141))) (own_nin1 (own_ne_ge (x := tX) (y := a141) ltX (own_ge_eq qa141)))
      have f398 := f396.keep KT nin0 nin0
      have g399 := own_lt_le (x := a129) g397 E142.1
      have g400 := own_lt_le (x := a129) g399 KB.1
      have f404 := Exa.ext E142 SX.1
      have f405 := Exa.keep f404 KB
      have f406 := Exa.keep f405 KT
      refine oGo.invokevirtual (pc' := 434) (k' := 41) (n' := 1182) (a := a129) (argsL := [.ref y]) (rest := []) at_431 rfl (w171 hG) (w172 hG) (w174 hG) (w174 hG) rfl (w173 hG) (w2 hG) (w175 hG) (by decide) pd28 rfl rfl rfl f406 (c_equals hG a129 tX y ty [p0, p1, (32 : Int32), (61 : Int32), (32 : Int32), (39 : Int32), v0, v1, (39 : Int32), (58 : Int32), (32 : Int32), r0, r1] (own_ne_ge (x := a129) (y := y) g400 gy) _ f398 Sy) (by simp) (by decide) (Nat.le_of_ble_eq_true rfl) rfl rfl (by decide) (by decide) ?_
      intro v401 h402 sh402 q403
      obtain ⟨rfl, ee⟩ := q403
      obtain rfl := ee.symm
      refine ⟨_, fun _ hx => Or.inl hx, ?_⟩
      show oGo l Z a0 EL True pP eE sS mM _ bB tT cC _ _ _ _ _ _ _ _ [a141, a129, a86, a65, a58, a37, a30, a9, a2] h393 41 1182 434 #[.val (.int i0), .val (.int i1), .val (.int i2), .val (.int i3), .val (.int p0), .val (.int p1), .val (.int v0), .val (.int v1), .val (.int r0), .val (.int r1), .val (.ref a2), .val (.ref a30), .val (.int (i3 &&& (3 : Int32))), .val (.ref a58), .val (.ref a86), .val (.ref a129), .val (.ref a141)] [.int (1 : Int32)]
      exact oGo.nreturn at_434 rfl (by simp) rfl (by decide) (by decide) rfl (fun _ q => q.elim)
    · refine oGo.ldc_str (pc' := 227) (k' := 8) (n' := 56) (vs := oI (([] : List Int32).map lo8)) at_225 rfl trivial (w30 hG) (strAt hG) (hG.2.2.2 _ (by decide)) (by decide) (by decide) rfl rfl (by decide) (by decide) ?_
      intro h407 a408 b409 E410 Xa408 Ca408 Va408 Ba408 la408 lb409 na408
      have S411 : oS Z h407 a408 b409 [] := ⟨Xa408, Va408, Ca408, Ba408, by decide⟩
      refine oGo.astore (pc' := 229) (Ls' := #[.val (.int i0), .val (.int i1), .val (.int i2), .val (.int i3), .val (.int p0), .val (.int p1), .val (.int v0), .val (.int v1), .val (.int r0), .val (.int r1), .val (.ref a2), .val (.ref a30), .val (.int (i3 &&& (3 : Int32))), .val (.ref a408), .unset, .unset, .unset]) at_227 rfl rfl rfl ?_
      refine oGo.bipush (pc' := 231) (v := 11) at_229 rfl (by decide) ?_
      refine oGo.newarray (pc' := 233) (k' := 9) (n' := 67) (i := 11) at_231 rfl (w3 hG) rfl 11 (by decide) (by decide) rfl rfl (by decide) (by decide) (by decide) ?_
      intro h412 a413 qa413 la413 E414 A415'
      have A415 : oArr Z h412 a413 .char (List.replicate (11) (.int 0)) := A415'
      refine oGo.dup (pc' := 234) at_233 rfl rfl ?_
      refine oGo.iconst (pc' := 235) (v := 0) at_234 rfl (by decide) ?_
      refine oGo.iload (pc' := 237) at_235 rfl rfl ?_
      refine oGo.castore (pc' := 238) (i := 0) (w := p0) at_237 rfl A415 rfl (by simp) (nar_char bp0.1 (own_255 bp0.2)) (by simp) ?_
      intro h416 W417 sh416 A418
      refine oGo.dup (pc' := 239) at_238 rfl rfl ?_
      refine oGo.iconst (pc' := 240) (v := 1) at_239 rfl (by decide) ?_
      refine oGo.iload (pc' := 242) at_240 rfl rfl ?_
      refine oGo.castore (pc' := 243) (i := 1) (w := p1) at_242 rfl A418 rfl (by simp) (nar_char bp1.1 (own_255 bp1.2)) (by simp) ?_
      intro h419 W420 sh419 A421
      refine oGo.dup (pc' := 244) at_243 rfl rfl ?_
      refine oGo.iconst (pc' := 245) (v := 2) at_244 rfl (by decide) ?_
      refine oGo.bipush (pc' := 247) (v := 32) at_245 rfl (by decide) ?_
      refine oGo.castore (pc' := 248) (i := 2) (w := (32 : Int32)) at_247 rfl A421 rfl (by simp) (by decide) (by simp) ?_
      intro h422 W423 sh422 A424
      refine oGo.dup (pc' := 249) at_248 rfl rfl ?_
      refine oGo.iconst (pc' := 250) (v := 3) at_249 rfl (by decide) ?_
      refine oGo.bipush (pc' := 252) (v := 61) at_250 rfl (by decide) ?_
      refine oGo.castore (pc' := 253) (i := 3) (w := (61 : Int32)) at_252 rfl A424 rfl (by simp) (by decide) (by simp) ?_
      intro h425 W426 sh425 A427
      refine oGo.dup (pc' := 254) at_253 rfl rfl ?_
      refine oGo.iconst (pc' := 255) (v := 4) at_254 rfl (by decide) ?_
      refine oGo.bipush (pc' := 257) (v := 32) at_255 rfl (by decide) ?_
      refine oGo.castore (pc' := 258) (i := 4) (w := (32 : Int32)) at_257 rfl A427 rfl (by simp) (by decide) (by simp) ?_
      intro h428 W429 sh428 A430
      refine oGo.dup (pc' := 259) at_258 rfl rfl ?_
      refine oGo.iconst (pc' := 260) (v := 5) at_259 rfl (by decide) ?_
      refine oGo.bipush (pc' := 262) (v := 39) at_260 rfl (by decide) ?_
      refine oGo.castore (pc' := 263) (i := 5) (w := (39 : Int32)) at_262 rfl A430 rfl (by simp) (by decide) (by simp) ?_
      intro h431 W432 sh431 A433
      refine oGo.dup (pc' := 264) at_263 rfl rfl ?_
      refine oGo.bipush (pc' := 266) (v := 6) at_264 rfl (by decide) ?_
      refine oGo.bipush (pc' := 268) (v := 39) at_266 rfl (by decide) ?_
      refine oGo.castore (pc' := 269) (i := 6) (w := (39 : Int32)) at_268 rfl A433 rfl (by simp) (by decide) (by simp) ?_
      intro h434 W435 sh434 A436
      refine oGo.dup (pc' := 270) at_269 rfl rfl ?_
      refine oGo.bipush (pc' := 272) (v := 7) at_270 rfl (by decide) ?_
      refine oGo.bipush (pc' := 274) (v := 58) at_272 rfl (by decide) ?_
      refine oGo.castore (pc' := 275) (i := 7) (w := (58 : Int32)) at_274 rfl A436 rfl (by simp) (by decide) (by simp) ?_
      intro h437 W438 sh437 A439
      refine oGo.dup (pc' := 276) at_275 rfl rfl ?_
      refine oGo.bipush (pc' := 278) (v := 8) at_276 rfl (by decide) ?_
      refine oGo.bipush (pc' := 280) (v := 32) at_278 rfl (by decide) ?_
      refine oGo.castore (pc' := 281) (i := 8) (w := (32 : Int32)) at_280 rfl A439 rfl (by simp) (by decide) (by simp) ?_
      intro h440 W441 sh440 A442
      refine oGo.dup (pc' := 282) at_281 rfl rfl ?_
      refine oGo.bipush (pc' := 284) (v := 9) at_282 rfl (by decide) ?_
      refine oGo.iload (pc' := 286) at_284 rfl rfl ?_
      refine oGo.castore (pc' := 287) (i := 9) (w := r0) at_286 rfl A442 rfl (by simp) (nar_char br0.1 (own_255 br0.2)) (by simp) ?_
      intro h443 W444 sh443 A445
      refine oGo.dup (pc' := 288) at_287 rfl rfl ?_
      refine oGo.bipush (pc' := 290) (v := 10) at_288 rfl (by decide) ?_
      refine oGo.iload (pc' := 292) at_290 rfl rfl ?_
      refine oGo.castore (pc' := 293) (i := 10) (w := r1) at_292 rfl A445 rfl (by simp) (nar_char br1.1 (own_255 br1.2)) (by simp) ?_
      intro h446 W447 sh446 A448
      refine oGo.astore (pc' := 295) (Ls' := #[.val (.int i0), .val (.int i1), .val (.int i2), .val (.int i3), .val (.int p0), .val (.int p1), .val (.int v0), .val (.int v1), .val (.int r0), .val (.int r1), .val (.ref a2), .val (.ref a30), .val (.int (i3 &&& (3 : Int32))), .val (.ref a408), .val (.ref a413), .unset, .unset]) at_293 rfl rfl rfl ?_
      refine oGo.goto (pc' := 398) at_295 (by decide) ?_
      refine oGo.new (pc' := 401) (k' := 10) (n' := 71) at_398 rfl (w0 hG) (w1 hG) (w2 hG) rfl rfl (by decide) (by decide) ?_
      intro h449 a450 qa450 la450 E451 X452 F453
      have f454 := F453 (Or.inr (w27 hG)) (ty := .byte) (by decide)
      have f455 := F453 (Or.inr (w29 hG)) (ty := (.array .byte)) (by decide)
      refine oGo.dup (pc' := 402) at_401 rfl rfl ?_
      refine oGo.aload (pc' := 404) at_402 rfl rfl rfl ?_
      have f456 := oArr.ext E451 A448
      have A457 : oArr Z h449 a413 .char (oI [p0, p1, (32 : Int32), (61 : Int32), (32 : Int32), (39 : Int32), (39 : Int32), (58 : Int32), (32 : Int32), r0, r1]) := f456
      refine oGo.invokespecial (pc' := 407) (k' := 11) (n' := 91) (a := a450) (argsL := [.ref a413]) (rest := [.ref a450]) at_404 rfl rfl (w4 hG) (w5 hG) (w2 hG) (w6 hG) (by decide) pd26 rfl rfl rfl (c_strI1 hG a450 a413 [p0, p1, (32 : Int32), (61 : Int32), (32 : Int32), (39 : Int32), (39 : Int32), (58 : Int32), (32 : Int32), r0, r1] (by simp) (by simp) (by intro c hc; simp only [List.mem_cons, List.not_mem_nil, or_false] at hc; rcases hc with rfl | rfl | rfl | rfl | rfl | rfl | rfl | rfl | rfl | rfl | rfl <;> first | decide | assumption) _ _ _ A457 X452 f455 f454) (by simp) (by decide) (Nat.le_of_ble_eq_true rfl) rfl rfl (by decide) (by decide) ?_
      intro v458 h459 sh459 q460
      obtain ⟨rfl, KX, tX, SX⟩ := q460
      have lxX := own_ltN SX.1.lt
      have ltX := own_ltN SX.2.2.2.1.lt
      refine ⟨_, fun _ hx => Or.inl hx, ?_⟩
      show oGo l Z a0 EL True pP eE sS mM _ bB tT cC _ _ _ _ _ _ _ _ [a450, a413, a37, a30, a9, a2] h459 11 91 407 #[.val (.int i0), .val (.int i1), .val (.int i2), .val (.int i3), .val (.int p0), .val (.int p1), .val (.int v0), .val (.int v1), .val (.int r0), .val (.int r1), .val (.ref a2), .val (.ref a30), .val (.int (i3 &&& (3 : Int32))), .val (.ref a408), .val (.ref a413), .unset, .unset] [.ref a450]
      refine oGo.astore (pc' := 409) (Ls' := #[.val (.int i0), .val (.int i1), .val (.int i2), .val (.int i3), .val (.int p0), .val (.int p1), .val (.int v0), .val (.int v1), .val (.int r0), .val (.int r1), .val (.ref a2), .val (.ref a30), .val (.int (i3 &&& (3 : Int32))), .val (.ref a408), .val (.ref a413), .val (.ref a450), .unset]) at_407 rfl rfl rfl ?_
      refine oGo.new (pc' := 412) (k' := 12) (n' := 94) at_409 rfl (w33 hG) (w34 hG) (w35 hG) rfl rfl (by decide) (by decide) ?_
      intro h461 a462 qa462 la462 E463 X464 F465
      have f466 := F465 (Or.inr (w47 hG)) (ty := (.object "java/lang/String")) (by decide)
      have f467 := F465 (Or.inr (w49 hG)) (ty := (.object "java/lang/String")) (by decide)
      have f468 := F465 (Or.inr (w52 hG)) (ty := (.object "java/lang/String")) (by decide)
      refine oGo.dup (pc' := 413) at_412 rfl rfl ?_
      refine oGo.aload (pc' := 415) at_413 rfl rfl rfl ?_
      refine oGo.aload (pc' := 417) at_415 rfl rfl rfl ?_
      refine oGo.aload (pc' := 419) at_417 rfl rfl rfl ?_
      have f469 := Exa.ext E31 SP.1
      have f470 := Exa.ext E38 f469
      have f471 := Exa.keep f470 K47
      have f472 := Exa.keep f471 KR
      have f473 := Exa.ext E410 f472
      have f474 := Exa.ext E414 f473
      have f475 := Exa.wr W417 f474
      have f476 := Exa.wr W420 f475
      have f477 := Exa.wr W423 f476
      have f478 := Exa.wr W426 f477
      have f479 := Exa.wr W429 f478
      have f480 := Exa.wr W432 f479
      have f481 := Exa.wr W435 f480
      have f482 := Exa.wr W438 f481
      have f483 := Exa.wr W441 f482
      have f484 := Exa.wr W444 f483
      have f485 := Exa.wr W447 f484
      have f486 := Exa.ext E451 f485
      have f487 := Exa.keep f486 KX
      have f488 := Exa.ext E463 f487
      have f489 := Exa.ext E410 SR.1
      have f490 := Exa.ext E414 f489
      have f491 := Exa.wr W417 f490
      have f492 := Exa.wr W420 f491
      have f493 := Exa.wr W423 f492
      have f494 := Exa.wr W426 f493
      have f495 := Exa.wr W429 f494
      have f496 := Exa.wr W432 f495
      have f497 := Exa.wr W435 f496
      have f498 := Exa.wr W438 f497
      have f499 := Exa.wr W441 f498
      have f500 := Exa.wr W444 f499
      have f501 := Exa.wr W447 f500
      have f502 := Exa.ext E451 f501
      have f503 := Exa.keep f502 KX
      have f504 := Exa.ext E463 f503
      refine oGo.invokespecial (pc' := 422) (k' := 16) (n' := 158) (a := a462) (argsL := [.ref a2, .ref a408, .ref a30]) (rest := [.ref a462]) at_419 rfl rfl (w36 hG) (w37 hG) (w35 hG) (w38 hG) (by decide) pd27 rfl rfl rfl (c_bp hG a462 a2 a30 (.ref a408) rfl _ X464 f488 f504 f466 f467 f468) (by simp) (by decide) (Nat.le_of_ble_eq_true rfl) rfl rfl (by decide) (by decide) ?_
      intro v505 h506 sh506 q507
      obtain ⟨rfl, KB, EB, G1, G2, G3⟩ := q507
      refine ⟨_, fun _ hx => Or.inl hx, ?_⟩
      show oGo l Z a0 EL True pP eE sS mM _ bB tT cC _ _ _ _ _ _ _ _ [a462, a450, a413, a37, a30, a9, a2] h506 16 158 422 #[.val (.int i0), .val (.int i1), .val (.int i2), .val (.int i3), .val (.int p0), .val (.int p1), .val (.int v0), .val (.int v1), .val (.int r0), .val (.int r1), .val (.ref a2), .val (.ref a30), .val (.int (i3 &&& (3 : Int32))), .val (.ref a408), .val (.ref a413), .val (.ref a450), .unset] [.ref a462]
      refine oGo.astore (pc' := 424) (Ls' := #[.val (.int i0), .val (.int i1), .val (.int i2), .val (.int i3), .val (.int p0), .val (.int p1), .val (.int v0), .val (.int v1), .val (.int r0), .val (.int r1), .val (.ref a2), .val (.ref a30), .val (.int (i3 &&& (3 : Int32))), .val (.ref a408), .val (.ref a413), .val (.ref a450), .val (.ref a462)]) at_422 rfl rfl rfl ?_
      refine oGo.aload (pc' := 426) at_424 rfl rfl rfl ?_
      refine oGo.aload (pc' := 428) at_426 rfl rfl rfl ?_
      have f508 := SP.ext E31
      have f509 := f508.ext E38
      have g511 := own_lt_le (x := a2) la2 E10.1
      have g512 := own_lt_le (x := a2) g511 K19.1
      have g513 := own_lt_le (x := a2) g512 KP.1
      have g514 := own_lt_le (x := a2) g513 E31.1
      have g515 := own_lt_le (x := tP) ltP E31.1
      have f510 := f509.keep K47 (own_nin1 (own_ne_ge (x := a2) (y := a37) g514 (own_ge_eq qa37))) (own_nin1 (own_ne_ge (x := tP) (y := a37) g515 (own_ge_eq qa37)))
      have f516 := f510.keep KR (own_nin1 (own_ne_ge (x := a2) (y := a30) g513 (own_ge_eq qa30))) (own_nin1 (own_ne_ge (x := tP) (y := a30) ltP (own_ge_eq qa30)))
      have f517 := f516.ext E410
      have f518 := f517.ext E414
      have g520 := own_lt_le (x := a2) g514 E38.1
      have g521 := own_lt_le (x := a2) g520 K47.1
      have g522 := own_lt_le (x := a2) g521 KR.1
      have g523 := own_lt_le (x := a2) g522 E410.1
      have g524 := own_lt_le (x := tP) g515 E38.1
      have g525 := own_lt_le (x := tP) g524 K47.1
      have g526 := own_lt_le (x := tP) g525 KR.1
      have g527 := own_lt_le (x := tP) g526 E410.1
      have f519 := f518.other W417 (own_ne_ge (x := a2) (y := a413) g523 (own_ge_eq qa413)) (own_ne_ge (x := tP) (y := a413) g527 (own_ge_eq qa413))
      have f528 := f519.other W420 (own_ne_ge (x := a2) (y := a413) g523 (own_ge_eq qa413)) (own_ne_ge (x := tP) (y := a413) g527 (own_ge_eq qa413))
      have f529 := f528.other W423 (own_ne_ge (x := a2) (y := a413) g523 (own_ge_eq qa413)) (own_ne_ge (x := tP) (y := a413) g527 (own_ge_eq qa413))
      have f530 := f529.other W426 (own_ne_ge (x := a2) (y := a413) g523 (own_ge_eq qa413)) (own_ne_ge (x := tP) (y := a413) g527 (own_ge_eq qa413))
      have f531 := f530.other W429 (own_ne_ge (x := a2) (y := a413) g523 (own_ge_eq qa413)) (own_ne_ge (x := tP) (y := a413) g527 (own_ge_eq qa413))
      have f532 := f531.other W432 (own_ne_ge (x := a2) (y := a413) g523 (own_ge_eq qa413)) (own_ne_ge (x := tP) (y := a413) g527 (own_ge_eq qa413))
      have f533 := f532.other W435 (own_ne_ge (x := a2) (y := a413) g523 (own_ge_eq qa413)) (own_ne_ge (x := tP) (y := a413) g527 (own_ge_eq qa413))
      have f534 := f533.other W438 (own_ne_ge (x := a2) (y := a413) g523 (own_ge_eq qa413)) (own_ne_ge (x := tP) (y := a413) g527 (own_ge_eq qa413))
      have f535 := f534.other W441 (own_ne_ge (x := a2) (y := a413) g523 (own_ge_eq qa413)) (own_ne_ge (x := tP) (y := a413) g527 (own_ge_eq qa413))
      have f536 := f535.other W444 (own_ne_ge (x := a2) (y := a413) g523 (own_ge_eq qa413)) (own_ne_ge (x := tP) (y := a413) g527 (own_ge_eq qa413))
      have f537 := f536.other W447 (own_ne_ge (x := a2) (y := a413) g523 (own_ge_eq qa413)) (own_ne_ge (x := tP) (y := a413) g527 (own_ge_eq qa413))
      have f538 := f537.ext E451
      have g540 := own_lt_le (x := a2) g523 E414.1
      have g541 := own_lt_le (x := a2) g540 (Nat.le_of_eq (Wr.size W417).symm)
      have g542 := own_lt_le (x := a2) g541 (Nat.le_of_eq (Wr.size W420).symm)
      have g543 := own_lt_le (x := a2) g542 (Nat.le_of_eq (Wr.size W423).symm)
      have g544 := own_lt_le (x := a2) g543 (Nat.le_of_eq (Wr.size W426).symm)
      have g545 := own_lt_le (x := a2) g544 (Nat.le_of_eq (Wr.size W429).symm)
      have g546 := own_lt_le (x := a2) g545 (Nat.le_of_eq (Wr.size W432).symm)
      have g547 := own_lt_le (x := a2) g546 (Nat.le_of_eq (Wr.size W435).symm)
      have g548 := own_lt_le (x := a2) g547 (Nat.le_of_eq (Wr.size W438).symm)
      have g549 := own_lt_le (x := a2) g548 (Nat.le_of_eq (Wr.size W441).symm)
      have g550 := own_lt_le (x := a2) g549 (Nat.le_of_eq (Wr.size W444).symm)
      have g551 := own_lt_le (x := a2) g550 (Nat.le_of_eq (Wr.size W447).symm)
      have g552 := own_lt_le (x := tP) g527 E414.1
      have g553 := own_lt_le (x := tP) g552 (Nat.le_of_eq (Wr.size W417).symm)
      have g554 := own_lt_le (x := tP) g553 (Nat.le_of_eq (Wr.size W420).symm)
      have g555 := own_lt_le (x := tP) g554 (Nat.le_of_eq (Wr.size W423).symm)
      have g556 := own_lt_le (x := tP) g555 (Nat.le_of_eq (Wr.size W426).symm)
      have g557 := own_lt_le (x := tP) g556 (Nat.le_of_eq (Wr.size W429).symm)
      have g558 := own_lt_le (x := tP) g557 (Nat.le_of_eq (Wr.size W432).symm)
      have g559 := own_lt_le (x := tP) g558 (Nat.le_of_eq (Wr.size W435).symm)
      have g560 := own_lt_le (x := tP) g559 (Nat.le_of_eq (Wr.size W438).symm)
      have g561 := own_lt_le (x := tP) g560 (Nat.le_of_eq (Wr.size W441).symm)
      have g562 := own_lt_le (x := tP) g561 (Nat.le_of_eq (Wr.size W444).symm)
      have g563 := own_lt_le (x := tP) g562 (Nat.le_of_eq (Wr.size W447).symm)
      have f539 := f538.keep KX (own_nin1 (own_ne_ge (x := a2) (y := a450) g551 (own_ge_eq qa450))) (own_nin1 (own_ne_ge (x := tP) (y := a450) g563 (own_ge_eq qa450)))
      have f564 := f539.ext E463
      have g566 := own_lt_le (x := a2) g551 E451.1
      have g567 := own_lt_le (x := a2) g566 KX.1
      have g568 := own_lt_le (x := tP) g563 E451.1
      have g569 := own_lt_le (x := tP) g568 KX.1
      have f565 := f564.keep KB (own_nin1 (own_ne_ge (x := a2) (y := a462) g567 (own_ge_eq qa462))) (own_nin1 (own_ne_ge (x := tP) (y := a462) g569 (own_ge_eq qa462)))
      have f570 := SR.ext E410
      have f571 := f570.ext E414
      have g573 := own_lt_le (x := a30) la30 E38.1
      have g574 := own_lt_le (x := a30) g573 K47.1
      have g575 := own_lt_le (x := a30) g574 KR.1
      have g576 := own_lt_le (x := a30) g575 E410.1
      have g577 := own_lt_le (x := tR) ltR E410.1
      have f572 := f571.other W417 (own_ne_ge (x := a30) (y := a413) g576 (own_ge_eq qa413)) (own_ne_ge (x := tR) (y := a413) g577 (own_ge_eq qa413))
      have f578 := f572.other W420 (own_ne_ge (x := a30) (y := a413) g576 (own_ge_eq qa413)) (own_ne_ge (x := tR) (y := a413) g577 (own_ge_eq qa413))
      have f579 := f578.other W423 (own_ne_ge (x := a30) (y := a413) g576 (own_ge_eq qa413)) (own_ne_ge (x := tR) (y := a413) g577 (own_ge_eq qa413))
      have f580 := f579.other W426 (own_ne_ge (x := a30) (y := a413) g576 (own_ge_eq qa413)) (own_ne_ge (x := tR) (y := a413) g577 (own_ge_eq qa413))
      have f581 := f580.other W429 (own_ne_ge (x := a30) (y := a413) g576 (own_ge_eq qa413)) (own_ne_ge (x := tR) (y := a413) g577 (own_ge_eq qa413))
      have f582 := f581.other W432 (own_ne_ge (x := a30) (y := a413) g576 (own_ge_eq qa413)) (own_ne_ge (x := tR) (y := a413) g577 (own_ge_eq qa413))
      have f583 := f582.other W435 (own_ne_ge (x := a30) (y := a413) g576 (own_ge_eq qa413)) (own_ne_ge (x := tR) (y := a413) g577 (own_ge_eq qa413))
      have f584 := f583.other W438 (own_ne_ge (x := a30) (y := a413) g576 (own_ge_eq qa413)) (own_ne_ge (x := tR) (y := a413) g577 (own_ge_eq qa413))
      have f585 := f584.other W441 (own_ne_ge (x := a30) (y := a413) g576 (own_ge_eq qa413)) (own_ne_ge (x := tR) (y := a413) g577 (own_ge_eq qa413))
      have f586 := f585.other W444 (own_ne_ge (x := a30) (y := a413) g576 (own_ge_eq qa413)) (own_ne_ge (x := tR) (y := a413) g577 (own_ge_eq qa413))
      have f587 := f586.other W447 (own_ne_ge (x := a30) (y := a413) g576 (own_ge_eq qa413)) (own_ne_ge (x := tR) (y := a413) g577 (own_ge_eq qa413))
      have f588 := f587.ext E451
      have g590 := own_lt_le (x := a30) g576 E414.1
      have g591 := own_lt_le (x := a30) g590 (Nat.le_of_eq (Wr.size W417).symm)
      have g592 := own_lt_le (x := a30) g591 (Nat.le_of_eq (Wr.size W420).symm)
      have g593 := own_lt_le (x := a30) g592 (Nat.le_of_eq (Wr.size W423).symm)
      have g594 := own_lt_le (x := a30) g593 (Nat.le_of_eq (Wr.size W426).symm)
      have g595 := own_lt_le (x := a30) g594 (Nat.le_of_eq (Wr.size W429).symm)
      have g596 := own_lt_le (x := a30) g595 (Nat.le_of_eq (Wr.size W432).symm)
      have g597 := own_lt_le (x := a30) g596 (Nat.le_of_eq (Wr.size W435).symm)
      have g598 := own_lt_le (x := a30) g597 (Nat.le_of_eq (Wr.size W438).symm)
      have g599 := own_lt_le (x := a30) g598 (Nat.le_of_eq (Wr.size W441).symm)
      have g600 := own_lt_le (x := a30) g599 (Nat.le_of_eq (Wr.size W444).symm)
      have g601 := own_lt_le (x := a30) g600 (Nat.le_of_eq (Wr.size W447).symm)
      have g602 := own_lt_le (x := tR) g577 E414.1
      have g603 := own_lt_le (x := tR) g602 (Nat.le_of_eq (Wr.size W417).symm)
      have g604 := own_lt_le (x := tR) g603 (Nat.le_of_eq (Wr.size W420).symm)
      have g605 := own_lt_le (x := tR) g604 (Nat.le_of_eq (Wr.size W423).symm)
      have g606 := own_lt_le (x := tR) g605 (Nat.le_of_eq (Wr.size W426).symm)
      have g607 := own_lt_le (x := tR) g606 (Nat.le_of_eq (Wr.size W429).symm)
      have g608 := own_lt_le (x := tR) g607 (Nat.le_of_eq (Wr.size W432).symm)
      have g609 := own_lt_le (x := tR) g608 (Nat.le_of_eq (Wr.size W435).symm)
      have g610 := own_lt_le (x := tR) g609 (Nat.le_of_eq (Wr.size W438).symm)
      have g611 := own_lt_le (x := tR) g610 (Nat.le_of_eq (Wr.size W441).symm)
      have g612 := own_lt_le (x := tR) g611 (Nat.le_of_eq (Wr.size W444).symm)
      have g613 := own_lt_le (x := tR) g612 (Nat.le_of_eq (Wr.size W447).symm)
      have f589 := f588.keep KX (own_nin1 (own_ne_ge (x := a30) (y := a450) g601 (own_ge_eq qa450))) (own_nin1 (own_ne_ge (x := tR) (y := a450) g613 (own_ge_eq qa450)))
      have f614 := f589.ext E463
      have g616 := own_lt_le (x := a30) g601 E451.1
      have g617 := own_lt_le (x := a30) g616 KX.1
      have g618 := own_lt_le (x := tR) g613 E451.1
      have g619 := own_lt_le (x := tR) g618 KX.1
      have f615 := f614.keep KB (own_nin1 (own_ne_ge (x := a30) (y := a462) g617 (own_ge_eq qa462))) (own_nin1 (own_ne_ge (x := tR) (y := a462) g619 (own_ge_eq qa462)))
      have f620 := S411.ext E414
      have f621 := f620.other W417 (own_ne_ge (x := a408) (y := a413) la408 (own_ge_eq qa413)) (own_ne_ge (x := b409) (y := a413) lb409 (own_ge_eq qa413))
      have f622 := f621.other W420 (own_ne_ge (x := a408) (y := a413) la408 (own_ge_eq qa413)) (own_ne_ge (x := b409) (y := a413) lb409 (own_ge_eq qa413))
      have f623 := f622.other W423 (own_ne_ge (x := a408) (y := a413) la408 (own_ge_eq qa413)) (own_ne_ge (x := b409) (y := a413) lb409 (own_ge_eq qa413))
      have f624 := f623.other W426 (own_ne_ge (x := a408) (y := a413) la408 (own_ge_eq qa413)) (own_ne_ge (x := b409) (y := a413) lb409 (own_ge_eq qa413))
      have f625 := f624.other W429 (own_ne_ge (x := a408) (y := a413) la408 (own_ge_eq qa413)) (own_ne_ge (x := b409) (y := a413) lb409 (own_ge_eq qa413))
      have f626 := f625.other W432 (own_ne_ge (x := a408) (y := a413) la408 (own_ge_eq qa413)) (own_ne_ge (x := b409) (y := a413) lb409 (own_ge_eq qa413))
      have f627 := f626.other W435 (own_ne_ge (x := a408) (y := a413) la408 (own_ge_eq qa413)) (own_ne_ge (x := b409) (y := a413) lb409 (own_ge_eq qa413))
      have f628 := f627.other W438 (own_ne_ge (x := a408) (y := a413) la408 (own_ge_eq qa413)) (own_ne_ge (x := b409) (y := a413) lb409 (own_ge_eq qa413))
      have f629 := f628.other W441 (own_ne_ge (x := a408) (y := a413) la408 (own_ge_eq qa413)) (own_ne_ge (x := b409) (y := a413) lb409 (own_ge_eq qa413))
      have f630 := f629.other W444 (own_ne_ge (x := a408) (y := a413) la408 (own_ge_eq qa413)) (own_ne_ge (x := b409) (y := a413) lb409 (own_ge_eq qa413))
      have f631 := f630.other W447 (own_ne_ge (x := a408) (y := a413) la408 (own_ge_eq qa413)) (own_ne_ge (x := b409) (y := a413) lb409 (own_ge_eq qa413))
      have f632 := f631.ext E451
      have g634 := own_lt_le (x := a408) la408 E414.1
      have g635 := own_lt_le (x := a408) g634 (Nat.le_of_eq (Wr.size W417).symm)
      have g636 := own_lt_le (x := a408) g635 (Nat.le_of_eq (Wr.size W420).symm)
      have g637 := own_lt_le (x := a408) g636 (Nat.le_of_eq (Wr.size W423).symm)
      have g638 := own_lt_le (x := a408) g637 (Nat.le_of_eq (Wr.size W426).symm)
      have g639 := own_lt_le (x := a408) g638 (Nat.le_of_eq (Wr.size W429).symm)
      have g640 := own_lt_le (x := a408) g639 (Nat.le_of_eq (Wr.size W432).symm)
      have g641 := own_lt_le (x := a408) g640 (Nat.le_of_eq (Wr.size W435).symm)
      have g642 := own_lt_le (x := a408) g641 (Nat.le_of_eq (Wr.size W438).symm)
      have g643 := own_lt_le (x := a408) g642 (Nat.le_of_eq (Wr.size W441).symm)
      have g644 := own_lt_le (x := a408) g643 (Nat.le_of_eq (Wr.size W444).symm)
      have g645 := own_lt_le (x := a408) g644 (Nat.le_of_eq (Wr.size W447).symm)
      have g646 := own_lt_le (x := b409) lb409 E414.1
      have g647 := own_lt_le (x := b409) g646 (Nat.le_of_eq (Wr.size W417).symm)
      have g648 := own_lt_le (x := b409) g647 (Nat.le_of_eq (Wr.size W420).symm)
      have g649 := own_lt_le (x := b409) g648 (Nat.le_of_eq (Wr.size W423).symm)
      have g650 := own_lt_le (x := b409) g649 (Nat.le_of_eq (Wr.size W426).symm)
      have g651 := own_lt_le (x := b409) g650 (Nat.le_of_eq (Wr.size W429).symm)
      have g652 := own_lt_le (x := b409) g651 (Nat.le_of_eq (Wr.size W432).symm)
      have g653 := own_lt_le (x := b409) g652 (Nat.le_of_eq (Wr.size W435).symm)
      have g654 := own_lt_le (x := b409) g653 (Nat.le_of_eq (Wr.size W438).symm)
      have g655 := own_lt_le (x := b409) g654 (Nat.le_of_eq (Wr.size W441).symm)
      have g656 := own_lt_le (x := b409) g655 (Nat.le_of_eq (Wr.size W444).symm)
      have g657 := own_lt_le (x := b409) g656 (Nat.le_of_eq (Wr.size W447).symm)
      have f633 := f632.keep KX (own_nin1 (own_ne_ge (x := a408) (y := a450) g645 (own_ge_eq qa450))) (own_nin1 (own_ne_ge (x := b409) (y := a450) g657 (own_ge_eq qa450)))
      have f658 := f633.ext E463
      have g660 := own_lt_le (x := a408) g645 E451.1
      have g661 := own_lt_le (x := a408) g660 KX.1
      have g662 := own_lt_le (x := b409) g657 E451.1
      have g663 := own_lt_le (x := b409) g662 KX.1
      have f659 := f658.keep KB (own_nin1 (own_ne_ge (x := a408) (y := a462) g661 (own_ge_eq qa462))) (own_nin1 (own_ne_ge (x := b409) (y := a462) g663 (own_ge_eq qa462)))
      refine oGo.invokevirtual (pc' := 431) (k' := 40) (n' := 1158) (a := a462) (argsL := []) (rest := [.ref a450]) at_428 rfl (w53 hG) (w54 hG) (w56 hG) (w56 hG) rfl (w55 hG) (w35 hG) (w57 hG) (by decide) pd25 rfl rfl rfl EB (c_ts0 hG a462 a2 tP a30 tR a408 b409 p0 p1 r0 r1  bp0 bp1 br0 br1  _ G1 G2 G3 f565 f615 f659) (by simp) (by decide) (Nat.le_of_ble_eq_true rfl) rfl rfl (by decide) (by decide) ?_
      intro v664 h665 sh665 q666
      obtain ⟨KT, y, ty, rfl, gy, gty, Sy⟩ := q666
      refine ⟨_, fun _ hx => Or.inl hx, ?_⟩
      show oGo l Z a0 EL True pP eE sS mM _ bB tT cC _ _ _ _ _ _ _ _ [a462, a450, a413, a37, a30, a9, a2] h665 40 1158 431 #[.val (.int i0), .val (.int i1), .val (.int i2), .val (.int i3), .val (.int p0), .val (.int p1), .val (.int v0), .val (.int v1), .val (.int r0), .val (.int r1), .val (.ref a2), .val (.ref a30), .val (.int (i3 &&& (3 : Int32))), .val (.ref a408), .val (.ref a413), .val (.ref a450), .val (.ref a462)] [.ref y, .ref a450]
      have f667 := SX.ext E463
      have g669 := own_lt_le (x := a450) la450 KX.1
      have f668 := f667.keep KB (own_nin1 (own_ne_ge (x := a450) (y := a462) g669 (own_ge_eq qa462))) (own_nin1 (own_ne_ge (x := tX) (y := a462) ltX (own_ge_eq qa462)))
      have f670 := f668.keep KT nin0 nin0
      have g671 := own_lt_le (x := a450) g669 E463.1
      have g672 := own_lt_le (x := a450) g671 KB.1
      have f676 := Exa.ext E463 SX.1
      have f677 := Exa.keep f676 KB
      have f678 := Exa.keep f677 KT
      refine oGo.invokevirtual (pc' := 434) (k' := 40) (n' := 1158) (a := a450) (argsL := [.ref y]) (rest := []) at_431 rfl (w171 hG) (w172 hG) (w174 hG) (w174 hG) rfl (w173 hG) (w2 hG) (w175 hG) (by decide) pd28 rfl rfl rfl f678 (c_equals hG a450 tX y ty [p0, p1, (32 : Int32), (61 : Int32), (32 : Int32), (39 : Int32), (39 : Int32), (58 : Int32), (32 : Int32), r0, r1] (own_ne_ge (x := a450) (y := y) g672 gy) _ f670 Sy) (by simp) (by decide) (Nat.le_of_ble_eq_true rfl) rfl rfl (by decide) (by decide) ?_
      intro v673 h674 sh674 q675
      obtain ⟨rfl, ee⟩ := q675
      obtain rfl := ee.symm
      refine ⟨_, fun _ hx => Or.inl hx, ?_⟩
      show oGo l Z a0 EL True pP eE sS mM _ bB tT cC _ _ _ _ _ _ _ _ [a462, a450, a413, a37, a30, a9, a2] h665 40 1158 434 #[.val (.int i0), .val (.int i1), .val (.int i2), .val (.int i3), .val (.int p0), .val (.int p1), .val (.int v0), .val (.int v1), .val (.int r0), .val (.int r1), .val (.ref a2), .val (.ref a30), .val (.int (i3 &&& (3 : Int32))), .val (.ref a408), .val (.ref a413), .val (.ref a450), .val (.ref a462)] [.int (1 : Int32)]
      exact oGo.nreturn at_434 rfl (by simp) rfl (by decide) (by decide) rfl (fun _ q => q.elim)
  · refine oGo.aconst_null (pc' := 112) at_111 rfl ?_
    refine oGo.astore (pc' := 114) (Ls' := #[.val (.int i0), .val (.int i1), .val (.int i2), .val (.int i3), .val (.int p0), .val (.int p1), .val (.int v0), .val (.int v1), .val (.int r0), .val (.int r1), .val (.ref a2), .val (.ref a30), .val (.int (i3 &&& (3 : Int32))), .val .null, .unset, .unset, .unset]) at_112 rfl rfl rfl ?_
    refine oGo.bipush (pc' := 116) (v := 17) at_114 rfl (by decide) ?_
    refine oGo.newarray (pc' := 118) (k' := 7) (n' := 69) (i := 17) at_116 rfl (w3 hG) rfl 17 (by decide) (by decide) rfl rfl (by decide) (by decide) (by decide) ?_
    intro h679 a680 qa680 la680 E681 A682'
    have A682 : oArr Z h679 a680 .char (List.replicate (17) (.int 0)) := A682'
    refine oGo.dup (pc' := 119) at_118 rfl rfl ?_
    refine oGo.iconst (pc' := 120) (v := 0) at_119 rfl (by decide) ?_
    refine oGo.iload (pc' := 122) at_120 rfl rfl ?_
    refine oGo.castore (pc' := 123) (i := 0) (w := p0) at_122 rfl A682 rfl (by simp) (nar_char bp0.1 (own_255 bp0.2)) (by simp) ?_
    intro h683 W684 sh683 A685
    refine oGo.dup (pc' := 124) at_123 rfl rfl ?_
    refine oGo.iconst (pc' := 125) (v := 1) at_124 rfl (by decide) ?_
    refine oGo.iload (pc' := 127) at_125 rfl rfl ?_
    refine oGo.castore (pc' := 128) (i := 1) (w := p1) at_127 rfl A685 rfl (by simp) (nar_char bp1.1 (own_255 bp1.2)) (by simp) ?_
    intro h686 W687 sh686 A688
    refine oGo.dup (pc' := 129) at_128 rfl rfl ?_
    refine oGo.iconst (pc' := 130) (v := 2) at_129 rfl (by decide) ?_
    refine oGo.bipush (pc' := 132) (v := 32) at_130 rfl (by decide) ?_
    refine oGo.castore (pc' := 133) (i := 2) (w := (32 : Int32)) at_132 rfl A688 rfl (by simp) (by decide) (by simp) ?_
    intro h689 W690 sh689 A691
    refine oGo.dup (pc' := 134) at_133 rfl rfl ?_
    refine oGo.iconst (pc' := 135) (v := 3) at_134 rfl (by decide) ?_
    refine oGo.bipush (pc' := 137) (v := 40) at_135 rfl (by decide) ?_
    refine oGo.castore (pc' := 138) (i := 3) (w := (40 : Int32)) at_137 rfl A691 rfl (by simp) (by decide) (by simp) ?_
    intro h692 W693 sh692 A694
    refine oGo.dup (pc' := 139) at_138 rfl rfl ?_
    refine oGo.iconst (pc' := 140) (v := 4) at_139 rfl (by decide) ?_
    refine oGo.bipush (pc' := 142) (v := 110) at_140 rfl (by decide) ?_
    refine oGo.castore (pc' := 143) (i := 4) (w := (110 : Int32)) at_142 rfl A694 rfl (by simp) (by decide) (by simp) ?_
    intro h695 W696 sh695 A697
    refine oGo.dup (pc' := 144) at_143 rfl rfl ?_
    refine oGo.iconst (pc' := 145) (v := 5) at_144 rfl (by decide) ?_
    refine oGo.bipush (pc' := 147) (v := 111) at_145 rfl (by decide) ?_
    refine oGo.castore (pc' := 148) (i := 5) (w := (111 : Int32)) at_147 rfl A697 rfl (by simp) (by decide) (by simp) ?_
    intro h698 W699 sh698 A700
    refine oGo.dup (pc' := 149) at_148 rfl rfl ?_
    refine oGo.bipush (pc' := 151) (v := 6) at_149 rfl (by decide) ?_
    refine oGo.bipush (pc' := 153) (v := 32) at_151 rfl (by decide) ?_
    refine oGo.castore (pc' := 154) (i := 6) (w := (32 : Int32)) at_153 rfl A700 rfl (by simp) (by decide) (by simp) ?_
    intro h701 W702 sh701 A703
    refine oGo.dup (pc' := 155) at_154 rfl rfl ?_
    refine oGo.bipush (pc' := 157) (v := 7) at_155 rfl (by decide) ?_
    refine oGo.bipush (pc' := 159) (v := 118) at_157 rfl (by decide) ?_
    refine oGo.castore (pc' := 160) (i := 7) (w := (118 : Int32)) at_159 rfl A703 rfl (by simp) (by decide) (by simp) ?_
    intro h704 W705 sh704 A706
    refine oGo.dup (pc' := 161) at_160 rfl rfl ?_
    refine oGo.bipush (pc' := 163) (v := 8) at_161 rfl (by decide) ?_
    refine oGo.bipush (pc' := 165) (v := 97) at_163 rfl (by decide) ?_
    refine oGo.castore (pc' := 166) (i := 8) (w := (97 : Int32)) at_165 rfl A706 rfl (by simp) (by decide) (by simp) ?_
    intro h707 W708 sh707 A709
    refine oGo.dup (pc' := 167) at_166 rfl rfl ?_
    refine oGo.bipush (pc' := 169) (v := 9) at_167 rfl (by decide) ?_
    refine oGo.bipush (pc' := 171) (v := 108) at_169 rfl (by decide) ?_
    refine oGo.castore (pc' := 172) (i := 9) (w := (108 : Int32)) at_171 rfl A709 rfl (by simp) (by decide) (by simp) ?_
    intro h710 W711 sh710 A712
    refine oGo.dup (pc' := 173) at_172 rfl rfl ?_
    refine oGo.bipush (pc' := 175) (v := 10) at_173 rfl (by decide) ?_
    refine oGo.bipush (pc' := 177) (v := 117) at_175 rfl (by decide) ?_
    refine oGo.castore (pc' := 178) (i := 10) (w := (117 : Int32)) at_177 rfl A712 rfl (by simp) (by decide) (by simp) ?_
    intro h713 W714 sh713 A715
    refine oGo.dup (pc' := 179) at_178 rfl rfl ?_
    refine oGo.bipush (pc' := 181) (v := 11) at_179 rfl (by decide) ?_
    refine oGo.bipush (pc' := 183) (v := 101) at_181 rfl (by decide) ?_
    refine oGo.castore (pc' := 184) (i := 11) (w := (101 : Int32)) at_183 rfl A715 rfl (by simp) (by decide) (by simp) ?_
    intro h716 W717 sh716 A718
    refine oGo.dup (pc' := 185) at_184 rfl rfl ?_
    refine oGo.bipush (pc' := 187) (v := 12) at_185 rfl (by decide) ?_
    refine oGo.bipush (pc' := 189) (v := 41) at_187 rfl (by decide) ?_
    refine oGo.castore (pc' := 190) (i := 12) (w := (41 : Int32)) at_189 rfl A718 rfl (by simp) (by decide) (by simp) ?_
    intro h719 W720 sh719 A721
    refine oGo.dup (pc' := 191) at_190 rfl rfl ?_
    refine oGo.bipush (pc' := 193) (v := 13) at_191 rfl (by decide) ?_
    refine oGo.bipush (pc' := 195) (v := 58) at_193 rfl (by decide) ?_
    refine oGo.castore (pc' := 196) (i := 13) (w := (58 : Int32)) at_195 rfl A721 rfl (by simp) (by decide) (by simp) ?_
    intro h722 W723 sh722 A724
    refine oGo.dup (pc' := 197) at_196 rfl rfl ?_
    refine oGo.bipush (pc' := 199) (v := 14) at_197 rfl (by decide) ?_
    refine oGo.bipush (pc' := 201) (v := 32) at_199 rfl (by decide) ?_
    refine oGo.castore (pc' := 202) (i := 14) (w := (32 : Int32)) at_201 rfl A724 rfl (by simp) (by decide) (by simp) ?_
    intro h725 W726 sh725 A727
    refine oGo.dup (pc' := 203) at_202 rfl rfl ?_
    refine oGo.bipush (pc' := 205) (v := 15) at_203 rfl (by decide) ?_
    refine oGo.iload (pc' := 207) at_205 rfl rfl ?_
    refine oGo.castore (pc' := 208) (i := 15) (w := r0) at_207 rfl A727 rfl (by simp) (nar_char br0.1 (own_255 br0.2)) (by simp) ?_
    intro h728 W729 sh728 A730
    refine oGo.dup (pc' := 209) at_208 rfl rfl ?_
    refine oGo.bipush (pc' := 211) (v := 16) at_209 rfl (by decide) ?_
    refine oGo.iload (pc' := 213) at_211 rfl rfl ?_
    refine oGo.castore (pc' := 214) (i := 16) (w := r1) at_213 rfl A730 rfl (by simp) (nar_char br1.1 (own_255 br1.2)) (by simp) ?_
    intro h731 W732 sh731 A733
    refine oGo.astore (pc' := 216) (Ls' := #[.val (.int i0), .val (.int i1), .val (.int i2), .val (.int i3), .val (.int p0), .val (.int p1), .val (.int v0), .val (.int v1), .val (.int r0), .val (.int r1), .val (.ref a2), .val (.ref a30), .val (.int (i3 &&& (3 : Int32))), .val .null, .val (.ref a680), .unset, .unset]) at_214 rfl rfl rfl ?_
    refine oGo.goto (pc' := 398) at_216 (by decide) ?_
    refine oGo.new (pc' := 401) (k' := 8) (n' := 73) at_398 rfl (w0 hG) (w1 hG) (w2 hG) rfl rfl (by decide) (by decide) ?_
    intro h734 a735 qa735 la735 E736 X737 F738
    have f739 := F738 (Or.inr (w27 hG)) (ty := .byte) (by decide)
    have f740 := F738 (Or.inr (w29 hG)) (ty := (.array .byte)) (by decide)
    refine oGo.dup (pc' := 402) at_401 rfl rfl ?_
    refine oGo.aload (pc' := 404) at_402 rfl rfl rfl ?_
    have f741 := oArr.ext E736 A733
    have A742 : oArr Z h734 a680 .char (oI [p0, p1, (32 : Int32), (40 : Int32), (110 : Int32), (111 : Int32), (32 : Int32), (118 : Int32), (97 : Int32), (108 : Int32), (117 : Int32), (101 : Int32), (41 : Int32), (58 : Int32), (32 : Int32), r0, r1]) := f741
    refine oGo.invokespecial (pc' := 407) (k' := 9) (n' := 93) (a := a735) (argsL := [.ref a680]) (rest := [.ref a735]) at_404 rfl rfl (w4 hG) (w5 hG) (w2 hG) (w6 hG) (by decide) pd26 rfl rfl rfl (c_strI1 hG a735 a680 [p0, p1, (32 : Int32), (40 : Int32), (110 : Int32), (111 : Int32), (32 : Int32), (118 : Int32), (97 : Int32), (108 : Int32), (117 : Int32), (101 : Int32), (41 : Int32), (58 : Int32), (32 : Int32), r0, r1] (by simp) (by simp) (by intro c hc; simp only [List.mem_cons, List.not_mem_nil, or_false] at hc; rcases hc with rfl | rfl | rfl | rfl | rfl | rfl | rfl | rfl | rfl | rfl | rfl | rfl | rfl | rfl | rfl | rfl | rfl <;> first | decide | assumption) _ _ _ A742 X737 f740 f739) (by simp) (by decide) (Nat.le_of_ble_eq_true rfl) rfl rfl (by decide) (by decide) ?_
    intro v743 h744 sh744 q745
    obtain ⟨rfl, KX, tX, SX⟩ := q745
    have lxX := own_ltN SX.1.lt
    have ltX := own_ltN SX.2.2.2.1.lt
    refine ⟨_, fun _ hx => Or.inl hx, ?_⟩
    show oGo l Z a0 EL True pP eE sS mM _ bB tT cC _ _ _ _ _ _ _ _ [a735, a680, a37, a30, a9, a2] h744 9 93 407 #[.val (.int i0), .val (.int i1), .val (.int i2), .val (.int i3), .val (.int p0), .val (.int p1), .val (.int v0), .val (.int v1), .val (.int r0), .val (.int r1), .val (.ref a2), .val (.ref a30), .val (.int (i3 &&& (3 : Int32))), .val .null, .val (.ref a680), .unset, .unset] [.ref a735]
    refine oGo.astore (pc' := 409) (Ls' := #[.val (.int i0), .val (.int i1), .val (.int i2), .val (.int i3), .val (.int p0), .val (.int p1), .val (.int v0), .val (.int v1), .val (.int r0), .val (.int r1), .val (.ref a2), .val (.ref a30), .val (.int (i3 &&& (3 : Int32))), .val .null, .val (.ref a680), .val (.ref a735), .unset]) at_407 rfl rfl rfl ?_
    refine oGo.new (pc' := 412) (k' := 10) (n' := 96) at_409 rfl (w33 hG) (w34 hG) (w35 hG) rfl rfl (by decide) (by decide) ?_
    intro h746 a747 qa747 la747 E748 X749 F750
    have f751 := F750 (Or.inr (w47 hG)) (ty := (.object "java/lang/String")) (by decide)
    have f752 := F750 (Or.inr (w49 hG)) (ty := (.object "java/lang/String")) (by decide)
    have f753 := F750 (Or.inr (w52 hG)) (ty := (.object "java/lang/String")) (by decide)
    refine oGo.dup (pc' := 413) at_412 rfl rfl ?_
    refine oGo.aload (pc' := 415) at_413 rfl rfl rfl ?_
    refine oGo.aload (pc' := 417) at_415 rfl rfl rfl ?_
    refine oGo.aload (pc' := 419) at_417 rfl rfl rfl ?_
    have f754 := Exa.ext E31 SP.1
    have f755 := Exa.ext E38 f754
    have f756 := Exa.keep f755 K47
    have f757 := Exa.keep f756 KR
    have f758 := Exa.ext E681 f757
    have f759 := Exa.wr W684 f758
    have f760 := Exa.wr W687 f759
    have f761 := Exa.wr W690 f760
    have f762 := Exa.wr W693 f761
    have f763 := Exa.wr W696 f762
    have f764 := Exa.wr W699 f763
    have f765 := Exa.wr W702 f764
    have f766 := Exa.wr W705 f765
    have f767 := Exa.wr W708 f766
    have f768 := Exa.wr W711 f767
    have f769 := Exa.wr W714 f768
    have f770 := Exa.wr W717 f769
    have f771 := Exa.wr W720 f770
    have f772 := Exa.wr W723 f771
    have f773 := Exa.wr W726 f772
    have f774 := Exa.wr W729 f773
    have f775 := Exa.wr W732 f774
    have f776 := Exa.ext E736 f775
    have f777 := Exa.keep f776 KX
    have f778 := Exa.ext E748 f777
    have f779 := Exa.ext E681 SR.1
    have f780 := Exa.wr W684 f779
    have f781 := Exa.wr W687 f780
    have f782 := Exa.wr W690 f781
    have f783 := Exa.wr W693 f782
    have f784 := Exa.wr W696 f783
    have f785 := Exa.wr W699 f784
    have f786 := Exa.wr W702 f785
    have f787 := Exa.wr W705 f786
    have f788 := Exa.wr W708 f787
    have f789 := Exa.wr W711 f788
    have f790 := Exa.wr W714 f789
    have f791 := Exa.wr W717 f790
    have f792 := Exa.wr W720 f791
    have f793 := Exa.wr W723 f792
    have f794 := Exa.wr W726 f793
    have f795 := Exa.wr W729 f794
    have f796 := Exa.wr W732 f795
    have f797 := Exa.ext E736 f796
    have f798 := Exa.keep f797 KX
    have f799 := Exa.ext E748 f798
    refine oGo.invokespecial (pc' := 422) (k' := 14) (n' := 160) (a := a747) (argsL := [.ref a2, .null, .ref a30]) (rest := [.ref a747]) at_419 rfl rfl (w36 hG) (w37 hG) (w35 hG) (w38 hG) (by decide) pd27 rfl rfl rfl (c_bp hG a747 a2 a30 .null rfl _ X749 f778 f799 f751 f752 f753) (by simp) (by decide) (Nat.le_of_ble_eq_true rfl) rfl rfl (by decide) (by decide) ?_
    intro v800 h801 sh801 q802
    obtain ⟨rfl, KB, EB, G1, G2, G3⟩ := q802
    refine ⟨_, fun _ hx => Or.inl hx, ?_⟩
    show oGo l Z a0 EL True pP eE sS mM _ bB tT cC _ _ _ _ _ _ _ _ [a747, a735, a680, a37, a30, a9, a2] h801 14 160 422 #[.val (.int i0), .val (.int i1), .val (.int i2), .val (.int i3), .val (.int p0), .val (.int p1), .val (.int v0), .val (.int v1), .val (.int r0), .val (.int r1), .val (.ref a2), .val (.ref a30), .val (.int (i3 &&& (3 : Int32))), .val .null, .val (.ref a680), .val (.ref a735), .unset] [.ref a747]
    refine oGo.astore (pc' := 424) (Ls' := #[.val (.int i0), .val (.int i1), .val (.int i2), .val (.int i3), .val (.int p0), .val (.int p1), .val (.int v0), .val (.int v1), .val (.int r0), .val (.int r1), .val (.ref a2), .val (.ref a30), .val (.int (i3 &&& (3 : Int32))), .val .null, .val (.ref a680), .val (.ref a735), .val (.ref a747)]) at_422 rfl rfl rfl ?_
    refine oGo.aload (pc' := 426) at_424 rfl rfl rfl ?_
    refine oGo.aload (pc' := 428) at_426 rfl rfl rfl ?_
    have f803 := SP.ext E31
    have f804 := f803.ext E38
    have g806 := own_lt_le (x := a2) la2 E10.1
    have g807 := own_lt_le (x := a2) g806 K19.1
    have g808 := own_lt_le (x := a2) g807 KP.1
    have g809 := own_lt_le (x := a2) g808 E31.1
    have g810 := own_lt_le (x := tP) ltP E31.1
    have f805 := f804.keep K47 (own_nin1 (own_ne_ge (x := a2) (y := a37) g809 (own_ge_eq qa37))) (own_nin1 (own_ne_ge (x := tP) (y := a37) g810 (own_ge_eq qa37)))
    have f811 := f805.keep KR (own_nin1 (own_ne_ge (x := a2) (y := a30) g808 (own_ge_eq qa30))) (own_nin1 (own_ne_ge (x := tP) (y := a30) ltP (own_ge_eq qa30)))
    have f812 := f811.ext E681
    have g814 := own_lt_le (x := a2) g809 E38.1
    have g815 := own_lt_le (x := a2) g814 K47.1
    have g816 := own_lt_le (x := a2) g815 KR.1
    have g817 := own_lt_le (x := tP) g810 E38.1
    have g818 := own_lt_le (x := tP) g817 K47.1
    have g819 := own_lt_le (x := tP) g818 KR.1
    have f813 := f812.other W684 (own_ne_ge (x := a2) (y := a680) g816 (own_ge_eq qa680)) (own_ne_ge (x := tP) (y := a680) g819 (own_ge_eq qa680))
    have f820 := f813.other W687 (own_ne_ge (x := a2) (y := a680) g816 (own_ge_eq qa680)) (own_ne_ge (x := tP) (y := a680) g819 (own_ge_eq qa680))
    have f821 := f820.other W690 (own_ne_ge (x := a2) (y := a680) g816 (own_ge_eq qa680)) (own_ne_ge (x := tP) (y := a680) g819 (own_ge_eq qa680))
    have f822 := f821.other W693 (own_ne_ge (x := a2) (y := a680) g816 (own_ge_eq qa680)) (own_ne_ge (x := tP) (y := a680) g819 (own_ge_eq qa680))
    have f823 := f822.other W696 (own_ne_ge (x := a2) (y := a680) g816 (own_ge_eq qa680)) (own_ne_ge (x := tP) (y := a680) g819 (own_ge_eq qa680))
    have f824 := f823.other W699 (own_ne_ge (x := a2) (y := a680) g816 (own_ge_eq qa680)) (own_ne_ge (x := tP) (y := a680) g819 (own_ge_eq qa680))
    have f825 := f824.other W702 (own_ne_ge (x := a2) (y := a680) g816 (own_ge_eq qa680)) (own_ne_ge (x := tP) (y := a680) g819 (own_ge_eq qa680))
    have f826 := f825.other W705 (own_ne_ge (x := a2) (y := a680) g816 (own_ge_eq qa680)) (own_ne_ge (x := tP) (y := a680) g819 (own_ge_eq qa680))
    have f827 := f826.other W708 (own_ne_ge (x := a2) (y := a680) g816 (own_ge_eq qa680)) (own_ne_ge (x := tP) (y := a680) g819 (own_ge_eq qa680))
    have f828 := f827.other W711 (own_ne_ge (x := a2) (y := a680) g816 (own_ge_eq qa680)) (own_ne_ge (x := tP) (y := a680) g819 (own_ge_eq qa680))
    have f829 := f828.other W714 (own_ne_ge (x := a2) (y := a680) g816 (own_ge_eq qa680)) (own_ne_ge (x := tP) (y := a680) g819 (own_ge_eq qa680))
    have f830 := f829.other W717 (own_ne_ge (x := a2) (y := a680) g816 (own_ge_eq qa680)) (own_ne_ge (x := tP) (y := a680) g819 (own_ge_eq qa680))
    have f831 := f830.other W720 (own_ne_ge (x := a2) (y := a680) g816 (own_ge_eq qa680)) (own_ne_ge (x := tP) (y := a680) g819 (own_ge_eq qa680))
    have f832 := f831.other W723 (own_ne_ge (x := a2) (y := a680) g816 (own_ge_eq qa680)) (own_ne_ge (x := tP) (y := a680) g819 (own_ge_eq qa680))
    have f833 := f832.other W726 (own_ne_ge (x := a2) (y := a680) g816 (own_ge_eq qa680)) (own_ne_ge (x := tP) (y := a680) g819 (own_ge_eq qa680))
    have f834 := f833.other W729 (own_ne_ge (x := a2) (y := a680) g816 (own_ge_eq qa680)) (own_ne_ge (x := tP) (y := a680) g819 (own_ge_eq qa680))
    have f835 := f834.other W732 (own_ne_ge (x := a2) (y := a680) g816 (own_ge_eq qa680)) (own_ne_ge (x := tP) (y := a680) g819 (own_ge_eq qa680))
    have f836 := f835.ext E736
    have g838 := own_lt_le (x := a2) g816 E681.1
    have g839 := own_lt_le (x := a2) g838 (Nat.le_of_eq (Wr.size W684).symm)
    have g840 := own_lt_le (x := a2) g839 (Nat.le_of_eq (Wr.size W687).symm)
    have g841 := own_lt_le (x := a2) g840 (Nat.le_of_eq (Wr.size W690).symm)
    have g842 := own_lt_le (x := a2) g841 (Nat.le_of_eq (Wr.size W693).symm)
    have g843 := own_lt_le (x := a2) g842 (Nat.le_of_eq (Wr.size W696).symm)
    have g844 := own_lt_le (x := a2) g843 (Nat.le_of_eq (Wr.size W699).symm)
    have g845 := own_lt_le (x := a2) g844 (Nat.le_of_eq (Wr.size W702).symm)
    have g846 := own_lt_le (x := a2) g845 (Nat.le_of_eq (Wr.size W705).symm)
    have g847 := own_lt_le (x := a2) g846 (Nat.le_of_eq (Wr.size W708).symm)
    have g848 := own_lt_le (x := a2) g847 (Nat.le_of_eq (Wr.size W711).symm)
    have g849 := own_lt_le (x := a2) g848 (Nat.le_of_eq (Wr.size W714).symm)
    have g850 := own_lt_le (x := a2) g849 (Nat.le_of_eq (Wr.size W717).symm)
    have g851 := own_lt_le (x := a2) g850 (Nat.le_of_eq (Wr.size W720).symm)
    have g852 := own_lt_le (x := a2) g851 (Nat.le_of_eq (Wr.size W723).symm)
    have g853 := own_lt_le (x := a2) g852 (Nat.le_of_eq (Wr.size W726).symm)
    have g854 := own_lt_le (x := a2) g853 (Nat.le_of_eq (Wr.size W729).symm)
    have g855 := own_lt_le (x := a2) g854 (Nat.le_of_eq (Wr.size W732).symm)
    have g856 := own_lt_le (x := tP) g819 E681.1
    have g857 := own_lt_le (x := tP) g856 (Nat.le_of_eq (Wr.size W684).symm)
    have g858 := own_lt_le (x := tP) g857 (Nat.le_of_eq (Wr.size W687).symm)
    have g859 := own_lt_le (x := tP) g858 (Nat.le_of_eq (Wr.size W690).symm)
    have g860 := own_lt_le (x := tP) g859 (Nat.le_of_eq (Wr.size W693).symm)
    have g861 := own_lt_le (x := tP) g860 (Nat.le_of_eq (Wr.size W696).symm)
    have g862 := own_lt_le (x := tP) g861 (Nat.le_of_eq (Wr.size W699).symm)
    have g863 := own_lt_le (x := tP) g862 (Nat.le_of_eq (Wr.size W702).symm)
    have g864 := own_lt_le (x := tP) g863 (Nat.le_of_eq (Wr.size W705).symm)
    have g865 := own_lt_le (x := tP) g864 (Nat.le_of_eq (Wr.size W708).symm)
    have g866 := own_lt_le (x := tP) g865 (Nat.le_of_eq (Wr.size W711).symm)
    have g867 := own_lt_le (x := tP) g866 (Nat.le_of_eq (Wr.size W714).symm)
    have g868 := own_lt_le (x := tP) g867 (Nat.le_of_eq (Wr.size W717).symm)
    have g869 := own_lt_le (x := tP) g868 (Nat.le_of_eq (Wr.size W720).symm)
    have g870 := own_lt_le (x := tP) g869 (Nat.le_of_eq (Wr.size W723).symm)
    have g871 := own_lt_le (x := tP) g870 (Nat.le_of_eq (Wr.size W726).symm)
    have g872 := own_lt_le (x := tP) g871 (Nat.le_of_eq (Wr.size W729).symm)
    have g873 := own_lt_le (x := tP) g872 (Nat.le_of_eq (Wr.size W732).symm)
    have f837 := f836.keep KX (own_nin1 (own_ne_ge (x := a2) (y := a735) g855 (own_ge_eq qa735))) (own_nin1 (own_ne_ge (x := tP) (y := a735) g873 (own_ge_eq qa735)))
    have f874 := f837.ext E748
    have g876 := own_lt_le (x := a2) g855 E736.1
    have g877 := own_lt_le (x := a2) g876 KX.1
    have g878 := own_lt_le (x := tP) g873 E736.1
    have g879 := own_lt_le (x := tP) g878 KX.1
    have f875 := f874.keep KB (own_nin1 (own_ne_ge (x := a2) (y := a747) g877 (own_ge_eq qa747))) (own_nin1 (own_ne_ge (x := tP) (y := a747) g879 (own_ge_eq qa747)))
    have f880 := SR.ext E681
    have g882 := own_lt_le (x := a30) la30 E38.1
    have g883 := own_lt_le (x := a30) g882 K47.1
    have g884 := own_lt_le (x := a30) g883 KR.1
    have f881 := f880.other W684 (own_ne_ge (x := a30) (y := a680) g884 (own_ge_eq qa680)) (own_ne_ge (x := tR) (y := a680) ltR (own_ge_eq qa680))
    have f885 := f881.other W687 (own_ne_ge (x := a30) (y := a680) g884 (own_ge_eq qa680)) (own_ne_ge (x := tR) (y := a680) ltR (own_ge_eq qa680))
    have f886 := f885.other W690 (own_ne_ge (x := a30) (y := a680) g884 (own_ge_eq qa680)) (own_ne_ge (x := tR) (y := a680) ltR (own_ge_eq qa680))
    have f887 := f886.other W693 (own_ne_ge (x := a30) (y := a680) g884 (own_ge_eq qa680)) (own_ne_ge (x := tR) (y := a680) ltR (own_ge_eq qa680))
    have f888 := f887.other W696 (own_ne_ge (x := a30) (y := a680) g884 (own_ge_eq qa680)) (own_ne_ge (x := tR) (y := a680) ltR (own_ge_eq qa680))
    have f889 := f888.other W699 (own_ne_ge (x := a30) (y := a680) g884 (own_ge_eq qa680)) (own_ne_ge (x := tR) (y := a680) ltR (own_ge_eq qa680))
    have f890 := f889.other W702 (own_ne_ge (x := a30) (y := a680) g884 (own_ge_eq qa680)) (own_ne_ge (x := tR) (y := a680) ltR (own_ge_eq qa680))
    have f891 := f890.other W705 (own_ne_ge (x := a30) (y := a680) g884 (own_ge_eq qa680)) (own_ne_ge (x := tR) (y := a680) ltR (own_ge_eq qa680))
    have f892 := f891.other W708 (own_ne_ge (x := a30) (y := a680) g884 (own_ge_eq qa680)) (own_ne_ge (x := tR) (y := a680) ltR (own_ge_eq qa680))
    have f893 := f892.other W711 (own_ne_ge (x := a30) (y := a680) g884 (own_ge_eq qa680)) (own_ne_ge (x := tR) (y := a680) ltR (own_ge_eq qa680))
    have f894 := f893.other W714 (own_ne_ge (x := a30) (y := a680) g884 (own_ge_eq qa680)) (own_ne_ge (x := tR) (y := a680) ltR (own_ge_eq qa680))
    have f895 := f894.other W717 (own_ne_ge (x := a30) (y := a680) g884 (own_ge_eq qa680)) (own_ne_ge (x := tR) (y := a680) ltR (own_ge_eq qa680))
    have f896 := f895.other W720 (own_ne_ge (x := a30) (y := a680) g884 (own_ge_eq qa680)) (own_ne_ge (x := tR) (y := a680) ltR (own_ge_eq qa680))
    have f897 := f896.other W723 (own_ne_ge (x := a30) (y := a680) g884 (own_ge_eq qa680)) (own_ne_ge (x := tR) (y := a680) ltR (own_ge_eq qa680))
    have f898 := f897.other W726 (own_ne_ge (x := a30) (y := a680) g884 (own_ge_eq qa680)) (own_ne_ge (x := tR) (y := a680) ltR (own_ge_eq qa680))
    have f899 := f898.other W729 (own_ne_ge (x := a30) (y := a680) g884 (own_ge_eq qa680)) (own_ne_ge (x := tR) (y := a680) ltR (own_ge_eq qa680))
    have f900 := f899.other W732 (own_ne_ge (x := a30) (y := a680) g884 (own_ge_eq qa680)) (own_ne_ge (x := tR) (y := a680) ltR (own_ge_eq qa680))
    have f901 := f900.ext E736
    have g903 := own_lt_le (x := a30) g884 E681.1
    have g904 := own_lt_le (x := a30) g903 (Nat.le_of_eq (Wr.size W684).symm)
    have g905 := own_lt_le (x := a30) g904 (Nat.le_of_eq (Wr.size W687).symm)
    have g906 := own_lt_le (x := a30) g905 (Nat.le_of_eq (Wr.size W690).symm)
    have g907 := own_lt_le (x := a30) g906 (Nat.le_of_eq (Wr.size W693).symm)
    have g908 := own_lt_le (x := a30) g907 (Nat.le_of_eq (Wr.size W696).symm)
    have g909 := own_lt_le (x := a30) g908 (Nat.le_of_eq (Wr.size W699).symm)
    have g910 := own_lt_le (x := a30) g909 (Nat.le_of_eq (Wr.size W702).symm)
    have g911 := own_lt_le (x := a30) g910 (Nat.le_of_eq (Wr.size W705).symm)
    have g912 := own_lt_le (x := a30) g911 (Nat.le_of_eq (Wr.size W708).symm)
    have g913 := own_lt_le (x := a30) g912 (Nat.le_of_eq (Wr.size W711).symm)
    have g914 := own_lt_le (x := a30) g913 (Nat.le_of_eq (Wr.size W714).symm)
    have g915 := own_lt_le (x := a30) g914 (Nat.le_of_eq (Wr.size W717).symm)
    have g916 := own_lt_le (x := a30) g915 (Nat.le_of_eq (Wr.size W720).symm)
    have g917 := own_lt_le (x := a30) g916 (Nat.le_of_eq (Wr.size W723).symm)
    have g918 := own_lt_le (x := a30) g917 (Nat.le_of_eq (Wr.size W726).symm)
    have g919 := own_lt_le (x := a30) g918 (Nat.le_of_eq (Wr.size W729).symm)
    have g920 := own_lt_le (x := a30) g919 (Nat.le_of_eq (Wr.size W732).symm)
    have g921 := own_lt_le (x := tR) ltR E681.1
    have g922 := own_lt_le (x := tR) g921 (Nat.le_of_eq (Wr.size W684).symm)
    have g923 := own_lt_le (x := tR) g922 (Nat.le_of_eq (Wr.size W687).symm)
    have g924 := own_lt_le (x := tR) g923 (Nat.le_of_eq (Wr.size W690).symm)
    have g925 := own_lt_le (x := tR) g924 (Nat.le_of_eq (Wr.size W693).symm)
    have g926 := own_lt_le (x := tR) g925 (Nat.le_of_eq (Wr.size W696).symm)
    have g927 := own_lt_le (x := tR) g926 (Nat.le_of_eq (Wr.size W699).symm)
    have g928 := own_lt_le (x := tR) g927 (Nat.le_of_eq (Wr.size W702).symm)
    have g929 := own_lt_le (x := tR) g928 (Nat.le_of_eq (Wr.size W705).symm)
    have g930 := own_lt_le (x := tR) g929 (Nat.le_of_eq (Wr.size W708).symm)
    have g931 := own_lt_le (x := tR) g930 (Nat.le_of_eq (Wr.size W711).symm)
    have g932 := own_lt_le (x := tR) g931 (Nat.le_of_eq (Wr.size W714).symm)
    have g933 := own_lt_le (x := tR) g932 (Nat.le_of_eq (Wr.size W717).symm)
    have g934 := own_lt_le (x := tR) g933 (Nat.le_of_eq (Wr.size W720).symm)
    have g935 := own_lt_le (x := tR) g934 (Nat.le_of_eq (Wr.size W723).symm)
    have g936 := own_lt_le (x := tR) g935 (Nat.le_of_eq (Wr.size W726).symm)
    have g937 := own_lt_le (x := tR) g936 (Nat.le_of_eq (Wr.size W729).symm)
    have g938 := own_lt_le (x := tR) g937 (Nat.le_of_eq (Wr.size W732).symm)
    have f902 := f901.keep KX (own_nin1 (own_ne_ge (x := a30) (y := a735) g920 (own_ge_eq qa735))) (own_nin1 (own_ne_ge (x := tR) (y := a735) g938 (own_ge_eq qa735)))
    have f939 := f902.ext E748
    have g941 := own_lt_le (x := a30) g920 E736.1
    have g942 := own_lt_le (x := a30) g941 KX.1
    have g943 := own_lt_le (x := tR) g938 E736.1
    have g944 := own_lt_le (x := tR) g943 KX.1
    have f940 := f939.keep KB (own_nin1 (own_ne_ge (x := a30) (y := a747) g942 (own_ge_eq qa747))) (own_nin1 (own_ne_ge (x := tR) (y := a747) g944 (own_ge_eq qa747)))
    refine oGo.invokevirtual (pc' := 431) (k' := 38) (n' := 1160) (a := a747) (argsL := []) (rest := [.ref a735]) at_428 rfl (w53 hG) (w54 hG) (w56 hG) (w56 hG) rfl (w55 hG) (w35 hG) (w57 hG) (by decide) pd25 rfl rfl rfl EB (c_tsn hG a747 a2 tP a30 tR p0 p1 r0 r1 bp0 bp1 br0 br1 _ G1 G2 G3 f875 f940) (by simp) (by decide) (Nat.le_of_ble_eq_true rfl) rfl rfl (by decide) (by decide) ?_
    intro v945 h946 sh946 q947
    obtain ⟨KT, y, ty, rfl, gy, gty, Sy⟩ := q947
    refine ⟨_, fun _ hx => Or.inl hx, ?_⟩
    show oGo l Z a0 EL True pP eE sS mM _ bB tT cC _ _ _ _ _ _ _ _ [a747, a735, a680, a37, a30, a9, a2] h946 38 1160 431 #[.val (.int i0), .val (.int i1), .val (.int i2), .val (.int i3), .val (.int p0), .val (.int p1), .val (.int v0), .val (.int v1), .val (.int r0), .val (.int r1), .val (.ref a2), .val (.ref a30), .val (.int (i3 &&& (3 : Int32))), .val .null, .val (.ref a680), .val (.ref a735), .val (.ref a747)] [.ref y, .ref a735]
    have f948 := SX.ext E748
    have g950 := own_lt_le (x := a735) la735 KX.1
    have f949 := f948.keep KB (own_nin1 (own_ne_ge (x := a735) (y := a747) g950 (own_ge_eq qa747))) (own_nin1 (own_ne_ge (x := tX) (y := a747) ltX (own_ge_eq qa747)))
    have f951 := f949.keep KT nin0 nin0
    have g952 := own_lt_le (x := a735) g950 E748.1
    have g953 := own_lt_le (x := a735) g952 KB.1
    have f957 := Exa.ext E748 SX.1
    have f958 := Exa.keep f957 KB
    have f959 := Exa.keep f958 KT
    refine oGo.invokevirtual (pc' := 434) (k' := 38) (n' := 1160) (a := a735) (argsL := [.ref y]) (rest := []) at_431 rfl (w171 hG) (w172 hG) (w174 hG) (w174 hG) rfl (w173 hG) (w2 hG) (w175 hG) (by decide) pd28 rfl rfl rfl f959 (c_equals hG a735 tX y ty [p0, p1, (32 : Int32), (40 : Int32), (110 : Int32), (111 : Int32), (32 : Int32), (118 : Int32), (97 : Int32), (108 : Int32), (117 : Int32), (101 : Int32), (41 : Int32), (58 : Int32), (32 : Int32), r0, r1] (own_ne_ge (x := a735) (y := y) g953 gy) _ f951 Sy) (by simp) (by decide) (Nat.le_of_ble_eq_true rfl) rfl rfl (by decide) (by decide) ?_
    intro v954 h955 sh955 q956
    obtain ⟨rfl, ee⟩ := q956
    obtain rfl := ee.symm
    refine ⟨_, fun _ hx => Or.inl hx, ?_⟩
    show oGo l Z a0 EL True pP eE sS mM _ bB tT cC _ _ _ _ _ _ _ _ [a747, a735, a680, a37, a30, a9, a2] h946 38 1160 434 #[.val (.int i0), .val (.int i1), .val (.int i2), .val (.int i3), .val (.int p0), .val (.int p1), .val (.int v0), .val (.int v1), .val (.int r0), .val (.int r1), .val (.ref a2), .val (.ref a30), .val (.int (i3 &&& (3 : Int32))), .val .null, .val (.ref a680), .val (.ref a735), .val (.ref a747)] [.int (1 : Int32)]
    exact oGo.nreturn at_434 rfl (by simp) rfl (by decide) (by decide) rfl (fun _ q => q.elim)
theorem own_held {s : State} {o : String} {i : Nat} (h : Jvm.Pilot.@@N@@.Jvm.D.constHeld s o i) : Jvm.Lit.constHeld s o i := h
theorem own_compactW {a0 : Array Value} {s : State} (h : (Jvm.Cond.not (Jvm.Cond.eq (Jvm.Term.static "java/lang/String" "COMPACT_STRINGS" "Z") (Jvm.Term.int (0 : Int32)))).before a0 s = true) : Jvm.Lit.compactW.before a0 s = true := h
set_option maxRecDepth 65536 in
set_option maxHeartbeats 4000000 in
theorem comes_1 {Post : Tables → Env → Array Value → State → Outcome → State → Prop} (hpost : ∀ tb e args s v u, (limb_1_1.after args s (.returned v) u = true ∧ limb_1_2.after args s (.returned v) u = true) → D.FramedW s (.returned v) u (Jvm.fieldLocs frame_1_writes args s ++ Jvm.arrayLocs frame_1_arrays args s ++ Jvm.staticLocs frame_1_statics s) 64 7552 → Post tb e args s (.returned v) u) :
    ArmFor flags0 classFile x code maxLocals ret World_1 tables_1 room_1 Calls_1 rest_1 Pre_1 Post := by
  intro l hfl _ _ p e ha hc hk s m args below hf hA hF happ hP
  obtain ⟨hcalls, hrest, hpre⟩ := hP
  obtain ⟨-, -, -, hnamed, -, -, -, hat⟩ := (Spec.applies_iff hf).mp happ
  obtain ⟨hg, hn⟩ := and_e (Cond.before_iff.mp (show (Jvm.Cond.and given_1 narrow_1).before args s = true from hpre))
  obtain ⟨g0, g1⟩ := and_e hg
  obtain ⟨t0, r0⟩ := and_e g1
  obtain ⟨t1, r1⟩ := and_e r0
  obtain ⟨t2, r2⟩ := and_e r1
  obtain ⟨w0, w1, w2, w3, rfl⟩ : ∃ w0 w1 w2 w3 : Value, args = #[w0, w1, w2, w3] := by
    have hs : args.size = 4 := by simpa [Cond.value, given_1] using g0
    obtain ⟨L⟩ := args
    match L, hs with
    | [w0, w1, w2, w3], _ => exact ⟨w0, w1, w2, w3, rfl⟩
  have hw := fun d (hd : d ∈ tables_1) => atoms_spec (ws := Jvm.Cond.code x code maxLocals ret :: tables_1) hat d (List.mem_cons_of_mem _ hd)
  obtain ⟨hsets, hown0⟩ := atoms_of _ (rest_1_c_eq ▸ (show rest_1_c.before _ s = true from hrest))
  obtain ⟨i0, ei0⟩ := is_v t0
  obtain rfl : w0 = (.int i0) := Option.some.inj ei0
  obtain ⟨i1, ei1⟩ := is_v t1
  obtain rfl : w1 = (.int i1) := Option.some.inj ei1
  obtain ⟨i2, ei2⟩ := is_v t2
  obtain rfl : w2 = (.int i2) := Option.some.inj ei2
  obtain ⟨i3, ei3⟩ := is_v r2
  obtain rfl : w3 = (.int i3) := Option.some.inj ei3
  have hEW : EW s #[.int i0, .int i1, .int i2, .int i3] consts_1 := (EW.cons (hw _ (List.mem_of_getElem? (i := 40) rfl)) (by decide) (EW.cons (hw _ (List.mem_of_getElem? (i := 50) rfl)) (by decide) (EW.cons (hw _ (List.mem_of_getElem? (i := 181) rfl)) (by decide) (EW.cons (hw _ (List.mem_of_getElem? (i := 76) rfl)) (by decide) (EW.cons (hw _ (List.mem_of_getElem? (i := 124) rfl)) (by decide) (EW.cons (hw _ (List.mem_of_getElem? (i := 170) rfl)) (by decide) (EW.cons (hw _ (List.mem_of_getElem? (i := 30) rfl)) (by decide) EW.nil)))))))
  have hG : oG #[.int i0, .int i1, .int i2, .int i3] s consts_1 := ⟨hw, hEW, hsets, fun _ h => h⟩
  have hCH : CHv s consts_1 s.vm s.heap := CHv.start hEW (fun p hp => own_held (hcalls.1 p hp)) (own_compactW (hsets _ (List.mem_of_getElem? (i := 2) rfl))) (w19 hG) (w1 hG)
  obtain ⟨n, o, h1, h2, h3, v, L, rfl, ⟨rfl, -⟩, hN, -, -, -, hR⟩ := c_law (l := l) hG i0 i1 i2 i3 s.heap p e ha hc hk s m _ below hf ((Spec.applies_iff_loose hf).mp happ).1 ⟨rfl, State.Warmed39.refl s, rfl, ext_refl _, hCH, (fun x hx => by simp at hx)⟩ trivial
  refine ⟨n, _, h1, h2, h3, hpost _ _ _ _ _ _ ⟨Cond.after_iff.mpr rfl, Cond.after_iff.mpr (eq_i res_at (Term.int_eval (1)) rfl)⟩ ⟨⟨_, rfl⟩, hR.2.1, hR.2.2.1, (hR.2.2.2.sift fun y hy => Or.inr (hN y hy)).mono (by decide) (by decide)⟩⟩
theorem main_1_1 : Claimed_1_1 := comes_1 fun _ _ _ _ _ _ h hF => ⟨h.1, hF⟩
theorem main_1_2 : Claimed_1_2 := comes_1 fun _ _ _ _ _ _ h hF => ⟨h.2, hF⟩
end Jvm.Pilot.@@N@@
namespace Jvm.Pilot.@@N@@
open Jvm Jvm.ClassFile Sem Op Lib Jvm.Free Jvm.Stand Jvm.Pilot.@@N@@.Jvm.D
/-! MADE BY PROGRAM (witnessworld.py) out of the Statement's table words and the real class files: 27 classes; the members and pool entries that the words name. The judged class is class 1, her method 1. -/
namespace start1
open Jvm.ClassFile
def u (s : String) : CpInfo := .utf8 (stringToUtf16 s)
/-- a pool by its gaps: so many unusable entries, then the entry; so many at the end -/
def gap : Nat → List CpInfo → List CpInfo
  | 0, r => r
  | n + 1, r => .unusable :: gap n r
def poolList (es : List (Nat × CpInfo)) (last : Nat) : List CpInfo := es.foldr (fun e r => gap e.1 (e.2 :: r)) (gap last [])
def pool (es : List (Nat × CpInfo)) (last : Nat) : Array CpInfo := ⟨poolList es last⟩
def fileOf (pool : Array CpInfo) (this : Nat) (attrs : Array Attribute := #[]) (ms : Array MethodInfo := #[]) (fl : Nat := 33) (sup : Nat := 0) (ifs : Array Nat := #[]) (fds : Array FieldInfo := #[]) : ClassFile where
  minorVersion := 0
  majorVersion := 65
  constantPool := pool
  accessFlags := fl
  thisClass := this
  superClass := sup
  interfaces := ifs
  fields := fds
  methods := ms
  attributes := attrs
def plain (name : String) (sup : Option ClassId) : Class where
  name := name
  kind := .ordinary
  loader := none
  accessFlags := 33
  super := sup
  interfaces := #[]
  cf := none
  fields := #[]
  methods := #[]
  instanceTypes := #[]
  staticTypes := #[]
  resolved := #[]
  callSites := []
  init := .initialized
  statics := none
  mirror := none

def pool0 : Array CpInfo := pool [(5, u "<init>"), (0, u "()V"), (1, .class_ 10), (1, u "java/lang/Object")] 113

def k0c0 : Code := { maxStack := 0, maxLocals := 1, code := object_method_1_code, exceptionTable := #[], attributes := #[] }
def k0m0 : Method := { name := "<init>", desc := "()V", sig := { parameters := [], returnType := none }, accessFlags := 1, code := some k0c0 }
/-- java/lang/Object -/
def k0 : Class := { plain "java/lang/Object" none with
  accessFlags := 33
  interfaces := #[]
  cf := some (fileOf pool0 8 #[] #[{ accessFlags := 1, nameIndex := 5, descriptorIndex := 6, attributes := #[] }] 33 0 #[] #[])
  fields := #[]
  methods := #[k0m0]
  instanceTypes := #[]
  staticTypes := #[]
  resolved := Array.replicate 124 none
  statics := none }

def pool1 : Array CpInfo := pool [(2, .class_ 4), (1, u "java/lang/Object"), (0, u "<init>"), (0, u "()V"), (0, .class_ 8), (0, u "java/lang/String"), (0, .methodref 7 10), (0, .nameAndType 5 11), (0, u "([C)V"), (0, .string 13), (0, u ""), (0, .class_ 15), (0, u "com/example/orderly_settings/orderlysettings/BindingProblem"), (0, .methodref 14 17), (0, .nameAndType 5 18), (0, u "(Ljava/lang/String;Ljava/lang/String;Ljava/lang/String;)V"), (0, .methodref 14 20), (0, .nameAndType 21 22), (0, u "toString"), (0, u "()Ljava/lang/String;"), (0, .methodref 7 24), (0, .nameAndType 25 26), (0, u "equals"), (0, u "(Ljava/lang/Object;)Z"), (0, .class_ 28), (0, u "com/example/orderly_settings/orderlysettings/BindingProblemToStringPinLaw"), (2, u "law"), (0, u "(IIII)Z")] 5

def k1m0 : Method := { name := "<init>", desc := "()V", sig := { parameters := [], returnType := none }, accessFlags := 1, code := none }
def k1c1 : Code := { maxStack := 6, maxLocals := 17, code := code, exceptionTable := #[], attributes := #[] }
def k1m1 : Method := { name := "law", desc := "(IIII)Z", sig := { parameters := [.int, .int, .int, .int], returnType := some .boolean }, accessFlags := 9, code := some k1c1 }
/-- com/example/orderly_settings/orderlysettings/BindingProblemToStringPinLaw -/
def k1 : Class := { plain "com/example/orderly_settings/orderlysettings/BindingProblemToStringPinLaw" (some 0) with
  accessFlags := 49
  interfaces := #[]
  cf := some (fileOf pool1 27 #[] #[{ accessFlags := 1, nameIndex := 5, descriptorIndex := 6, attributes := #[] }, { accessFlags := 9, nameIndex := 31, descriptorIndex := 32, attributes := #[] }] 49 2 #[] #[])
  fields := #[]
  methods := #[k1m0, k1m1]
  instanceTypes := #[]
  staticTypes := #[]
  resolved := Array.replicate 38 none
  statics := none }

def pool2 : Array CpInfo := pool [(1, .class_ 2), (0, u "java/io/Serializable"), (0, .class_ 4), (0, u "java/lang/Object")] 2

/-- java/io/Serializable -/
def k2 : Class := { plain "java/io/Serializable" (some 0) with
  accessFlags := 1537
  interfaces := #[]
  cf := some (fileOf pool2 1 #[] #[] 1537 3 #[] #[])
  fields := #[]
  methods := #[]
  instanceTypes := #[]
  staticTypes := #[]
  resolved := Array.replicate 7 none
  statics := none }

def pool3 : Array CpInfo := pool [(1, .class_ 2), (0, u "java/lang/Comparable"), (0, .class_ 4), (0, u "java/lang/Object")] 7

/-- java/lang/Comparable -/
def k3 : Class := { plain "java/lang/Comparable" (some 0) with
  accessFlags := 1537
  interfaces := #[]
  cf := some (fileOf pool3 1 #[] #[] 1537 3 #[] #[])
  fields := #[]
  methods := #[]
  instanceTypes := #[]
  staticTypes := #[]
  resolved := Array.replicate 12 none
  statics := none }

def pool4 : Array CpInfo := pool [(2, .class_ 4), (1, u "java/lang/CharSequence"), (42, .class_ 48), (0, u "java/lang/CharSequence$1CodePointIterator"), (10, .class_ 60), (0, u "java/lang/CharSequence$1CharIterator"), (5, .class_ 67), (0, u "java/lang/Object")] 63

/-- java/lang/CharSequence -/
def k4 : Class := { plain "java/lang/CharSequence" (some 0) with
  accessFlags := 1537
  interfaces := #[]
  cf := some (fileOf pool4 2 #[.nestMembers #[47, 59]] #[] 1537 66 #[] #[])
  fields := #[]
  methods := #[]
  instanceTypes := #[]
  staticTypes := #[]
  resolved := Array.replicate 131 none
  statics := none }

def pool5 : Array CpInfo := pool [(1, .class_ 2), (0, u "java/lang/constant/Constable"), (0, .class_ 4), (0, u "java/lang/Object")] 6

/-- java/lang/constant/Constable -/
def k5 : Class := { plain "java/lang/constant/Constable" (some 0) with
  accessFlags := 1537
  interfaces := #[]
  cf := some (fileOf pool5 1 #[] #[] 1537 3 #[] #[])
  fields := #[]
  methods := #[]
  instanceTypes := #[]
  staticTypes := #[]
  resolved := Array.replicate 11 none
  statics := none }

def pool6 : Array CpInfo := pool [(1, .class_ 2), (0, u "java/lang/constant/ConstantDesc"), (0, .class_ 4), (0, u "java/lang/Object")] 32

/-- java/lang/constant/ConstantDesc -/
def k6 : Class := { plain "java/lang/constant/ConstantDesc" (some 0) with
  accessFlags := 1537
  interfaces := #[]
  cf := some (fileOf pool6 1 #[] #[] 1537 3 #[] #[])
  fields := #[]
  methods := #[]
  instanceTypes := #[]
  staticTypes := #[]
  resolved := Array.replicate 37 none
  statics := none }

def pool7 : Array CpInfo := pool [(1, .methodref 2 3), (0, .class_ 4), (0, .nameAndType 5 6), (0, u "java/lang/Object"), (0, u "<init>"), (0, u "()V"), (2, .fieldref 10 11), (0, .class_ 12), (0, .nameAndType 13 14), (0, u "java/lang/String"), (0, u "value"), (0, u "[B"), (0, .fieldref 10 16), (0, .nameAndType 17 18), (0, u "coder"), (0, u "B"), (2, u "hash"), (0, u "I"), (2, u "hashIsZero"), (0, u "Z"), (0, .methodref 10 28), (0, .nameAndType 5 29), (0, u "([CIILjava/lang/Void;)V"), (8, .fieldref 10 39), (0, .nameAndType 40 26), (0, u "COMPACT_STRINGS"), (1, .class_ 44), (1, u "java/lang/StringUTF16"), (0, u "compress"), (1, .methodref 42 48), (0, .nameAndType 49 50), (0, u "coderFromArrayLen"), (0, u "([BI)B"), (3, .methodref 55 56), (0, .class_ 57), (0, .nameAndType 58 59), (0, u "java/util/Arrays"), (0, u "copyOfRange"), (0, u "([BII)[B"), (47, .class_ 109), (1, u "java/lang/StringLatin1"), (32, u "()Z"), (34, .methodref 42 178), (0, .nameAndType 45 179), (0, u "([CII)[B"), (13, .class_ 195), (1, u "java/lang/System"), (16, .methodref 193 213), (0, .nameAndType 214 215), (0, u "arraycopy"), (0, u "(Ljava/lang/Object;ILjava/lang/Object;II)V"), (118, u "()I"), (0, .methodref 10 336), (0, .nameAndType 17 337), (0, u "()B"), (2, u "()[B"), (148, .methodref 10 490), (0, .nameAndType 5 491), (0, u "(Ljava/lang/AbstractStringBuilder;Ljava/lang/Void;)V"), (1, .nameAndType 494 142), (0, u "isLatin1"), (11, .nameAndType 507 334), (0, u "length"), (24, u "getBytes"), (8, .methodref 107 542), (0, .nameAndType 543 544), (0, u "equals"), (0, u "([B[B)Z"), (4, .methodref 550 506), (0, .class_ 551), (0, u "java/lang/AbstractStringBuilder"), (0, .methodref 550 553), (0, .nameAndType 554 340), (0, u "getValue"), (18, u "(Ljava/lang/Object;)Z"), (1, .class_ 576), (0, u "java/lang/CharSequence"), (22, u "CASE_INSENSITIVE_ORDER"), (0, u "Ljava/util/Comparator;"), (220, u "([BIB)V"), (188, u "([C)V"), (36, .methodref 550 493), (53, u "serialPersistentFields"), (0, u "[Ljava/io/ObjectStreamField;"), (0, .class_ 1104), (0, u "java/lang/String$CaseInsensitiveComparator"), (1, .class_ 1107), (0, u "java/io/Serializable"), (0, .class_ 1109), (0, u "java/lang/Comparable"), (0, .class_ 1111), (0, u "java/lang/constant/Constable"), (0, .class_ 1113), (0, u "java/lang/constant/ConstantDesc"), (2, u "serialVersionUID"), (0, u "J"), (3, u "REPL"), (0, u "C"), (2, u "LATIN1"), (1, u "UTF16"), (105, u "(Ljava/lang/StringBuilder;)V")] 217

def k7m0 : Method := { name := "<init>", desc := "()V", sig := { parameters := [], returnType := none }, accessFlags := 1, code := none }
def k7c1 : Code := { maxStack := 5, maxLocals := 2, code := jdk_42_method_3_code, exceptionTable := #[], attributes := #[] }
def k7m1 : Method := { name := "<init>", desc := "([C)V", sig := { parameters := [(.array .char)], returnType := none }, accessFlags := 1, code := some k7c1 }
def k7c2 : Code := { maxStack := 3, maxLocals := 2, code := jdk_42_method_53_code, exceptionTable := #[], attributes := #[] }
def k7m2 : Method := { name := "<init>", desc := "(Ljava/lang/StringBuilder;)V", sig := { parameters := [(.object "java/lang/StringBuilder")], returnType := none }, accessFlags := 1, code := some k7c2 }
def k7c3 : Code := { maxStack := 2, maxLocals := 1, code := jdk_42_method_54_code, exceptionTable := #[], attributes := #[] }
def k7m3 : Method := { name := "length", desc := "()I", sig := { parameters := [], returnType := some .int }, accessFlags := 1, code := some k7c3 }
def k7c4 : Code := { maxStack := 2, maxLocals := 3, code := jdk_42_method_66_code, exceptionTable := #[], attributes := #[] }
def k7m4 : Method := { name := "equals", desc := "(Ljava/lang/Object;)Z", sig := { parameters := [(.object "java/lang/Object")], returnType := some .boolean }, accessFlags := 1, code := some k7c4 }
def k7c5 : Code := { maxStack := 5, maxLocals := 4, code := jdk_42_method_147_code, exceptionTable := #[], attributes := #[] }
def k7m5 : Method := { name := "getBytes", desc := "([BIB)V", sig := { parameters := [(.array .byte), .int, .byte], returnType := none }, accessFlags := 0, code := some k7c5 }
def k7c6 : Code := { maxStack := 4, maxLocals := 6, code := jdk_42_method_149_code, exceptionTable := #[], attributes := #[] }
def k7m6 : Method := { name := "<init>", desc := "([CIILjava/lang/Void;)V", sig := { parameters := [(.array .char), .int, .int, (.object "java/lang/Void")], returnType := none }, accessFlags := 2, code := some k7c6 }
def k7c7 : Code := { maxStack := 5, maxLocals := 5, code := jdk_42_method_150_code, exceptionTable := #[], attributes := #[] }
def k7m7 : Method := { name := "<init>", desc := "(Ljava/lang/AbstractStringBuilder;Ljava/lang/Void;)V", sig := { parameters := [(.object "java/lang/AbstractStringBuilder"), (.object "java/lang/Void")], returnType := none }, accessFlags := 0, code := some k7c7 }
def k7c8 : Code := { maxStack := 1, maxLocals := 1, code := jdk_42_method_152_code, exceptionTable := #[], attributes := #[] }
def k7m8 : Method := { name := "coder", desc := "()B", sig := { parameters := [], returnType := some .byte }, accessFlags := 0, code := some k7c8 }
/-- java/lang/String -/
def k7 : Class := { plain "java/lang/String" (some 0) with
  accessFlags := 49
  interfaces := #[2, 3, 4, 5, 6]
  cf := some (fileOf pool7 10 #[.nestMembers #[1103]] #[{ accessFlags := 1, nameIndex := 5, descriptorIndex := 6, attributes := #[] }, { accessFlags := 1, nameIndex := 5, descriptorIndex := 1010, attributes := #[] }, { accessFlags := 1, nameIndex := 5, descriptorIndex := 1233, attributes := #[] }, { accessFlags := 1, nameIndex := 507, descriptorIndex := 334, attributes := #[] }, { accessFlags := 1, nameIndex := 543, descriptorIndex := 573, attributes := #[] }, { accessFlags := 0, nameIndex := 532, descriptorIndex := 821, attributes := #[] }, { accessFlags := 2, nameIndex := 5, descriptorIndex := 29, attributes := #[] }, { accessFlags := 0, nameIndex := 5, descriptorIndex := 491, attributes := #[] }, { accessFlags := 0, nameIndex := 17, descriptorIndex := 337, attributes := #[] }] 49 2 #[1106, 1108, 575, 1110, 1112] #[{ accessFlags := 18, nameIndex := 13, descriptorIndex := 14, attributes := #[] }, { accessFlags := 18, nameIndex := 17, descriptorIndex := 18, attributes := #[] }, { accessFlags := 2, nameIndex := 21, descriptorIndex := 22, attributes := #[] }, { accessFlags := 2, nameIndex := 25, descriptorIndex := 26, attributes := #[] }, { accessFlags := 26, nameIndex := 1116, descriptorIndex := 1117, attributes := #[] }, { accessFlags := 24, nameIndex := 40, descriptorIndex := 26, attributes := #[] }, { accessFlags := 26, nameIndex := 1101, descriptorIndex := 1102, attributes := #[] }, { accessFlags := 26, nameIndex := 1121, descriptorIndex := 1122, attributes := #[] }, { accessFlags := 25, nameIndex := 599, descriptorIndex := 600, attributes := #[] }, { accessFlags := 24, nameIndex := 1125, descriptorIndex := 18, attributes := #[] }, { accessFlags := 24, nameIndex := 1127, descriptorIndex := 18, attributes := #[] }])
  fields := #[{ name := "value", type := (.array .byte), accessFlags := 18, slot := 0, constantValue := 0 }, { name := "coder", type := .byte, accessFlags := 18, slot := 1, constantValue := 0 }, { name := "hash", type := .int, accessFlags := 2, slot := 2, constantValue := 0 }, { name := "hashIsZero", type := .boolean, accessFlags := 2, slot := 3, constantValue := 0 }, { name := "serialVersionUID", type := .long, accessFlags := 26, slot := 0, constantValue := 0 }, { name := "COMPACT_STRINGS", type := .boolean, accessFlags := 24, slot := 1, constantValue := 0 }, { name := "serialPersistentFields", type := (.array (.object "java/io/ObjectStreamField")), accessFlags := 26, slot := 2, constantValue := 0 }, { name := "REPL", type := .char, accessFlags := 26, slot := 3, constantValue := 0 }, { name := "CASE_INSENSITIVE_ORDER", type := (.object "java/util/Comparator"), accessFlags := 25, slot := 4, constantValue := 0 }, { name := "LATIN1", type := .byte, accessFlags := 24, slot := 5, constantValue := 0 }, { name := "UTF16", type := .byte, accessFlags := 24, slot := 6, constantValue := 0 }]
  methods := #[k7m0, k7m1, k7m2, k7m3, k7m4, k7m5, k7m6, k7m7, k7m8]
  instanceTypes := #[(.array .byte), .byte, .int, .boolean]
  staticTypes := #[.long, .boolean, (.array (.object "java/io/ObjectStreamField")), .char, (.object "java/util/Comparator"), .byte, .byte]
  resolved := Array.replicate 1451 none
  statics := some 0 }

def pool8 : Array CpInfo := pool [(6, .class_ 8), (1, u "java/lang/Object"), (0, u "<init>"), (0, u "()V"), (1, .class_ 14), (1, u "java/lang/StringUTF16"), (31, u "$assertionsDisabled"), (0, u "Z"), (13, u "HI_BYTE_SHIFT"), (0, u "I"), (2, u "LO_BYTE_SHIFT"), (49, .methodref 12 116), (0, .nameAndType 117 118), (0, u "compress"), (0, u "([CI[BII)I"), (3, u "([CII)[B"), (138, u "coderFromArrayLen"), (0, u "([BI)B"), (106, .class_ 371), (1, u "java/lang/StringUTF16$LinesSpliterator"), (58, u "MAX_LENGTH"), (196, .class_ 628), (0, u "java/lang/StringUTF16$CodePointsSpliterator"), (0, .class_ 630), (0, u "java/lang/StringUTF16$CharsSpliterator")] 4

def k8m0 : Method := { name := "<init>", desc := "()V", sig := { parameters := [], returnType := none }, accessFlags := 0, code := none }
def k8c1 : Code := { maxStack := 2, maxLocals := 2, code := jdk_52_method_15_code, exceptionTable := #[], attributes := #[] }
def k8m1 : Method := { name := "coderFromArrayLen", desc := "([BI)B", sig := { parameters := [(.array .byte), .int], returnType := some .byte }, accessFlags := 8, code := some k8c1 }
def k8c2 : Code := { maxStack := 5, maxLocals := 6, code := jdk_52_method_16_code, exceptionTable := #[], attributes := #[] }
def k8m2 : Method := { name := "compress", desc := "([CII)[B", sig := { parameters := [(.array .char), .int, .int], returnType := some (.array .byte) }, accessFlags := 9, code := some k8c2 }
def k8c3 : Code := { maxStack := 3, maxLocals := 7, code := jdk_52_method_21_code, exceptionTable := #[], attributes := #[] }
def k8m3 : Method := { name := "compress", desc := "([CI[BII)I", sig := { parameters := [(.array .char), .int, (.array .byte), .int, .int], returnType := some .int }, accessFlags := 9, code := some k8c3 }
/-- java/lang/StringUTF16 -/
def k8 : Class := { plain "java/lang/StringUTF16" (some 0) with
  accessFlags := 48
  interfaces := #[]
  cf := some (fileOf pool8 12 #[.nestMembers #[627, 629, 369]] #[{ accessFlags := 0, nameIndex := 9, descriptorIndex := 10, attributes := #[] }, { accessFlags := 8, nameIndex := 261, descriptorIndex := 262, attributes := #[] }, { accessFlags := 9, nameIndex := 117, descriptorIndex := 122, attributes := #[] }, { accessFlags := 9, nameIndex := 117, descriptorIndex := 118, attributes := #[] }] 48 6 #[] #[{ accessFlags := 26, nameIndex := 61, descriptorIndex := 62, attributes := #[] }, { accessFlags := 26, nameIndex := 65, descriptorIndex := 62, attributes := #[] }, { accessFlags := 24, nameIndex := 430, descriptorIndex := 62, attributes := #[] }, { accessFlags := 4120, nameIndex := 46, descriptorIndex := 47, attributes := #[] }])
  fields := #[{ name := "HI_BYTE_SHIFT", type := .int, accessFlags := 26, slot := 0, constantValue := 0 }, { name := "LO_BYTE_SHIFT", type := .int, accessFlags := 26, slot := 1, constantValue := 0 }, { name := "MAX_LENGTH", type := .int, accessFlags := 24, slot := 2, constantValue := 0 }, { name := "$assertionsDisabled", type := .boolean, accessFlags := 4120, slot := 3, constantValue := 0 }]
  methods := #[k8m0, k8m1, k8m2, k8m3]
  instanceTypes := #[]
  staticTypes := #[.int, .int, .int, .boolean]
  resolved := Array.replicate 635 none
  statics := none }

def pool9 : Array CpInfo := pool [(1, .methodref 2 3), (0, .class_ 4), (0, .nameAndType 5 6), (0, u "java/lang/Object"), (0, u "<init>"), (0, u "()V"), (0, .string 8), (0, u "property"), (0, .methodref 10 11), (0, .class_ 12), (0, .nameAndType 13 14), (0, u "java/util/Objects"), (0, u "requireNonNull"), (0, u "(Ljava/lang/Object;Ljava/lang/String;)Ljava/lang/Object;"), (0, .class_ 16), (0, u "java/lang/String"), (0, .fieldref 18 19), (0, .class_ 20), (0, .nameAndType 8 21), (0, u "com/example/orderly_settings/orderlysettings/BindingProblem"), (0, u "Ljava/lang/String;"), (0, .fieldref 18 23), (0, .nameAndType 24 21), (0, u "value"), (0, .string 26), (0, u "reason"), (0, .fieldref 18 28), (0, .nameAndType 26 21), (0, .string 30), (0, u " (no value)"), (0, .class_ 32), (0, u "java/lang/StringBuilder"), (0, .methodref 31 3), (0, .string 35), (0, u " = '"), (0, .methodref 31 37), (0, .nameAndType 38 39), (0, u "append"), (0, u "(Ljava/lang/String;)Ljava/lang/StringBuilder;"), (0, .string 41), (0, u "'"), (0, .methodref 31 43), (0, .nameAndType 44 45), (0, u "toString"), (0, u "()Ljava/lang/String;"), (0, .string 47), (0, u ": "), (0, .class_ 49), (0, u "java/io/Serializable"), (0, u "serialVersionUID"), (0, u "J"), (3, u "(Ljava/lang/String;Ljava/lang/String;Ljava/lang/String;)V")] 5

def k9c0 : Code := { maxStack := 3, maxLocals := 4, code := prog_1_method_1_code, exceptionTable := #[], attributes := #[] }
def k9m0 : Method := { name := "<init>", desc := "(Ljava/lang/String;Ljava/lang/String;Ljava/lang/String;)V", sig := { parameters := [(.object "java/lang/String"), (.object "java/lang/String"), (.object "java/lang/String")], returnType := none }, accessFlags := 1, code := some k9c0 }
def k9c1 : Code := { maxStack := 2, maxLocals := 2, code := prog_1_method_5_code, exceptionTable := #[], attributes := #[] }
def k9m1 : Method := { name := "toString", desc := "()Ljava/lang/String;", sig := { parameters := [], returnType := some (.object "java/lang/String") }, accessFlags := 1, code := some k9c1 }
/-- com/example/orderly_settings/orderlysettings/BindingProblem -/
def k9 : Class := { plain "com/example/orderly_settings/orderlysettings/BindingProblem" (some 0) with
  accessFlags := 33
  interfaces := #[2]
  cf := some (fileOf pool9 18 #[] #[{ accessFlags := 1, nameIndex := 5, descriptorIndex := 55, attributes := #[] }, { accessFlags := 1, nameIndex := 44, descriptorIndex := 45, attributes := #[] }] 33 2 #[48] #[{ accessFlags := 26, nameIndex := 50, descriptorIndex := 51, attributes := #[] }, { accessFlags := 18, nameIndex := 8, descriptorIndex := 21, attributes := #[] }, { accessFlags := 18, nameIndex := 24, descriptorIndex := 21, attributes := #[] }, { accessFlags := 18, nameIndex := 26, descriptorIndex := 21, attributes := #[] }])
  fields := #[{ name := "serialVersionUID", type := .long, accessFlags := 26, slot := 0, constantValue := 0 }, { name := "property", type := (.object "java/lang/String"), accessFlags := 18, slot := 0, constantValue := 0 }, { name := "value", type := (.object "java/lang/String"), accessFlags := 18, slot := 1, constantValue := 0 }, { name := "reason", type := (.object "java/lang/String"), accessFlags := 18, slot := 2, constantValue := 0 }]
  methods := #[k9m0, k9m1]
  instanceTypes := #[(.object "java/lang/String"), (.object "java/lang/String"), (.object "java/lang/String")]
  staticTypes := #[.long]
  resolved := Array.replicate 61 none
  statics := none }

def pool10 : Array CpInfo := pool [(2, .class_ 4), (1, u "java/lang/Object"), (0, u "<init>"), (0, u "()V"), (35, .class_ 44), (1, u "java/util/Objects"), (0, u "requireNonNull"), (48, u "(Ljava/lang/Object;Ljava/lang/String;)Ljava/lang/Object;")] 89

def k10m0 : Method := { name := "<init>", desc := "()V", sig := { parameters := [], returnType := none }, accessFlags := 2, code := none }
def k10c1 : Code := { maxStack := 3, maxLocals := 2, code := jdk_31_method_11_code, exceptionTable := #[], attributes := #[] }
def k10m1 : Method := { name := "requireNonNull", desc := "(Ljava/lang/Object;Ljava/lang/String;)Ljava/lang/Object;", sig := { parameters := [(.object "java/lang/Object"), (.object "java/lang/String")], returnType := some (.object "java/lang/Object") }, accessFlags := 9, code := some k10c1 }
/-- java/util/Objects -/
def k10 : Class := { plain "java/util/Objects" (some 0) with
  accessFlags := 49
  interfaces := #[]
  cf := some (fileOf pool10 42 #[] #[{ accessFlags := 2, nameIndex := 5, descriptorIndex := 6, attributes := #[] }, { accessFlags := 9, nameIndex := 45, descriptorIndex := 94, attributes := #[] }] 49 2 #[] #[])
  fields := #[]
  methods := #[k10m0, k10m1]
  instanceTypes := #[]
  staticTypes := #[]
  resolved := Array.replicate 184 none
  statics := none }

def pool11 : Array CpInfo := pool [(1, .class_ 2), (0, u "java/lang/Appendable"), (0, .class_ 4), (0, u "java/lang/Object")] 9

/-- java/lang/Appendable -/
def k11 : Class := { plain "java/lang/Appendable" (some 0) with
  accessFlags := 1537
  interfaces := #[]
  cf := some (fileOf pool11 1 #[] #[] 1537 3 #[] #[])
  fields := #[]
  methods := #[]
  instanceTypes := #[]
  staticTypes := #[]
  resolved := Array.replicate 14 none
  statics := none }

def pool12 : Array CpInfo := pool [(1, .class_ 2), (0, u "java/lang/String"), (0, .methodref 4 5), (0, .class_ 6), (0, .nameAndType 7 8), (0, u "java/lang/Object"), (0, u "<init>"), (0, u "()V"), (1, .class_ 12), (1, u "java/lang/AbstractStringBuilder"), (0, u "EMPTYVALUE"), (0, u "[B"), (0, .fieldref 10 16), (0, .nameAndType 17 14), (0, u "value"), (0, .fieldref 1 19), (0, .nameAndType 20 21), (0, u "COMPACT_STRINGS"), (0, u "Z"), (0, .fieldref 10 23), (0, .nameAndType 24 25), (0, u "coder"), (0, u "B"), (6, .methodref 1 33), (0, .nameAndType 34 35), (0, u "length"), (0, u "()I"), (3, .integer 2147483647), (0, .methodref 1 41), (0, .nameAndType 24 42), (0, u "()B"), (2, u "append"), (0, u "(Ljava/lang/String;)Ljava/lang/AbstractStringBuilder;"), (1, .class_ 49), (0, u "java/lang/CharSequence"), (19, u "(Ljava/lang/String;)V"), (5, u "maybeLatin1"), (3, .fieldref 10 80), (0, .nameAndType 81 82), (0, u "count"), (0, u "I"), (2, u "isLatin1"), (0, u "()Z"), (13, .methodref 10 101), (0, .nameAndType 102 103), (0, u "ensureCapacityInternal"), (0, u "(I)V"), (0, .methodref 10 105), (0, .nameAndType 106 107), (0, u "newCapacity"), (0, u "(I)I"), (0, .methodref 109 110), (0, .class_ 111), (0, .nameAndType 112 113), (0, u "java/util/Arrays"), (0, u "copyOf"), (0, u "([BI)[B"), (0, .methodref 115 116), (0, .class_ 117), (0, .nameAndType 118 119), (0, u "jdk/internal/util/ArraysSupport"), (0, u "newLength"), (0, u "(III)I"), (88, .methodref 10 209), (0, .nameAndType 210 211), (0, u "putStringAt"), (0, u "(ILjava/lang/String;)V"), (5, u "inflateIfNeededFor"), (2, .nameAndType 221 222), (0, u "getBytes"), (0, u "([BIB)V"), (174, .methodref 10 398), (0, .nameAndType 217 69), (0, .methodref 1 220), (3, u "()[B"), (40, .class_ 445), (0, u "java/lang/Appendable"), (106, u "getValue")] 56

def k12m0 : Method := { name := "<init>", desc := "()V", sig := { parameters := [], returnType := none }, accessFlags := 0, code := none }
def k12c1 : Code := { maxStack := 2, maxLocals := 2, code := jdk_68_method_2_code, exceptionTable := #[], attributes := #[] }
def k12m1 : Method := { name := "<init>", desc := "(I)V", sig := { parameters := [.int], returnType := none }, accessFlags := 0, code := some k12c1 }
def k12c2 : Code := { maxStack := 1, maxLocals := 1, code := jdk_68_method_6_code, exceptionTable := #[], attributes := #[] }
def k12m2 : Method := { name := "length", desc := "()I", sig := { parameters := [], returnType := some .int }, accessFlags := 1, code := some k12c2 }
def k12c3 : Code := { maxStack := 4, maxLocals := 3, code := jdk_68_method_9_code, exceptionTable := #[], attributes := #[] }
def k12m3 : Method := { name := "ensureCapacityInternal", desc := "(I)V", sig := { parameters := [.int], returnType := none }, accessFlags := 2, code := some k12c3 }
def k12c4 : Code := { maxStack := 5, maxLocals := 6, code := jdk_68_method_10_code, exceptionTable := #[], attributes := #[] }
def k12m4 : Method := { name := "newCapacity", desc := "(I)I", sig := { parameters := [.int], returnType := some .int }, accessFlags := 2, code := some k12c4 }
def k12c5 : Code := { maxStack := 3, maxLocals := 3, code := jdk_68_method_22_code, exceptionTable := #[], attributes := #[] }
def k12m5 : Method := { name := "append", desc := "(Ljava/lang/String;)Ljava/lang/AbstractStringBuilder;", sig := { parameters := [(.object "java/lang/String")], returnType := some (.object "java/lang/AbstractStringBuilder") }, accessFlags := 1, code := some k12c5 }
def k12c6 : Code := { maxStack := 1, maxLocals := 1, code := jdk_68_method_64_code, exceptionTable := #[], attributes := #[] }
def k12m6 : Method := { name := "getValue", desc := "()[B", sig := { parameters := [], returnType := some (.array .byte) }, accessFlags := 16, code := some k12c6 }
def k12c7 : Code := { maxStack := 1, maxLocals := 1, code := jdk_68_method_68_code, exceptionTable := #[], attributes := #[] }
def k12m7 : Method := { name := "isLatin1", desc := "()Z", sig := { parameters := [], returnType := some .boolean }, accessFlags := 16, code := some k12c7 }
def k12c8 : Code := { maxStack := 2, maxLocals := 2, code := jdk_68_method_71_code, exceptionTable := #[], attributes := #[] }
def k12m8 : Method := { name := "inflateIfNeededFor", desc := "(Ljava/lang/String;)V", sig := { parameters := [(.object "java/lang/String")], returnType := none }, accessFlags := 2, code := some k12c8 }
def k12c9 : Code := { maxStack := 4, maxLocals := 3, code := jdk_68_method_73_code, exceptionTable := #[], attributes := #[] }
def k12m9 : Method := { name := "putStringAt", desc := "(ILjava/lang/String;)V", sig := { parameters := [.int, (.object "java/lang/String")], returnType := none }, accessFlags := 2, code := some k12c9 }
/-- java/lang/AbstractStringBuilder -/
def k12 : Class := { plain "java/lang/AbstractStringBuilder" (some 0) with
  accessFlags := 1056
  interfaces := #[11, 4]
  cf := some (fileOf pool12 10 #[] #[{ accessFlags := 0, nameIndex := 7, descriptorIndex := 8, attributes := #[] }, { accessFlags := 0, nameIndex := 7, descriptorIndex := 103, attributes := #[] }, { accessFlags := 1, nameIndex := 34, descriptorIndex := 35, attributes := #[] }, { accessFlags := 2, nameIndex := 102, descriptorIndex := 103, attributes := #[] }, { accessFlags := 2, nameIndex := 106, descriptorIndex := 107, attributes := #[] }, { accessFlags := 1, nameIndex := 45, descriptorIndex := 46, attributes := #[] }, { accessFlags := 16, nameIndex := 552, descriptorIndex := 403, attributes := #[] }, { accessFlags := 16, nameIndex := 85, descriptorIndex := 86, attributes := #[] }, { accessFlags := 2, nameIndex := 217, descriptorIndex := 69, attributes := #[] }, { accessFlags := 2, nameIndex := 210, descriptorIndex := 211, attributes := #[] }] 1056 4 #[444, 48] #[{ accessFlags := 0, nameIndex := 17, descriptorIndex := 14, attributes := #[] }, { accessFlags := 0, nameIndex := 24, descriptorIndex := 25, attributes := #[] }, { accessFlags := 0, nameIndex := 75, descriptorIndex := 21, attributes := #[] }, { accessFlags := 0, nameIndex := 81, descriptorIndex := 82, attributes := #[] }, { accessFlags := 26, nameIndex := 13, descriptorIndex := 14, attributes := #[] }])
  fields := #[{ name := "value", type := (.array .byte), accessFlags := 0, slot := 0, constantValue := 0 }, { name := "coder", type := .byte, accessFlags := 0, slot := 1, constantValue := 0 }, { name := "maybeLatin1", type := .boolean, accessFlags := 0, slot := 2, constantValue := 0 }, { name := "count", type := .int, accessFlags := 0, slot := 3, constantValue := 0 }, { name := "EMPTYVALUE", type := (.array .byte), accessFlags := 26, slot := 0, constantValue := 0 }]
  methods := #[k12m0, k12m1, k12m2, k12m3, k12m4, k12m5, k12m6, k12m7, k12m8, k12m9]
  instanceTypes := #[(.array .byte), .byte, .boolean, .int]
  staticTypes := #[(.array .byte)]
  resolved := Array.replicate 609 none
  statics := none }

def pool13 : Array CpInfo := pool [(1, .methodref 2 3), (0, .class_ 4), (0, .nameAndType 5 6), (0, u "java/lang/AbstractStringBuilder"), (0, u "<init>"), (0, u "(I)V"), (11, .class_ 20), (1, u "java/lang/String"), (3, .class_ 26), (1, u "java/lang/StringBuilder"), (0, u "append"), (0, u "(Ljava/lang/String;)Ljava/lang/StringBuilder;"), (0, .methodref 2 30), (0, .nameAndType 27 31), (0, u "(Ljava/lang/String;)Ljava/lang/AbstractStringBuilder;"), (105, .methodref 18 138), (0, .nameAndType 5 139), (0, u "(Ljava/lang/StringBuilder;)V"), (5, u "()V"), (10, u "()I"), (186, .methodref 2 344), (0, .nameAndType 345 156), (0, u "length"), (3, .class_ 350), (0, u "java/lang/Appendable"), (0, .class_ 352), (0, u "java/io/Serializable"), (0, .class_ 354), (0, u "java/lang/Comparable"), (0, .class_ 356), (0, u "java/lang/CharSequence"), (0, u "serialVersionUID"), (0, u "J"), (40, u "toString"), (0, u "()Ljava/lang/String;")] 21

def k13c0 : Code := { maxStack := 2, maxLocals := 1, code := jdk_67_method_1_code, exceptionTable := #[], attributes := #[] }
def k13m0 : Method := { name := "<init>", desc := "()V", sig := { parameters := [], returnType := none }, accessFlags := 1, code := some k13c0 }
def k13c1 : Code := { maxStack := 2, maxLocals := 2, code := jdk_67_method_7_code, exceptionTable := #[], attributes := #[] }
def k13m1 : Method := { name := "append", desc := "(Ljava/lang/String;)Ljava/lang/StringBuilder;", sig := { parameters := [(.object "java/lang/String")], returnType := some (.object "java/lang/StringBuilder") }, accessFlags := 1, code := some k13c1 }
def k13c2 : Code := { maxStack := 3, maxLocals := 1, code := jdk_67_method_42_code, exceptionTable := #[], attributes := #[] }
def k13m2 : Method := { name := "toString", desc := "()Ljava/lang/String;", sig := { parameters := [], returnType := some (.object "java/lang/String") }, accessFlags := 1, code := some k13c2 }
def k13c3 : Code := { maxStack := 1, maxLocals := 1, code := jdk_67_method_93_code, exceptionTable := #[], attributes := #[] }
def k13m3 : Method := { name := "length", desc := "()I", sig := { parameters := [], returnType := some .int }, accessFlags := 4161, code := some k13c3 }
/-- java/lang/StringBuilder -/
def k13 : Class := { plain "java/lang/StringBuilder" (some 12) with
  accessFlags := 49
  interfaces := #[11, 2, 3, 4]
  cf := some (fileOf pool13 24 #[] #[{ accessFlags := 1, nameIndex := 5, descriptorIndex := 145, attributes := #[] }, { accessFlags := 1, nameIndex := 27, descriptorIndex := 28, attributes := #[] }, { accessFlags := 1, nameIndex := 399, descriptorIndex := 400, attributes := #[] }, { accessFlags := 4161, nameIndex := 345, descriptorIndex := 156, attributes := #[] }] 49 2 #[349, 351, 353, 355] #[{ accessFlags := 24, nameIndex := 357, descriptorIndex := 358, attributes := #[] }])
  fields := #[{ name := "serialVersionUID", type := .long, accessFlags := 24, slot := 0, constantValue := 0 }]
  methods := #[k13m0, k13m1, k13m2, k13m3]
  instanceTypes := #[(.array .byte), .byte, .boolean, .int]
  staticTypes := #[.long]
  resolved := Array.replicate 422 none
  statics := none }

def pool14 : Array CpInfo := pool [(2, .class_ 4), (1, u "java/lang/Object"), (0, u "<init>"), (0, u "()V"), (1, .class_ 10), (1, u "java/lang/System"), (0, u "allowSecurityManager"), (0, u "I"), (16, u "cons"), (0, u "Ljava/io/Console;"), (77, .class_ 110), (1, u "java/lang/System$CallersHolder"), (43, u "initialErrStream"), (0, u "Ljava/io/PrintStream;"), (19, u "security"), (0, u "Ljava/lang/SecurityManager;"), (31, .class_ 209), (0, u "java/lang/System$1"), (7, u "props"), (0, u "Ljava/util/Properties;"), (2, u "lineSeparator"), (0, u "Ljava/lang/String;"), (96, .class_ 321), (1, u "java/lang/System$LoggerFinder"), (5, .class_ 328), (0, u "java/lang/System$Logger"), (67, u "err"), (2, u "out"), (91, u "notSupportedJnuEncoding"), (15, u "in"), (17, u "initialIn"), (0, u "Ljava/io/InputStream;"), (35, u "bootLayer"), (0, u "Ljava/lang/ModuleLayer;"), (99, .class_ 664), (0, u "java/lang/System$2"), (9, u "NEVER"), (2, u "MAYBE"), (49, u "arraycopy"), (0, u "(Ljava/lang/Object;ILjava/lang/Object;II)V"), (72, .class_ 802), (0, u "java/lang/System$Logger$Level")] 31

def k14m0 : Method := { name := "<init>", desc := "()V", sig := { parameters := [], returnType := none }, accessFlags := 2, code := none }
def k14m1 : Method := { name := "arraycopy", desc := "(Ljava/lang/Object;ILjava/lang/Object;II)V", sig := { parameters := [(.object "java/lang/Object"), .int, (.object "java/lang/Object"), .int, .int], returnType := none }, accessFlags := 265, code := none }
/-- java/lang/System -/
def k14 : Class := { plain "java/lang/System" (some 0) with
  accessFlags := 49
  interfaces := #[]
  cf := some (fileOf pool14 8 #[.nestMembers #[319, 327, 801, 108, 663, 208]] #[{ accessFlags := 2, nameIndex := 5, descriptorIndex := 6, attributes := #[] }, { accessFlags := 265, nameIndex := 727, descriptorIndex := 728, attributes := #[] }] 49 2 #[] #[{ accessFlags := 25, nameIndex := 507, descriptorIndex := 526, attributes := #[] }, { accessFlags := 25, nameIndex := 399, descriptorIndex := 155, attributes := #[] }, { accessFlags := 25, nameIndex := 396, descriptorIndex := 155, attributes := #[] }, { accessFlags := 10, nameIndex := 525, descriptorIndex := 526, attributes := #[] }, { accessFlags := 26, nameIndex := 674, descriptorIndex := 12, attributes := #[] }, { accessFlags := 26, nameIndex := 677, descriptorIndex := 12, attributes := #[] }, { accessFlags := 10, nameIndex := 11, descriptorIndex := 12, attributes := #[] }, { accessFlags := 74, nameIndex := 175, descriptorIndex := 176, attributes := #[] }, { accessFlags := 10, nameIndex := 491, descriptorIndex := 222, attributes := #[] }, { accessFlags := 74, nameIndex := 29, descriptorIndex := 30, attributes := #[] }, { accessFlags := 74, nameIndex := 154, descriptorIndex := 155, attributes := #[] }, { accessFlags := 10, nameIndex := 217, descriptorIndex := 218, attributes := #[] }, { accessFlags := 10, nameIndex := 221, descriptorIndex := 222, attributes := #[] }, { accessFlags := 8, nameIndex := 562, descriptorIndex := 563, attributes := #[] }])
  fields := #[{ name := "in", type := (.object "java/io/InputStream"), accessFlags := 25, slot := 0, constantValue := 0 }, { name := "out", type := (.object "java/io/PrintStream"), accessFlags := 25, slot := 1, constantValue := 0 }, { name := "err", type := (.object "java/io/PrintStream"), accessFlags := 25, slot := 2, constantValue := 0 }, { name := "initialIn", type := (.object "java/io/InputStream"), accessFlags := 10, slot := 3, constantValue := 0 }, { name := "NEVER", type := .int, accessFlags := 26, slot := 4, constantValue := 0 }, { name := "MAYBE", type := .int, accessFlags := 26, slot := 5, constantValue := 0 }, { name := "allowSecurityManager", type := .int, accessFlags := 10, slot := 6, constantValue := 0 }, { name := "security", type := (.object "java/lang/SecurityManager"), accessFlags := 74, slot := 7, constantValue := 0 }, { name := "notSupportedJnuEncoding", type := (.object "java/lang/String"), accessFlags := 10, slot := 8, constantValue := 0 }, { name := "cons", type := (.object "java/io/Console"), accessFlags := 74, slot := 9, constantValue := 0 }, { name := "initialErrStream", type := (.object "java/io/PrintStream"), accessFlags := 74, slot := 10, constantValue := 0 }, { name := "props", type := (.object "java/util/Properties"), accessFlags := 10, slot := 11, constantValue := 0 }, { name := "lineSeparator", type := (.object "java/lang/String"), accessFlags := 10, slot := 12, constantValue := 0 }, { name := "bootLayer", type := (.object "java/lang/ModuleLayer"), accessFlags := 8, slot := 13, constantValue := 0 }]
  methods := #[k14m0, k14m1]
  instanceTypes := #[]
  staticTypes := #[(.object "java/io/InputStream"), (.object "java/io/PrintStream"), (.object "java/io/PrintStream"), (.object "java/io/InputStream"), .int, .int, .int, (.object "java/lang/SecurityManager"), (.object "java/lang/String"), (.object "java/io/Console"), (.object "java/io/PrintStream"), (.object "java/util/Properties"), (.object "java/lang/String"), (.object "java/lang/ModuleLayer")]
  resolved := Array.replicate 834 none
  statics := none }

def pool15 : Array CpInfo := pool [(2, .class_ 4), (1, u "java/lang/Object"), (0, u "<init>"), (0, u "()V"), (7, .class_ 16), (1, u "java/util/Arrays"), (57, .class_ 76), (1, u "java/util/Arrays$NaturalOrder"), (36, .class_ 115), (1, u "java/util/Arrays$LegacyMergeSort"), (1, u "Z"), (21, u "copyOfRange"), (10, .methodref 151 152), (0, .class_ 153), (0, .nameAndType 154 155), (0, u "java/lang/System"), (0, u "arraycopy"), (0, u "(Ljava/lang/Object;ILjava/lang/Object;II)V"), (146, u "copyOf"), (1, .methodref 305 306), (0, .class_ 307), (0, .nameAndType 308 309), (0, u "java/lang/Math"), (0, u "min"), (0, u "(II)I"), (29, .methodref 14 340), (0, .nameAndType 341 342), (0, u "copyOfRangeByte"), (0, u "([BII)[B"), (0, .methodref 14 344), (0, .nameAndType 345 346), (0, u "checkLength"), (0, u "(II)V"), (28, .class_ 376), (0, u "java/util/Arrays$ArrayList"), (68, u "$assertionsDisabled"), (269, u "MIN_ARRAY_SORT_GRAN"), (0, u "I"), (2, u "INSERTIONSORT_THRESHOLD"), (149, u "([BI)[B"), (105, .class_ 976), (0, u "java/util/Arrays$ArrayItr")] 52

def k15m0 : Method := { name := "<init>", desc := "()V", sig := { parameters := [], returnType := none }, accessFlags := 2, code := none }
def k15c1 : Code := { maxStack := 6, maxLocals := 3, code := jdk_65_method_121_code, exceptionTable := #[], attributes := #[] }
def k15m1 : Method := { name := "copyOf", desc := "([BI)[B", sig := { parameters := [(.array .byte), .int], returnType := some (.array .byte) }, accessFlags := 9, code := some k15c1 }
def k15c2 : Code := { maxStack := 4, maxLocals := 2, code := jdk_65_method_131_code, exceptionTable := #[], attributes := #[] }
def k15m2 : Method := { name := "checkLength", desc := "(II)V", sig := { parameters := [.int, .int], returnType := none }, accessFlags := 10, code := some k15c2 }
def k15c3 : Code := { maxStack := 3, maxLocals := 3, code := jdk_65_method_132_code, exceptionTable := #[], attributes := #[] }
def k15m3 : Method := { name := "copyOfRange", desc := "([BII)[B", sig := { parameters := [(.array .byte), .int, .int], returnType := some (.array .byte) }, accessFlags := 9, code := some k15c3 }
def k15c4 : Code := { maxStack := 6, maxLocals := 5, code := jdk_65_method_133_code, exceptionTable := #[], attributes := #[] }
def k15m4 : Method := { name := "copyOfRangeByte", desc := "([BII)[B", sig := { parameters := [(.array .byte), .int, .int], returnType := some (.array .byte) }, accessFlags := 10, code := some k15c4 }
/-- java/util/Arrays -/
def k15 : Class := { plain "java/util/Arrays" (some 0) with
  accessFlags := 49
  interfaces := #[]
  cf := some (fileOf pool15 14 #[.nestMembers #[975, 375, 113, 74]] #[{ accessFlags := 2, nameIndex := 5, descriptorIndex := 6, attributes := #[] }, { accessFlags := 9, nameIndex := 302, descriptorIndex := 869, attributes := #[] }, { accessFlags := 10, nameIndex := 345, descriptorIndex := 346, attributes := #[] }, { accessFlags := 9, nameIndex := 139, descriptorIndex := 342, attributes := #[] }, { accessFlags := 10, nameIndex := 341, descriptorIndex := 342, attributes := #[] }] 49 2 #[] #[{ accessFlags := 26, nameIndex := 715, descriptorIndex := 716, attributes := #[] }, { accessFlags := 26, nameIndex := 719, descriptorIndex := 716, attributes := #[] }, { accessFlags := 4120, nameIndex := 445, descriptorIndex := 117, attributes := #[] }])
  fields := #[{ name := "MIN_ARRAY_SORT_GRAN", type := .int, accessFlags := 26, slot := 0, constantValue := 0 }, { name := "INSERTIONSORT_THRESHOLD", type := .int, accessFlags := 26, slot := 1, constantValue := 0 }, { name := "$assertionsDisabled", type := .boolean, accessFlags := 4120, slot := 2, constantValue := 0 }]
  methods := #[k15m0, k15m1, k15m2, k15m3, k15m4]
  instanceTypes := #[]
  staticTypes := #[.int, .int, .boolean]
  resolved := Array.replicate 1029 none
  statics := none }

def pool16 : Array CpInfo := pool [(1, .class_ 2), (0, u "java/lang/Math"), (1, .class_ 6), (1, u "java/lang/Object"), (0, u "<init>"), (0, u "()V"), (89, .class_ 100), (1, u "java/lang/Math$RandomNumberGeneratorHolder"), (71, u "negativeZeroFloatBits"), (0, u "J"), (2, u "negativeZeroDoubleBits"), (21, u "max"), (2, u "min"), (43, u "$assertionsDisabled"), (0, u "Z"), (88, u "(II)I"), (2, u "twoToTheDoubleScaleDown"), (0, u "D"), (4, u "twoToTheDoubleScaleUp"), (9, u "E"), (3, u "PI"), (2, u "TAU"), (2, u "DEGREES_TO_RADIANS"), (0, u "RADIANS_TO_DEGREES")] 94

def k16m0 : Method := { name := "<init>", desc := "()V", sig := { parameters := [], returnType := none }, accessFlags := 2, code := none }
def k16c1 : Code := { maxStack := 2, maxLocals := 2, code := jdk_29_method_65_code, exceptionTable := #[], attributes := #[] }
def k16m1 : Method := { name := "max", desc := "(II)I", sig := { parameters := [.int, .int], returnType := some .int }, accessFlags := 9, code := some k16c1 }
def k16c2 : Code := { maxStack := 2, maxLocals := 2, code := jdk_29_method_69_code, exceptionTable := #[], attributes := #[] }
def k16m2 : Method := { name := "min", desc := "(II)I", sig := { parameters := [.int, .int], returnType := some .int }, accessFlags := 9, code := some k16c2 }
/-- java/lang/Math -/
def k16 : Class := { plain "java/lang/Math" (some 0) with
  accessFlags := 49
  interfaces := #[]
  cf := some (fileOf pool16 1 #[.nestMembers #[98]] #[{ accessFlags := 2, nameIndex := 7, descriptorIndex := 8, attributes := #[] }, { accessFlags := 9, nameIndex := 198, descriptorIndex := 335, attributes := #[] }, { accessFlags := 9, nameIndex := 201, descriptorIndex := 335, attributes := #[] }] 49 4 #[] #[{ accessFlags := 25, nameIndex := 354, descriptorIndex := 339, attributes := #[] }, { accessFlags := 25, nameIndex := 358, descriptorIndex := 339, attributes := #[] }, { accessFlags := 25, nameIndex := 361, descriptorIndex := 339, attributes := #[] }, { accessFlags := 26, nameIndex := 364, descriptorIndex := 339, attributes := #[] }, { accessFlags := 26, nameIndex := 365, descriptorIndex := 339, attributes := #[] }, { accessFlags := 26, nameIndex := 172, descriptorIndex := 173, attributes := #[] }, { accessFlags := 26, nameIndex := 176, descriptorIndex := 173, attributes := #[] }, { accessFlags := 8, nameIndex := 344, descriptorIndex := 339, attributes := #[] }, { accessFlags := 8, nameIndex := 338, descriptorIndex := 339, attributes := #[] }, { accessFlags := 4120, nameIndex := 245, descriptorIndex := 246, attributes := #[] }])
  fields := #[{ name := "E", type := .double, accessFlags := 25, slot := 0, constantValue := 0 }, { name := "PI", type := .double, accessFlags := 25, slot := 1, constantValue := 0 }, { name := "TAU", type := .double, accessFlags := 25, slot := 2, constantValue := 0 }, { name := "DEGREES_TO_RADIANS", type := .double, accessFlags := 26, slot := 3, constantValue := 0 }, { name := "RADIANS_TO_DEGREES", type := .double, accessFlags := 26, slot := 4, constantValue := 0 }, { name := "negativeZeroFloatBits", type := .long, accessFlags := 26, slot := 5, constantValue := 0 }, { name := "negativeZeroDoubleBits", type := .long, accessFlags := 26, slot := 6, constantValue := 0 }, { name := "twoToTheDoubleScaleUp", type := .double, accessFlags := 8, slot := 7, constantValue := 0 }, { name := "twoToTheDoubleScaleDown", type := .double, accessFlags := 8, slot := 8, constantValue := 0 }, { name := "$assertionsDisabled", type := .boolean, accessFlags := 4120, slot := 9, constantValue := 0 }]
  methods := #[k16m0, k16m1, k16m2]
  instanceTypes := #[]
  staticTypes := #[.double, .double, .double, .double, .double, .long, .long, .double, .double, .boolean]
  resolved := Array.replicate 460 none
  statics := none }

def pool17 : Array CpInfo := pool [(4, .class_ 6), (1, u "java/lang/Object"), (0, u "<init>"), (0, u "()V"), (5, .class_ 16), (1, u "java/lang/StringLatin1"), (104, u "$assertionsDisabled"), (0, u "Z"), (98, .class_ 223), (1, u "java/lang/StringLatin1$LinesSpliterator"), (57, u "equals"), (0, u "([B[B)Z"), (107, .class_ 391), (0, u "java/lang/StringLatin1$CharsSpliterator")] 3

def k17m0 : Method := { name := "<init>", desc := "()V", sig := { parameters := [], returnType := none }, accessFlags := 0, code := none }
def k17c1 : Code := { maxStack := 3, maxLocals := 3, code := jdk_43_method_13_code, exceptionTable := #[], attributes := #[] }
def k17m1 : Method := { name := "equals", desc := "([B[B)Z", sig := { parameters := [(.array .byte), (.array .byte)], returnType := some .boolean }, accessFlags := 9, code := some k17c1 }
/-- java/lang/StringLatin1 -/
def k17 : Class := { plain "java/lang/StringLatin1" (some 0) with
  accessFlags := 48
  interfaces := #[]
  cf := some (fileOf pool17 14 #[.nestMembers #[390, 221]] #[{ accessFlags := 0, nameIndex := 7, descriptorIndex := 8, attributes := #[] }, { accessFlags := 9, nameIndex := 281, descriptorIndex := 282, attributes := #[] }] 48 4 #[] #[{ accessFlags := 4120, nameIndex := 121, descriptorIndex := 122, attributes := #[] }])
  fields := #[{ name := "$assertionsDisabled", type := .boolean, accessFlags := 4120, slot := 0, constantValue := 0 }]
  methods := #[k17m0, k17m1]
  instanceTypes := #[]
  staticTypes := #[.boolean]
  resolved := Array.replicate 395 none
  statics := none }

def pool18 : Array CpInfo := pool [(9, u "<init>"), (6, .class_ 18), (1, u "java/lang/Object"), (0, u "()V"), (1, .class_ 23), (1, u "jdk/internal/util/ArraysSupport"), (0, u "LOG2_ARRAY_LONG_INDEX_SCALE"), (0, u "I"), (2, u "U"), (0, u "Ljdk/internal/misc/Unsafe;"), (8, u "BIG_ENDIAN"), (0, u "Z"), (8, u "LOG2_BYTE_BIT_SIZE"), (4, u "LOG2_ARRAY_INT_INDEX_SCALE"), (54, u "JLA"), (0, u "Ljdk/internal/access/JavaLangAccess;"), (11, u "LOG2_ARRAY_BOOLEAN_INDEX_SCALE"), (9, u "LOG2_ARRAY_BYTE_INDEX_SCALE"), (5, u "LOG2_ARRAY_CHAR_INDEX_SCALE"), (5, u "LOG2_ARRAY_SHORT_INDEX_SCALE"), (18, u "LOG2_ARRAY_FLOAT_INDEX_SCALE"), (24, u "LOG2_ARRAY_DOUBLE_INDEX_SCALE"), (6, .methodref 195 196), (0, .class_ 197), (0, .nameAndType 198 199), (0, u "java/lang/Math"), (0, u "max"), (0, u "(II)I"), (0, .integer 2147483639), (76, u "T_BOOLEAN"), (2, u "T_CHAR"), (1, u "T_FLOAT"), (1, u "T_DOUBLE"), (1, u "T_BYTE"), (1, u "T_SHORT"), (1, u "T_INT"), (1, u "T_LONG"), (1, u "SOFT_MAX_ARRAY_LENGTH"), (56, u "newLength"), (0, u "(III)I")] 25

def k18m0 : Method := { name := "<init>", desc := "()V", sig := { parameters := [], returnType := none }, accessFlags := 2, code := none }
def k18c1 : Code := { maxStack := 3, maxLocals := 4, code := jdk_48_method_27_code, exceptionTable := #[], attributes := #[] }
def k18m1 : Method := { name := "newLength", desc := "(III)I", sig := { parameters := [.int, .int, .int], returnType := some .int }, accessFlags := 9, code := some k18c1 }
/-- jdk/internal/util/ArraysSupport -/
def k18 : Class := { plain "jdk/internal/util/ArraysSupport" (some 0) with
  accessFlags := 33
  interfaces := #[]
  cf := some (fileOf pool18 21 #[] #[{ accessFlags := 2, nameIndex := 9, descriptorIndex := 19, attributes := #[] }, { accessFlags := 9, nameIndex := 351, descriptorIndex := 352, attributes := #[] }] 33 16 #[] #[{ accessFlags := 24, nameIndex := 28, descriptorIndex := 29, attributes := #[] }, { accessFlags := 26, nameIndex := 38, descriptorIndex := 39, attributes := #[] }, { accessFlags := 25, nameIndex := 121, descriptorIndex := 25, attributes := #[] }, { accessFlags := 25, nameIndex := 131, descriptorIndex := 25, attributes := #[] }, { accessFlags := 25, nameIndex := 137, descriptorIndex := 25, attributes := #[] }, { accessFlags := 25, nameIndex := 143, descriptorIndex := 25, attributes := #[] }, { accessFlags := 25, nameIndex := 53, descriptorIndex := 25, attributes := #[] }, { accessFlags := 25, nameIndex := 24, descriptorIndex := 25, attributes := #[] }, { accessFlags := 25, nameIndex := 162, descriptorIndex := 25, attributes := #[] }, { accessFlags := 25, nameIndex := 187, descriptorIndex := 25, attributes := #[] }, { accessFlags := 26, nameIndex := 48, descriptorIndex := 25, attributes := #[] }, { accessFlags := 25, nameIndex := 277, descriptorIndex := 25, attributes := #[] }, { accessFlags := 25, nameIndex := 280, descriptorIndex := 25, attributes := #[] }, { accessFlags := 25, nameIndex := 282, descriptorIndex := 25, attributes := #[] }, { accessFlags := 25, nameIndex := 284, descriptorIndex := 25, attributes := #[] }, { accessFlags := 25, nameIndex := 286, descriptorIndex := 25, attributes := #[] }, { accessFlags := 25, nameIndex := 288, descriptorIndex := 25, attributes := #[] }, { accessFlags := 25, nameIndex := 290, descriptorIndex := 25, attributes := #[] }, { accessFlags := 25, nameIndex := 292, descriptorIndex := 25, attributes := #[] }, { accessFlags := 26, nameIndex := 108, descriptorIndex := 109, attributes := #[] }, { accessFlags := 25, nameIndex := 294, descriptorIndex := 25, attributes := #[] }])
  fields := #[{ name := "U", type := (.object "jdk/internal/misc/Unsafe"), accessFlags := 24, slot := 0, constantValue := 0 }, { name := "BIG_ENDIAN", type := .boolean, accessFlags := 26, slot := 1, constantValue := 0 }, { name := "LOG2_ARRAY_BOOLEAN_INDEX_SCALE", type := .int, accessFlags := 25, slot := 2, constantValue := 0 }, { name := "LOG2_ARRAY_BYTE_INDEX_SCALE", type := .int, accessFlags := 25, slot := 3, constantValue := 0 }, { name := "LOG2_ARRAY_CHAR_INDEX_SCALE", type := .int, accessFlags := 25, slot := 4, constantValue := 0 }, { name := "LOG2_ARRAY_SHORT_INDEX_SCALE", type := .int, accessFlags := 25, slot := 5, constantValue := 0 }, { name := "LOG2_ARRAY_INT_INDEX_SCALE", type := .int, accessFlags := 25, slot := 6, constantValue := 0 }, { name := "LOG2_ARRAY_LONG_INDEX_SCALE", type := .int, accessFlags := 25, slot := 7, constantValue := 0 }, { name := "LOG2_ARRAY_FLOAT_INDEX_SCALE", type := .int, accessFlags := 25, slot := 8, constantValue := 0 }, { name := "LOG2_ARRAY_DOUBLE_INDEX_SCALE", type := .int, accessFlags := 25, slot := 9, constantValue := 0 }, { name := "LOG2_BYTE_BIT_SIZE", type := .int, accessFlags := 26, slot := 10, constantValue := 0 }, { name := "T_BOOLEAN", type := .int, accessFlags := 25, slot := 11, constantValue := 0 }, { name := "T_CHAR", type := .int, accessFlags := 25, slot := 12, constantValue := 0 }, { name := "T_FLOAT", type := .int, accessFlags := 25, slot := 13, constantValue := 0 }, { name := "T_DOUBLE", type := .int, accessFlags := 25, slot := 14, constantValue := 0 }, { name := "T_BYTE", type := .int, accessFlags := 25, slot := 15, constantValue := 0 }, { name := "T_SHORT", type := .int, accessFlags := 25, slot := 16, constantValue := 0 }, { name := "T_INT", type := .int, accessFlags := 25, slot := 17, constantValue := 0 }, { name := "T_LONG", type := .int, accessFlags := 25, slot := 18, constantValue := 0 }, { name := "JLA", type := (.object "jdk/internal/access/JavaLangAccess"), accessFlags := 26, slot := 19, constantValue := 0 }, { name := "SOFT_MAX_ARRAY_LENGTH", type := .int, accessFlags := 25, slot := 20, constantValue := 0 }]
  methods := #[k18m0, k18m1]
  instanceTypes := #[]
  staticTypes := #[(.object "jdk/internal/misc/Unsafe"), .boolean, .int, .int, .int, .int, .int, .int, .int, .int, .int, .int, .int, .int, .int, .int, .int, .int, .int, (.object "jdk/internal/access/JavaLangAccess"), .int]
  resolved := Array.replicate 378 none
  statics := none }

def pool19 : Array CpInfo := pool [(2, .class_ 4), (1, u "java/lang/Object"), (0, u "<init>"), (0, u "()V"), (17, .class_ 26), (1, u "jdk/internal/util/Preconditions"), (28, .class_ 56), (0, u "jdk/internal/util/Preconditions$4"), (57, .class_ 115), (0, u "jdk/internal/util/Preconditions$1"), (7, u "SIOOBE_FORMATTER"), (0, u "Ljava/util/function/BiFunction;"), (0, .class_ 126), (0, u "jdk/internal/util/Preconditions$2"), (3, u "AIOOBE_FORMATTER"), (0, .class_ 132), (0, u "jdk/internal/util/Preconditions$3"), (3, u "IOOBE_FORMATTER")] 57

def k19m0 : Method := { name := "<init>", desc := "()V", sig := { parameters := [], returnType := none }, accessFlags := 1, code := none }
/-- jdk/internal/util/Preconditions -/
def k19 : Class := { plain "jdk/internal/util/Preconditions" (some 0) with
  accessFlags := 33
  interfaces := #[]
  cf := some (fileOf pool19 24 #[.nestMembers #[55, 131, 125, 114]] #[{ accessFlags := 1, nameIndex := 5, descriptorIndex := 6, attributes := #[] }] 33 2 #[] #[{ accessFlags := 25, nameIndex := 123, descriptorIndex := 124, attributes := #[] }, { accessFlags := 25, nameIndex := 130, descriptorIndex := 124, attributes := #[] }, { accessFlags := 25, nameIndex := 136, descriptorIndex := 124, attributes := #[] }])
  fields := #[{ name := "SIOOBE_FORMATTER", type := (.object "java/util/function/BiFunction"), accessFlags := 25, slot := 0, constantValue := 0 }, { name := "AIOOBE_FORMATTER", type := (.object "java/util/function/BiFunction"), accessFlags := 25, slot := 1, constantValue := 0 }, { name := "IOOBE_FORMATTER", type := (.object "java/util/function/BiFunction"), accessFlags := 25, slot := 2, constantValue := 0 }]
  methods := #[k19m0]
  instanceTypes := #[]
  staticTypes := #[(.object "java/util/function/BiFunction"), (.object "java/util/function/BiFunction"), (.object "java/util/function/BiFunction")]
  resolved := Array.replicate 194 none
  statics := some 1 }

def pool20 : Array CpInfo := pool [(1, u "java/lang/Cloneable"), (0, .class_ 1), (0, u "java/lang/Object"), (0, .class_ 3)] 3

/-- java/lang/Cloneable -/
def k20 : Class := { plain "java/lang/Cloneable" (some 0) with
  accessFlags := 1537
  interfaces := #[]
  cf := some (fileOf pool20 2 #[] #[] 1537 4 #[] #[])
  fields := #[]
  methods := #[]
  instanceTypes := #[]
  staticTypes := #[]
  resolved := Array.replicate 8 none
  statics := none }

/-- the primitive byte -/
def k21 : Class := { plain "byte" none with kind := .primitive 'B', accessFlags := 0x411 }
/-- [B -/
def k22 : Class := { plain "[B" (some 0) with kind := .array 21 .byte, interfaces := #[20, 2], accessFlags := 1041 }

/-- the primitive char -/
def k23 : Class := { plain "char" none with kind := .primitive 'C', accessFlags := 0x411 }
/-- [C -/
def k24 : Class := { plain "[C" (some 0) with kind := .array 23 .char, interfaces := #[20, 2], accessFlags := 1041 }

/-- the primitive int -/
def k25 : Class := { plain "int" none with kind := .primitive 'I', accessFlags := 0x411 }
/-- [I -/
def k26 : Class := { plain "[I" (some 0) with kind := .array 25 .int, interfaces := #[20, 2], accessFlags := 1041 }

def heap : Heap := #[{ cls := 7, slots := #[.long 0, .int 1, .null, .int 0, .null, .int 0, .int 0], vm := .statics 7 },
  { cls := 19, slots := #[.null, .null, .null], vm := .statics 19 }]
def classes : Array Class := #[k0, k1, k2, k3, k4, k5, k6, k7, k8, k9, k10, k11, k12, k13, k14, k15, k16, k17, k18, k19, k20, k21, k22, k23, k24, k25, k26]
def interned : List (Array UInt16 × Addr) := []
def slotsUsed : Nat := 10
def theMethod : MethodId := ⟨1, 1⟩
def args0 : Array Value := #[.int 3, .int 5, .int 7, .int 9]
def aboutOver (below : List Frame) : State where
  vm := { classes := classes, interned := interned.toArray }
  heap := heap
  slotsUsed := slotsUsed
  threads := #[{ frames := .invoking theMethod args0 :: below }]
def below0 : List Frame := [.native { method := ⟨0, 0⟩, args := #[] }]
def about1 : State := aboutOver below0
def p0 : Program := .bare "" "" ""
def e0 : Env := launch0.env 0 0 0
theorem w_frames : about1.frames = Frame.invoking theMethod args0 :: below0 := rfl
set_option maxRecDepth 65536 in
theorem w_args : argsFit about1.vm theMethod args0 = true := by decide +kernel
set_option maxRecDepth 65536 in
theorem w_heap : heapFits about1 = true := by decide +kernel
set_option maxRecDepth 65536 in
theorem w_runnable : about1.curStatus? = some .runnable := by decide +kernel
set_option maxRecDepth 65536 in
theorem w_alone : about1.alone = true := by decide +kernel
set_option maxRecDepth 65536 in
theorem w_named : about1.methodNamed? x = some theMethod := by decide +kernel
set_option maxRecDepth 65536 in
theorem w_hears : about1.hears theMethod below0 = true := by decide +kernel
set_option maxRecDepth 65536 in
theorem w_ripe : about1.ripe theMethod args0 below0 = true := by decide +kernel
theorem w_running : about1.status = .running := rfl
set_option maxRecDepth 65536 in
theorem w_room : about1.hasRoom e0.platform room_1 = true :=
  launch0.hasRoom_least _ room_1 (by decide +kernel) (by decide +kernel) (by decide +kernel) (by decide +kernel) (by decide +kernel) (by decide +kernel)
theorem allAtoms_all (ts : List Jvm.Cond) (a : Array Jvm.Value) (st : Jvm.State) : (allAtoms ts).before a st = ts.all (fun c => c.before a st) := by
  induction ts with
  | nil => rfl
  | cons c t ih =>
    show (Jvm.Cond.and c (allAtoms t)).before a st = _
    rw [Jvm.Cond.before_and, ih, List.all_cons]
def words1 : List Jvm.Cond := Jvm.Cond.code x code maxLocals ret :: tables_1
/-- a 'code' word, met by the world's own term for the bytes: nothing is compared byte by byte -/
theorem code_word {y : MethodName} {bytes : ByteArray} {mx : Nat} {rt : Option FieldType} {a : Array Value} {s : State} {m : MethodId} {meth : Method} {c : Code} (h1 : s.methodNamed? y = some m) (h2 : s.vm.method? m = some meth) (h3 : meth.code = some c) (h4 : c.code = bytes)
    (h5 : (c.maxLocals == mx && c.exceptionTable.isEmpty && decide (c.maxStack ≤ mostOperands) && decide (meth.sig.returnType = rt) && !meth.locks && decide (parseMethodDescriptor y.desc = some meth.sig)) = true) : (Jvm.Cond.code y bytes mx rt).before a s = true := by
  simp only [Bool.and_eq_true, beq_iff_eq, Bool.not_eq_true', decide_eq_true_eq] at h5
  obtain ⟨⟨⟨⟨⟨g1, g2⟩, g3⟩, g4⟩, g5⟩, g6⟩ := h5
  simp [Cond.before, Cond.holds, Cond.value, h1, h2, h3, h4, g1, g2, g3, g4, g5, g6]
def isCode : Jvm.Cond → Bool
  | .code _ _ _ _ => true
  | _ => false
theorem all_split {L : List Jvm.Cond} {P : Jvm.Cond → Bool} (h1 : L.all (fun c => isCode c || P c) = true) (h2 : ∀ c ∈ L.filter isCode, P c = true) : L.all P = true := by
  refine List.all_eq_true.mpr fun c hc => ?_
  have h := List.all_eq_true.mp h1 c hc
  rcases Bool.eq_false_or_eq_true (isCode c) with hi | hi
  · exact h2 c (List.mem_filter.mpr ⟨hc, hi⟩)
  · simpa [hi] using h
set_option maxRecDepth 65536 in
theorem w_c0 : (Jvm.Cond.code x code maxLocals ret).before args0 about1 = true := code_word (m := ⟨1, 1⟩) (meth := k1m1) (c := k1c1) (by decide +kernel) rfl rfl rfl (by decide +kernel)
set_option maxRecDepth 65536 in
theorem w_c1 : (Jvm.Cond.code ({ cls := "java/lang/String", name := "<init>", desc := "([C)V" } : Jvm.MethodName) jdk_42_method_3_code (2 : Nat) (Option.none : Option Jvm.ClassFile.FieldType)).before args0 about1 = true := code_word (m := ⟨7, 1⟩) (meth := k7m1) (c := k7c1) (by decide +kernel) rfl rfl rfl (by decide +kernel)
set_option maxRecDepth 65536 in
theorem w_c2 : (Jvm.Cond.code ({ cls := "java/lang/String", name := "<init>", desc := "([CIILjava/lang/Void;)V" } : Jvm.MethodName) jdk_42_method_149_code (6 : Nat) (Option.none : Option Jvm.ClassFile.FieldType)).before args0 about1 = true := code_word (m := ⟨7, 6⟩) (meth := k7m6) (c := k7c6) (by decide +kernel) rfl rfl rfl (by decide +kernel)
set_option maxRecDepth 65536 in
theorem w_c3 : (Jvm.Cond.code ({ cls := "java/lang/Object", name := "<init>", desc := "()V" } : Jvm.MethodName) object_method_1_code (1 : Nat) (Option.none : Option Jvm.ClassFile.FieldType)).before args0 about1 = true := code_word (m := ⟨0, 0⟩) (meth := k0m0) (c := k0c0) (by decide +kernel) rfl rfl rfl (by decide +kernel)
set_option maxRecDepth 65536 in
theorem w_c4 : (Jvm.Cond.code ({ cls := "java/lang/StringUTF16", name := "compress", desc := "([CII)[B" } : Jvm.MethodName) jdk_52_method_16_code (6 : Nat) (Option.some (Jvm.ClassFile.FieldType.array Jvm.ClassFile.FieldType.byte))).before args0 about1 = true := code_word (m := ⟨8, 2⟩) (meth := k8m2) (c := k8c2) (by decide +kernel) rfl rfl rfl (by decide +kernel)
set_option maxRecDepth 65536 in
theorem w_c5 : (Jvm.Cond.code ({ cls := "java/lang/StringUTF16", name := "compress", desc := "([CI[BII)I" } : Jvm.MethodName) jdk_52_method_21_code (7 : Nat) (Option.some Jvm.ClassFile.FieldType.int)).before args0 about1 = true := code_word (m := ⟨8, 3⟩) (meth := k8m3) (c := k8c3) (by decide +kernel) rfl rfl rfl (by decide +kernel)
set_option maxRecDepth 65536 in
theorem w_c6 : (Jvm.Cond.code ({ cls := "java/lang/StringUTF16", name := "coderFromArrayLen", desc := "([BI)B" } : Jvm.MethodName) jdk_52_method_15_code (2 : Nat) (Option.some Jvm.ClassFile.FieldType.byte)).before args0 about1 = true := code_word (m := ⟨8, 1⟩) (meth := k8m1) (c := k8c1) (by decide +kernel) rfl rfl rfl (by decide +kernel)
set_option maxRecDepth 65536 in
theorem w_c7 : (Jvm.Cond.code ({ cls := "com/example/orderly_settings/orderlysettings/BindingProblem", name := "<init>", desc := "(Ljava/lang/String;Ljava/lang/String;Ljava/lang/String;)V" } : Jvm.MethodName) prog_1_method_1_code (4 : Nat) (Option.none : Option Jvm.ClassFile.FieldType)).before args0 about1 = true := code_word (m := ⟨9, 0⟩) (meth := k9m0) (c := k9c0) (by decide +kernel) rfl rfl rfl (by decide +kernel)
set_option maxRecDepth 65536 in
theorem w_c8 : (Jvm.Cond.code ({ cls := "java/util/Objects", name := "requireNonNull", desc := "(Ljava/lang/Object;Ljava/lang/String;)Ljava/lang/Object;" } : Jvm.MethodName) jdk_31_method_11_code (2 : Nat) (Option.some (Jvm.ClassFile.FieldType.object "java/lang/Object"))).before args0 about1 = true := code_word (m := ⟨10, 1⟩) (meth := k10m1) (c := k10c1) (by decide +kernel) rfl rfl rfl (by decide +kernel)
set_option maxRecDepth 65536 in
theorem w_c9 : (Jvm.Cond.code ({ cls := "com/example/orderly_settings/orderlysettings/BindingProblem", name := "toString", desc := "()Ljava/lang/String;" } : Jvm.MethodName) prog_1_method_5_code (2 : Nat) (Option.some (Jvm.ClassFile.FieldType.object "java/lang/String"))).before args0 about1 = true := code_word (m := ⟨9, 1⟩) (meth := k9m1) (c := k9c1) (by decide +kernel) rfl rfl rfl (by decide +kernel)
set_option maxRecDepth 65536 in
theorem w_c10 : (Jvm.Cond.code ({ cls := "java/lang/StringBuilder", name := "<init>", desc := "()V" } : Jvm.MethodName) jdk_67_method_1_code (1 : Nat) (Option.none : Option Jvm.ClassFile.FieldType)).before args0 about1 = true := code_word (m := ⟨13, 0⟩) (meth := k13m0) (c := k13c0) (by decide +kernel) rfl rfl rfl (by decide +kernel)
set_option maxRecDepth 65536 in
theorem w_c11 : (Jvm.Cond.code ({ cls := "java/lang/AbstractStringBuilder", name := "<init>", desc := "(I)V" } : Jvm.MethodName) jdk_68_method_2_code (2 : Nat) (Option.none : Option Jvm.ClassFile.FieldType)).before args0 about1 = true := code_word (m := ⟨12, 1⟩) (meth := k12m1) (c := k12c1) (by decide +kernel) rfl rfl rfl (by decide +kernel)
set_option maxRecDepth 65536 in
theorem w_c12 : (Jvm.Cond.code ({ cls := "java/lang/StringBuilder", name := "append", desc := "(Ljava/lang/String;)Ljava/lang/StringBuilder;" } : Jvm.MethodName) jdk_67_method_7_code (2 : Nat) (Option.some (Jvm.ClassFile.FieldType.object "java/lang/StringBuilder"))).before args0 about1 = true := code_word (m := ⟨13, 1⟩) (meth := k13m1) (c := k13c1) (by decide +kernel) rfl rfl rfl (by decide +kernel)
set_option maxRecDepth 65536 in
theorem w_c13 : (Jvm.Cond.code ({ cls := "java/lang/AbstractStringBuilder", name := "append", desc := "(Ljava/lang/String;)Ljava/lang/AbstractStringBuilder;" } : Jvm.MethodName) jdk_68_method_22_code (3 : Nat) (Option.some (Jvm.ClassFile.FieldType.object "java/lang/AbstractStringBuilder"))).before args0 about1 = true := code_word (m := ⟨12, 5⟩) (meth := k12m5) (c := k12c5) (by decide +kernel) rfl rfl rfl (by decide +kernel)
set_option maxRecDepth 65536 in
theorem w_c14 : (Jvm.Cond.code ({ cls := "java/lang/String", name := "length", desc := "()I" } : Jvm.MethodName) jdk_42_method_54_code (1 : Nat) (Option.some Jvm.ClassFile.FieldType.int)).before args0 about1 = true := code_word (m := ⟨7, 3⟩) (meth := k7m3) (c := k7c3) (by decide +kernel) rfl rfl rfl (by decide +kernel)
set_option maxRecDepth 65536 in
theorem w_c15 : (Jvm.Cond.code ({ cls := "java/lang/String", name := "coder", desc := "()B" } : Jvm.MethodName) jdk_42_method_152_code (1 : Nat) (Option.some Jvm.ClassFile.FieldType.byte)).before args0 about1 = true := code_word (m := ⟨7, 8⟩) (meth := k7m8) (c := k7c8) (by decide +kernel) rfl rfl rfl (by decide +kernel)
set_option maxRecDepth 65536 in
theorem w_c16 : (Jvm.Cond.code ({ cls := "java/lang/AbstractStringBuilder", name := "ensureCapacityInternal", desc := "(I)V" } : Jvm.MethodName) jdk_68_method_9_code (3 : Nat) (Option.none : Option Jvm.ClassFile.FieldType)).before args0 about1 = true := code_word (m := ⟨12, 3⟩) (meth := k12m3) (c := k12c3) (by decide +kernel) rfl rfl rfl (by decide +kernel)
set_option maxRecDepth 65536 in
theorem w_c17 : (Jvm.Cond.code ({ cls := "java/lang/AbstractStringBuilder", name := "putStringAt", desc := "(ILjava/lang/String;)V" } : Jvm.MethodName) jdk_68_method_73_code (3 : Nat) (Option.none : Option Jvm.ClassFile.FieldType)).before args0 about1 = true := code_word (m := ⟨12, 9⟩) (meth := k12m9) (c := k12c9) (by decide +kernel) rfl rfl rfl (by decide +kernel)
set_option maxRecDepth 65536 in
theorem w_c18 : (Jvm.Cond.code ({ cls := "java/lang/AbstractStringBuilder", name := "inflateIfNeededFor", desc := "(Ljava/lang/String;)V" } : Jvm.MethodName) jdk_68_method_71_code (2 : Nat) (Option.none : Option Jvm.ClassFile.FieldType)).before args0 about1 = true := code_word (m := ⟨12, 8⟩) (meth := k12m8) (c := k12c8) (by decide +kernel) rfl rfl rfl (by decide +kernel)
set_option maxRecDepth 65536 in
theorem w_c19 : (Jvm.Cond.code ({ cls := "java/lang/String", name := "getBytes", desc := "([BIB)V" } : Jvm.MethodName) jdk_42_method_147_code (4 : Nat) (Option.none : Option Jvm.ClassFile.FieldType)).before args0 about1 = true := code_word (m := ⟨7, 5⟩) (meth := k7m5) (c := k7c5) (by decide +kernel) rfl rfl rfl (by decide +kernel)
set_option maxRecDepth 65536 in
theorem w_c20 : (Jvm.Cond.code ({ cls := "java/lang/StringBuilder", name := "toString", desc := "()Ljava/lang/String;" } : Jvm.MethodName) jdk_67_method_42_code (1 : Nat) (Option.some (Jvm.ClassFile.FieldType.object "java/lang/String"))).before args0 about1 = true := code_word (m := ⟨13, 2⟩) (meth := k13m2) (c := k13c2) (by decide +kernel) rfl rfl rfl (by decide +kernel)
set_option maxRecDepth 65536 in
theorem w_c21 : (Jvm.Cond.code ({ cls := "java/lang/String", name := "<init>", desc := "(Ljava/lang/StringBuilder;)V" } : Jvm.MethodName) jdk_42_method_53_code (2 : Nat) (Option.none : Option Jvm.ClassFile.FieldType)).before args0 about1 = true := code_word (m := ⟨7, 2⟩) (meth := k7m2) (c := k7c2) (by decide +kernel) rfl rfl rfl (by decide +kernel)
set_option maxRecDepth 65536 in
theorem w_c22 : (Jvm.Cond.code ({ cls := "java/lang/String", name := "<init>", desc := "(Ljava/lang/AbstractStringBuilder;Ljava/lang/Void;)V" } : Jvm.MethodName) jdk_42_method_150_code (5 : Nat) (Option.none : Option Jvm.ClassFile.FieldType)).before args0 about1 = true := code_word (m := ⟨7, 7⟩) (meth := k7m7) (c := k7c7) (by decide +kernel) rfl rfl rfl (by decide +kernel)
set_option maxRecDepth 65536 in
theorem w_c23 : (Jvm.Cond.code ({ cls := "java/lang/AbstractStringBuilder", name := "getValue", desc := "()[B" } : Jvm.MethodName) jdk_68_method_64_code (1 : Nat) (Option.some (Jvm.ClassFile.FieldType.array Jvm.ClassFile.FieldType.byte))).before args0 about1 = true := code_word (m := ⟨12, 6⟩) (meth := k12m6) (c := k12c6) (by decide +kernel) rfl rfl rfl (by decide +kernel)
set_option maxRecDepth 65536 in
theorem w_c24 : (Jvm.Cond.code ({ cls := "java/lang/StringBuilder", name := "length", desc := "()I" } : Jvm.MethodName) jdk_67_method_93_code (1 : Nat) (Option.some Jvm.ClassFile.FieldType.int)).before args0 about1 = true := code_word (m := ⟨13, 3⟩) (meth := k13m3) (c := k13c3) (by decide +kernel) rfl rfl rfl (by decide +kernel)
set_option maxRecDepth 65536 in
theorem w_c25 : (Jvm.Cond.code ({ cls := "java/lang/AbstractStringBuilder", name := "length", desc := "()I" } : Jvm.MethodName) jdk_68_method_6_code (1 : Nat) (Option.some Jvm.ClassFile.FieldType.int)).before args0 about1 = true := code_word (m := ⟨12, 2⟩) (meth := k12m2) (c := k12c2) (by decide +kernel) rfl rfl rfl (by decide +kernel)
set_option maxRecDepth 65536 in
theorem w_c26 : (Jvm.Cond.code ({ cls := "java/lang/AbstractStringBuilder", name := "isLatin1", desc := "()Z" } : Jvm.MethodName) jdk_68_method_68_code (1 : Nat) (Option.some Jvm.ClassFile.FieldType.boolean)).before args0 about1 = true := code_word (m := ⟨12, 7⟩) (meth := k12m7) (c := k12c7) (by decide +kernel) rfl rfl rfl (by decide +kernel)
set_option maxRecDepth 65536 in
theorem w_c27 : (Jvm.Cond.code ({ cls := "java/util/Arrays", name := "copyOfRange", desc := "([BII)[B" } : Jvm.MethodName) jdk_65_method_132_code (3 : Nat) (Option.some (Jvm.ClassFile.FieldType.array Jvm.ClassFile.FieldType.byte))).before args0 about1 = true := code_word (m := ⟨15, 3⟩) (meth := k15m3) (c := k15c3) (by decide +kernel) rfl rfl rfl (by decide +kernel)
set_option maxRecDepth 65536 in
theorem w_c28 : (Jvm.Cond.code ({ cls := "java/util/Arrays", name := "copyOfRangeByte", desc := "([BII)[B" } : Jvm.MethodName) jdk_65_method_133_code (5 : Nat) (Option.some (Jvm.ClassFile.FieldType.array Jvm.ClassFile.FieldType.byte))).before args0 about1 = true := code_word (m := ⟨15, 4⟩) (meth := k15m4) (c := k15c4) (by decide +kernel) rfl rfl rfl (by decide +kernel)
set_option maxRecDepth 65536 in
theorem w_c29 : (Jvm.Cond.code ({ cls := "java/util/Arrays", name := "checkLength", desc := "(II)V" } : Jvm.MethodName) jdk_65_method_131_code (2 : Nat) (Option.none : Option Jvm.ClassFile.FieldType)).before args0 about1 = true := code_word (m := ⟨15, 2⟩) (meth := k15m2) (c := k15c2) (by decide +kernel) rfl rfl rfl (by decide +kernel)
set_option maxRecDepth 65536 in
theorem w_c30 : (Jvm.Cond.code ({ cls := "java/lang/Math", name := "min", desc := "(II)I" } : Jvm.MethodName) jdk_29_method_69_code (2 : Nat) (Option.some Jvm.ClassFile.FieldType.int)).before args0 about1 = true := code_word (m := ⟨16, 2⟩) (meth := k16m2) (c := k16c2) (by decide +kernel) rfl rfl rfl (by decide +kernel)
set_option maxRecDepth 65536 in
theorem w_c31 : (Jvm.Cond.code ({ cls := "java/lang/String", name := "equals", desc := "(Ljava/lang/Object;)Z" } : Jvm.MethodName) jdk_42_method_66_code (3 : Nat) (Option.some Jvm.ClassFile.FieldType.boolean)).before args0 about1 = true := code_word (m := ⟨7, 4⟩) (meth := k7m4) (c := k7c4) (by decide +kernel) rfl rfl rfl (by decide +kernel)
set_option maxRecDepth 65536 in
theorem w_c32 : (Jvm.Cond.code ({ cls := "java/lang/StringLatin1", name := "equals", desc := "([B[B)Z" } : Jvm.MethodName) jdk_43_method_13_code (3 : Nat) (Option.some Jvm.ClassFile.FieldType.boolean)).before args0 about1 = true := code_word (m := ⟨17, 1⟩) (meth := k17m1) (c := k17c1) (by decide +kernel) rfl rfl rfl (by decide +kernel)
set_option maxRecDepth 65536 in
theorem w_c33 : (Jvm.Cond.code ({ cls := "java/lang/AbstractStringBuilder", name := "newCapacity", desc := "(I)I" } : Jvm.MethodName) jdk_68_method_10_code (6 : Nat) (Option.some Jvm.ClassFile.FieldType.int)).before args0 about1 = true := code_word (m := ⟨12, 4⟩) (meth := k12m4) (c := k12c4) (by decide +kernel) rfl rfl rfl (by decide +kernel)
set_option maxRecDepth 65536 in
theorem w_c34 : (Jvm.Cond.code ({ cls := "jdk/internal/util/ArraysSupport", name := "newLength", desc := "(III)I" } : Jvm.MethodName) jdk_48_method_27_code (4 : Nat) (Option.some Jvm.ClassFile.FieldType.int)).before args0 about1 = true := code_word (m := ⟨18, 1⟩) (meth := k18m1) (c := k18c1) (by decide +kernel) rfl rfl rfl (by decide +kernel)
set_option maxRecDepth 65536 in
theorem w_c35 : (Jvm.Cond.code ({ cls := "java/lang/Math", name := "max", desc := "(II)I" } : Jvm.MethodName) jdk_29_method_65_code (2 : Nat) (Option.some Jvm.ClassFile.FieldType.int)).before args0 about1 = true := code_word (m := ⟨16, 1⟩) (meth := k16m1) (c := k16c1) (by decide +kernel) rfl rfl rfl (by decide +kernel)
set_option maxRecDepth 65536 in
theorem w_c36 : (Jvm.Cond.code ({ cls := "java/util/Arrays", name := "copyOf", desc := "([BI)[B" } : Jvm.MethodName) jdk_65_method_121_code (3 : Nat) (Option.some (Jvm.ClassFile.FieldType.array Jvm.ClassFile.FieldType.byte))).before args0 about1 = true := code_word (m := ⟨15, 1⟩) (meth := k15m1) (c := k15c1) (by decide +kernel) rfl rfl rfl (by decide +kernel)
def codes1 : List Jvm.Cond := [Jvm.Cond.code x code maxLocals ret, Jvm.Cond.code ({ cls := "java/lang/String", name := "<init>", desc := "([C)V" } : Jvm.MethodName) jdk_42_method_3_code (2 : Nat) (Option.none : Option Jvm.ClassFile.FieldType), Jvm.Cond.code ({ cls := "java/lang/String", name := "<init>", desc := "([CIILjava/lang/Void;)V" } : Jvm.MethodName) jdk_42_method_149_code (6 : Nat) (Option.none : Option Jvm.ClassFile.FieldType), Jvm.Cond.code ({ cls := "java/lang/Object", name := "<init>", desc := "()V" } : Jvm.MethodName) object_method_1_code (1 : Nat) (Option.none : Option Jvm.ClassFile.FieldType), Jvm.Cond.code ({ cls := "java/lang/StringUTF16", name := "compress", desc := "([CII)[B" } : Jvm.MethodName) jdk_52_method_16_code (6 : Nat) (Option.some (Jvm.ClassFile.FieldType.array Jvm.ClassFile.FieldType.byte)), Jvm.Cond.code ({ cls := "java/lang/StringUTF16", name := "compress", desc := "([CI[BII)I" } : Jvm.MethodName) jdk_52_method_21_code (7 : Nat) (Option.some Jvm.ClassFile.FieldType.int), Jvm.Cond.code ({ cls := "java/lang/StringUTF16", name := "coderFromArrayLen", desc := "([BI)B" } : Jvm.MethodName) jdk_52_method_15_code (2 : Nat) (Option.some Jvm.ClassFile.FieldType.byte), Jvm.Cond.code ({ cls := "com/example/orderly_settings/orderlysettings/BindingProblem", name := "<init>", desc := "(Ljava/lang/String;Ljava/lang/String;Ljava/lang/String;)V" } : Jvm.MethodName) prog_1_method_1_code (4 : Nat) (Option.none : Option Jvm.ClassFile.FieldType), Jvm.Cond.code ({ cls := "java/util/Objects", name := "requireNonNull", desc := "(Ljava/lang/Object;Ljava/lang/String;)Ljava/lang/Object;" } : Jvm.MethodName) jdk_31_method_11_code (2 : Nat) (Option.some (Jvm.ClassFile.FieldType.object "java/lang/Object")), Jvm.Cond.code ({ cls := "com/example/orderly_settings/orderlysettings/BindingProblem", name := "toString", desc := "()Ljava/lang/String;" } : Jvm.MethodName) prog_1_method_5_code (2 : Nat) (Option.some (Jvm.ClassFile.FieldType.object "java/lang/String")), Jvm.Cond.code ({ cls := "java/lang/StringBuilder", name := "<init>", desc := "()V" } : Jvm.MethodName) jdk_67_method_1_code (1 : Nat) (Option.none : Option Jvm.ClassFile.FieldType), Jvm.Cond.code ({ cls := "java/lang/AbstractStringBuilder", name := "<init>", desc := "(I)V" } : Jvm.MethodName) jdk_68_method_2_code (2 : Nat) (Option.none : Option Jvm.ClassFile.FieldType), Jvm.Cond.code ({ cls := "java/lang/StringBuilder", name := "append", desc := "(Ljava/lang/String;)Ljava/lang/StringBuilder;" } : Jvm.MethodName) jdk_67_method_7_code (2 : Nat) (Option.some (Jvm.ClassFile.FieldType.object "java/lang/StringBuilder")), Jvm.Cond.code ({ cls := "java/lang/AbstractStringBuilder", name := "append", desc := "(Ljava/lang/String;)Ljava/lang/AbstractStringBuilder;" } : Jvm.MethodName) jdk_68_method_22_code (3 : Nat) (Option.some (Jvm.ClassFile.FieldType.object "java/lang/AbstractStringBuilder")), Jvm.Cond.code ({ cls := "java/lang/String", name := "length", desc := "()I" } : Jvm.MethodName) jdk_42_method_54_code (1 : Nat) (Option.some Jvm.ClassFile.FieldType.int), Jvm.Cond.code ({ cls := "java/lang/String", name := "coder", desc := "()B" } : Jvm.MethodName) jdk_42_method_152_code (1 : Nat) (Option.some Jvm.ClassFile.FieldType.byte), Jvm.Cond.code ({ cls := "java/lang/AbstractStringBuilder", name := "ensureCapacityInternal", desc := "(I)V" } : Jvm.MethodName) jdk_68_method_9_code (3 : Nat) (Option.none : Option Jvm.ClassFile.FieldType), Jvm.Cond.code ({ cls := "java/lang/AbstractStringBuilder", name := "putStringAt", desc := "(ILjava/lang/String;)V" } : Jvm.MethodName) jdk_68_method_73_code (3 : Nat) (Option.none : Option Jvm.ClassFile.FieldType), Jvm.Cond.code ({ cls := "java/lang/AbstractStringBuilder", name := "inflateIfNeededFor", desc := "(Ljava/lang/String;)V" } : Jvm.MethodName) jdk_68_method_71_code (2 : Nat) (Option.none : Option Jvm.ClassFile.FieldType), Jvm.Cond.code ({ cls := "java/lang/String", name := "getBytes", desc := "([BIB)V" } : Jvm.MethodName) jdk_42_method_147_code (4 : Nat) (Option.none : Option Jvm.ClassFile.FieldType), Jvm.Cond.code ({ cls := "java/lang/StringBuilder", name := "toString", desc := "()Ljava/lang/String;" } : Jvm.MethodName) jdk_67_method_42_code (1 : Nat) (Option.some (Jvm.ClassFile.FieldType.object "java/lang/String")), Jvm.Cond.code ({ cls := "java/lang/String", name := "<init>", desc := "(Ljava/lang/StringBuilder;)V" } : Jvm.MethodName) jdk_42_method_53_code (2 : Nat) (Option.none : Option Jvm.ClassFile.FieldType), Jvm.Cond.code ({ cls := "java/lang/String", name := "<init>", desc := "(Ljava/lang/AbstractStringBuilder;Ljava/lang/Void;)V" } : Jvm.MethodName) jdk_42_method_150_code (5 : Nat) (Option.none : Option Jvm.ClassFile.FieldType), Jvm.Cond.code ({ cls := "java/lang/AbstractStringBuilder", name := "getValue", desc := "()[B" } : Jvm.MethodName) jdk_68_method_64_code (1 : Nat) (Option.some (Jvm.ClassFile.FieldType.array Jvm.ClassFile.FieldType.byte)), Jvm.Cond.code ({ cls := "java/lang/StringBuilder", name := "length", desc := "()I" } : Jvm.MethodName) jdk_67_method_93_code (1 : Nat) (Option.some Jvm.ClassFile.FieldType.int), Jvm.Cond.code ({ cls := "java/lang/AbstractStringBuilder", name := "length", desc := "()I" } : Jvm.MethodName) jdk_68_method_6_code (1 : Nat) (Option.some Jvm.ClassFile.FieldType.int), Jvm.Cond.code ({ cls := "java/lang/AbstractStringBuilder", name := "isLatin1", desc := "()Z" } : Jvm.MethodName) jdk_68_method_68_code (1 : Nat) (Option.some Jvm.ClassFile.FieldType.boolean), Jvm.Cond.code ({ cls := "java/util/Arrays", name := "copyOfRange", desc := "([BII)[B" } : Jvm.MethodName) jdk_65_method_132_code (3 : Nat) (Option.some (Jvm.ClassFile.FieldType.array Jvm.ClassFile.FieldType.byte)), Jvm.Cond.code ({ cls := "java/util/Arrays", name := "copyOfRangeByte", desc := "([BII)[B" } : Jvm.MethodName) jdk_65_method_133_code (5 : Nat) (Option.some (Jvm.ClassFile.FieldType.array Jvm.ClassFile.FieldType.byte)), Jvm.Cond.code ({ cls := "java/util/Arrays", name := "checkLength", desc := "(II)V" } : Jvm.MethodName) jdk_65_method_131_code (2 : Nat) (Option.none : Option Jvm.ClassFile.FieldType), Jvm.Cond.code ({ cls := "java/lang/Math", name := "min", desc := "(II)I" } : Jvm.MethodName) jdk_29_method_69_code (2 : Nat) (Option.some Jvm.ClassFile.FieldType.int), Jvm.Cond.code ({ cls := "java/lang/String", name := "equals", desc := "(Ljava/lang/Object;)Z" } : Jvm.MethodName) jdk_42_method_66_code (3 : Nat) (Option.some Jvm.ClassFile.FieldType.boolean), Jvm.Cond.code ({ cls := "java/lang/StringLatin1", name := "equals", desc := "([B[B)Z" } : Jvm.MethodName) jdk_43_method_13_code (3 : Nat) (Option.some Jvm.ClassFile.FieldType.boolean), Jvm.Cond.code ({ cls := "java/lang/AbstractStringBuilder", name := "newCapacity", desc := "(I)I" } : Jvm.MethodName) jdk_68_method_10_code (6 : Nat) (Option.some Jvm.ClassFile.FieldType.int), Jvm.Cond.code ({ cls := "jdk/internal/util/ArraysSupport", name := "newLength", desc := "(III)I" } : Jvm.MethodName) jdk_48_method_27_code (4 : Nat) (Option.some Jvm.ClassFile.FieldType.int), Jvm.Cond.code ({ cls := "java/lang/Math", name := "max", desc := "(II)I" } : Jvm.MethodName) jdk_29_method_65_code (2 : Nat) (Option.some Jvm.ClassFile.FieldType.int), Jvm.Cond.code ({ cls := "java/util/Arrays", name := "copyOf", desc := "([BI)[B" } : Jvm.MethodName) jdk_65_method_121_code (3 : Nat) (Option.some (Jvm.ClassFile.FieldType.array Jvm.ClassFile.FieldType.byte))]
set_option maxRecDepth 65536 in
theorem codes_eq : words1.filter isCode = codes1 := rfl
theorem w_codes : ∀ c ∈ words1.filter isCode, c.before args0 about1 = true := by
  rw [codes_eq]
  intro c hc
  simp only [codes1, List.mem_cons, List.not_mem_nil, or_false] at hc
  rcases hc with rfl | rfl | rfl | rfl | rfl | rfl | rfl | rfl | rfl | rfl | rfl | rfl | rfl | rfl | rfl | rfl | rfl | rfl | rfl | rfl | rfl | rfl | rfl | rfl | rfl | rfl | rfl | rfl | rfl | rfl | rfl | rfl | rfl | rfl | rfl | rfl | rfl
  · exact w_c0
  · exact w_c1
  · exact w_c2
  · exact w_c3
  · exact w_c4
  · exact w_c5
  · exact w_c6
  · exact w_c7
  · exact w_c8
  · exact w_c9
  · exact w_c10
  · exact w_c11
  · exact w_c12
  · exact w_c13
  · exact w_c14
  · exact w_c15
  · exact w_c16
  · exact w_c17
  · exact w_c18
  · exact w_c19
  · exact w_c20
  · exact w_c21
  · exact w_c22
  · exact w_c23
  · exact w_c24
  · exact w_c25
  · exact w_c26
  · exact w_c27
  · exact w_c28
  · exact w_c29
  · exact w_c30
  · exact w_c31
  · exact w_c32
  · exact w_c33
  · exact w_c34
  · exact w_c35
  · exact w_c36
set_option maxRecDepth 65536 in
theorem w_t1 : (words1.take 24).all (fun c => isCode c || c.before args0 about1) = true := by decide +kernel
set_option maxRecDepth 65536 in
theorem w_t2 : ((words1.drop 24).take 24).all (fun c => isCode c || c.before args0 about1) = true := by decide +kernel
set_option maxRecDepth 65536 in
theorem w_t3 : (((words1.drop 24).drop 24).take 24).all (fun c => isCode c || c.before args0 about1) = true := by decide +kernel
set_option maxRecDepth 65536 in
theorem w_t4 : ((((words1.drop 24).drop 24).drop 24).take 24).all (fun c => isCode c || c.before args0 about1) = true := by decide +kernel
set_option maxRecDepth 65536 in
theorem w_t5 : (((((words1.drop 24).drop 24).drop 24).drop 24).take 24).all (fun c => isCode c || c.before args0 about1) = true := by decide +kernel
set_option maxRecDepth 65536 in
theorem w_t6 : ((((((words1.drop 24).drop 24).drop 24).drop 24).drop 24).take 24).all (fun c => isCode c || c.before args0 about1) = true := by decide +kernel
set_option maxRecDepth 65536 in
theorem w_t7 : (((((((words1.drop 24).drop 24).drop 24).drop 24).drop 24).drop 24).take 24).all (fun c => isCode c || c.before args0 about1) = true := by decide +kernel
set_option maxRecDepth 65536 in
theorem w_t8 : ((((((((words1.drop 24).drop 24).drop 24).drop 24).drop 24).drop 24).drop 24).take 24).all (fun c => isCode c || c.before args0 about1) = true := by decide +kernel
set_option maxRecDepth 65536 in
theorem w_t9 : ((((((((words1.drop 24).drop 24).drop 24).drop 24).drop 24).drop 24).drop 24).drop 24).all (fun c => isCode c || c.before args0 about1) = true := by decide +kernel
theorem w_tables : (allAtoms (Jvm.Cond.code x code maxLocals ret :: tables_1)).before args0 about1 = true := by
  rw [allAtoms_all]
  show words1.all (fun c => c.before args0 about1) = true
  refine all_split ?_ w_codes
  rw [← List.take_append_drop 24 words1, List.all_append, w_t1, ← List.take_append_drop 24 (words1.drop 24), List.all_append, w_t2, ← List.take_append_drop 24 ((words1.drop 24).drop 24), List.all_append, w_t3, ← List.take_append_drop 24 (((words1.drop 24).drop 24).drop 24), List.all_append, w_t4, ← List.take_append_drop 24 ((((words1.drop 24).drop 24).drop 24).drop 24), List.all_append, w_t5, ← List.take_append_drop 24 (((((words1.drop 24).drop 24).drop 24).drop 24).drop 24), List.all_append, w_t6, ← List.take_append_drop 24 ((((((words1.drop 24).drop 24).drop 24).drop 24).drop 24).drop 24), List.all_append, w_t7, ← List.take_append_drop 24 (((((((words1.drop 24).drop 24).drop 24).drop 24).drop 24).drop 24).drop 24), List.all_append, w_t8, w_t9]
  rfl
set_option maxRecDepth 65536 in
theorem w_rest : rest_1_c.before args0 about1 = true := by decide +kernel
set_option maxRecDepth 65536 in
theorem w_case : (Jvm.Cond.and given_1 narrow_1).before args0 about1 = true := by decide +kernel
set_option maxRecDepth 65536 in
theorem w_consts : constsHeld consts_1 about1 := Jvm.Lit.constsHeldB_iff.mp (by decide +kernel)
theorem w_applies : (headSpec (Jvm.Cond.code x code maxLocals ret :: tables_1) room_1).applies x e0.platform about1 = true :=
  (Spec.applies_iff w_frames).mpr ⟨w_running, w_runnable, w_alone, w_named, w_hears, w_ripe, w_room, w_tables⟩
theorem atStart : AtStart classFile x code maxLocals ret World_1 tables_1 room_1 Calls_1 rest_1 Pre_1 launch0 p0 e0 about1 theMethod args0 below0 :=
  ⟨lists_1, trivial, launch0.admits_env _ _ _, launch0.least_env, fairChoices_fair.cas, fairChoices_fair.clock, w_frames, w_args, w_heap, w_applies, ⟨w_consts, trivial⟩, w_rest, w_case⟩
end start1
theorem witness_1 : WitnessClaimed_1 := ⟨start1.p0, start1.e0, start1.about1, start1.theMethod, start1.args0, start1.below0, start1.atStart⟩
end Jvm.Pilot.@@N@@
