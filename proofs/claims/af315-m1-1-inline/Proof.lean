import JvmDerived
import JvmDerived.Pilot.@@N@@Statement
import JvmDerived.Pilot.@@N@@Code
set_option linter.unusedVariables false
set_option linter.unusedSimpArgs false
namespace Jvm.Pilot.@@N@@
open Jvm Jvm.ClassFile Sem Op Lib Jvm.Free Jvm.Stand Jvm.LawKit Jvm.RoadKit Bundle Jvm.Pilot.@@N@@.Jvm.D
/-! ## A small program logic over 'Stand': oGo says that from here the method comes to its end and Q holds there. -/
def oDok (Z : State) (EL : List (String × Nat)) (vm : Vm) (h : Heap) (D : List Addr) : Prop := ∀ x ∈ D, Z.heap.size ≤ x ∧ x < h.size ∧ Safe Z EL vm h x
def oInv (l : Launch) (Z : State) (a0 : Array Value) (EL : List (String × Nat)) (wd : Prop) (p : Program) (e : Env) (s : State) (m : MethodId) (args : Array Value) (below : List Frame) (meth : Method) (c : Code) (R : Room) (own : String) (bytes : ByteArray) (mx : Nat) (rt : Option FieldType) (nm : String)
    (D : List Addr) (h : Heap) (k n : Nat) (T : State) (locs : List Loc) (vm0 : Vm) (k0 : Nat) : Prop :=
  (p.tables.exec = Jvm.exec ∧ c.code = bytes ∧ c.maxLocals = mx ∧ meth.sig.returnType = rt ∧ meth.locks = false ∧ meth.name = nm ∧ EW Z a0 EL) ∧
  T.heap = h ∧ Ext Z.heap h ∧ Fr Z.heap.size locs ∧ Stand p l e R (s.setVm vm0) m args below meth c T locs k n ∧ s.Since vm0 k0 ∧ k0 ≤ h.size ∧ Z.Warmed39 vm0 ∧ vm0.findClass own = some m.cls ∧ CHr Z EL s.vm s.heap vm0 h ∧ (wd ∨ s.WarmedH vm0) ∧ oDok Z EL vm0 h D
def oRes (Z : State) (EL : List (String × Nat)) (wd : Prop) (p : Program) (e : Env) (s : State) (below : List Frame) (R : Room) (Q : Option Value → Heap → Prop) (O : Option Value → Heap → Addr → Prop) (t : State) : Prop :=
  ∃ (V : State) (v : Option Value) (L : List Loc), Steps p.tables e below t V ∧ V.status = .running ∧ Ended V below (.returned v) ∧ (Q v V.heap ∧ ∀ x, O v V.heap x → Z.heap.size ≤ x ∧ x < V.heap.size ∧ Safe Z EL V.vm V.heap x) ∧ Fr Z.heap.size L ∧ Ext Z.heap V.heap ∧ CHr Z EL s.vm s.heap V.vm V.heap ∧ (wd ∨ s.WarmedH V.vm) ∧ ReturnedEndW s (.returned v) V L R.cells R.slots
def oGo (l : Launch) (Z : State) (a0 : Array Value) (EL : List (String × Nat)) (wd : Prop) (p : Program) (e : Env) (s : State) (m : MethodId) (args : Array Value) (below : List Frame) (meth : Method) (c : Code) (R : Room) (own : String) (bytes : ByteArray) (mx : Nat) (rt : Option FieldType) (nm : String)
    (Q : Option Value → Heap → Prop) (O : Option Value → Heap → Addr → Prop) (D : List Addr) (h : Heap) (k n : Nat) (pc : Nat) (Ls : Array Slot) (st : List Value) : Prop :=
  ∀ T locs vm0 k0, oInv l Z a0 EL wd p e s m args below meth c R own bytes mx rt nm D h k n T locs vm0 k0 → oRes Z EL wd p e s below R Q O (T.setTop (mkF m pc Ls st))
def oCtr (ws : List Jvm.Cond) (l : Launch) (Z : State) (a0 : Array Value) (EL : List (String × Nat)) (wd : Prop) (y : MethodName) (bytes : ByteArray) (mx : Nat) (rt : Option FieldType) (rm : Room) (as' : Array Value) (D : List Addr) (h : Heap) (Q : Option Value → Heap → Prop) (O : Option Value → Heap → Addr → Prop) : Prop :=
  MetFree l y (head1 (Cond.code y bytes mx rt :: ws) rm) (fun a U => a = as' ∧ Z.Warmed39 U.vm ∧ U.heap = h ∧ Ext Z.heap h ∧ CHv Z EL U.vm h ∧ oDok Z EL U.vm h D) (fun _ _ _ _ _ => True)
    (fun _ U o U' => ∃ v L, o = .returned v ∧ (Q v U'.heap ∧ ∀ x, O v U'.heap x → Z.heap.size ≤ x ∧ x < U'.heap.size ∧ Safe Z EL U'.vm U'.heap x) ∧ Fr Z.heap.size L ∧ Ext Z.heap U'.heap ∧ CHr Z EL U.vm U.heap U'.vm U'.heap ∧ (wd ∨ U.WarmedH U'.vm) ∧ ReturnedEndW U o U' L rm.cells rm.slots)
abbrev oRet : Option Value → Heap → Addr → Prop := fun v _ x => v = some (.ref x)
abbrev oNo : Option Value → Heap → Addr → Prop := fun _ _ _ => False
section Logic
variable {l : Launch} {Z : State} {a0 : Array Value} {EL : List (String × Nat)} {wd : Prop} {p : Program} {e : Env} {s : State} {m : MethodId} {args : Array Value} {below : List Frame} {meth : Method} {c : Code} {R : Room} {own : String} {bytes : ByteArray} {mx : Nat} {rt : Option FieldType} {nm : String}
  {Q : Option Value → Heap → Prop} {O : Option Value → Heap → Addr → Prop} {D : List Addr} {h : Heap} {k n : Nat} {pc pc' pc1 pc2 : Nat} {Ls Ls' : Array Slot} {st st' : List Value}
theorem oDok.ext {vm : Vm} {h' : Heap} (E : Ext h h') (H : CHv Z EL vm h) (q : oDok Z EL vm h D) : oDok Z EL vm h' D := fun x hx => ⟨(q x hx).1, Nat.lt_of_lt_of_le (q x hx).2.1 E.1, (q x hx).2.2.ext E H⟩
theorem oDok.wr {vm : Vm} {h' : Heap} {a : Addr} {sl : Nat} {v : Value} (W : Wr h h' a sl v) (S : Safe Z EL vm h a) (H : CHv Z EL vm h) (q : oDok Z EL vm h D) : oDok Z EL vm h' D := fun x hx => ⟨(q x hx).1, by rw [W.size]; exact (q x hx).2.1, Safe.wr W S H (q x hx).2.2⟩
theorem oDok.chr {vm vm1 : Vm} {h' : Heap} (A : CHr Z EL vm h vm1 h') (q : oDok Z EL vm h D) : oDok Z EL vm1 h' D := fun x hx => ⟨(q x hx).1, Nat.lt_of_lt_of_le (q x hx).2.1 A.2.1, A.safe (q x hx).2.1 (q x hx).2.2⟩
theorem oDok.sub {vm : Vm} {D' : List Addr} (q : oDok Z EL vm h D) (hs : ∀ x ∈ D', x ∈ D) : oDok Z EL vm h D' := fun x hx => q x (hs x hx)
theorem ext_refl (h : Heap) : Ext h h := ⟨Nat.le_refl _, fun _ _ q => q⟩
theorem ext_trans {h h' h2 : Heap} (A : Ext h h') (B : Ext h' h2) : Ext h h2 := ⟨Nat.le_trans A.1 B.1, fun a c q => B.2 a c (A.2 a c q)⟩
theorem ext_wr {h0 h h' : Heap} {a : Addr} {sl : Nat} {v : Value} (E : Ext h0 h) (W : Wr h h' a sl v) (q : h0.size ≤ a) : Ext h0 h' := by
  refine ⟨by rw [W.size]; exact E.1, fun b cb hb => ?_⟩
  obtain ⟨cb', h1, -, -, -, h5, -⟩ := wr_at W (E.2 b cb hb)
  rw [← h5 (fun e1 => by subst e1; exact absurd (Array.getElem?_eq_some_iff.mp hb).1 (Nat.not_lt.mpr q))]; exact h1
/-- entering -/
theorem oCtr.enter {ws : List Jvm.Cond} {y : MethodName} {rm : Room} {as' : Array Value} (pn : plainFor y = true) (hEW : EW Z a0 EL) (ef : ∀ m, entryFrame m as' mx = mkF m 0 Ls [])
    (g : ∀ (p : Program) (e : Env) (s : State) (m : MethodId) (below : List Frame) (meth : Method) (c : Code), oGo l Z a0 EL wd p e s m as' below meth c rm y.cls bytes mx rt y.name Q O D h 0 0 0 Ls []) : oCtr ws l Z a0 EL wd y bytes mx rt rm as' D h Q O := by
  refine MetFree.of_bodySF pn hisR ?_
  intro p e s m args below meth c s₁ Bd hml0 hP hK
  obtain ⟨rfl, hZ, hh, hE, hC, hD⟩ := hP
  have X0 : Stand p l e rm s m args below meth c s₁ [] 0 0 := Stand.of_body Bd
  have e0 : s₁.heap = h := by rw [← hh, Bd.state]; rfl
  have hown : s.vm.findClass y.cls = some m.cls := findClass_of_methodNamed Bd.named
  have hnm := (name_of_methodNamed Bd.named Bd.method).1
  obtain ⟨V, v, L, h1, h2, h3, h4, h5, h6, h7, h8, h9⟩ := g p e s m below meth c s₁ [] s.vm s.heap.size ⟨⟨Bd.exec, Bd.bytes, hml0, Bd.returns, Bd.notSynchronized, hnm, hEW⟩, e0, hE, Fr.nil _, X0, (State.WarmedH.refl s).since _, by rw [hh]; exact Nat.le_refl _, hZ, hown, by rw [hh]; exact CHr.refl hC, Or.inr (State.WarmedH.refl s), hD⟩
  exact ⟨V, .returned v, by rw [ef]; exact h1, h2, h3, v, L, rfl, h4, h5, h6, h7, h8, h9⟩
/-- steps that touch neither heap nor tables -/
theorem oGo.pure (H : ∀ T : State, At T m c below → c.code = bytes → p.tables.exec = Jvm.exec → ∀ t, Steps p.tables e below (T.setTop (mkF m pc' Ls' st')) t → Steps p.tables e below (T.setTop (mkF m pc Ls st)) t)
    (g : oGo l Z a0 EL wd p e s m args below meth c R own bytes mx rt nm Q O D h k n pc' Ls' st') : oGo l Z a0 EL wd p e s m args below meth c R own bytes mx rt nm Q O D h k n pc Ls st := by
  intro T locs vm0 k0 I
  obtain ⟨V, v, L, hs, r⟩ := g T locs vm0 k0 I
  obtain ⟨⟨hx, hb, -⟩, -, -, -, X, -⟩ := I
  exact ⟨V, v, L, H T X.here hb hx V hs, r⟩
def oSl (o : Slot) : Prop := o = .unset ∨ ∃ w : Value, o = .val w ∧ w.category = 1
theorem oGo.aload {i : Nat} {v : Value} (hd : decode bytes pc = .ok (.aload i, 2)) (hp : pc + 2 = pc') (hl : Ls[i]? = some (.val v)) (hv : v.isRef = true) (g : oGo l Z a0 EL wd p e s m args below meth c R own bytes mx rt nm Q O D h k n pc' Ls (v :: st)) : oGo l Z a0 EL wd p e s m args below meth c R own bytes mx rt nm Q O D h k n pc Ls (st) := by
  subst hp; exact oGo.pure (fun T hA hb hx t hr => XS.aload hA hx rfl (by rw [hb]; exact hd) hl hv hr) g
theorem oGo.aload_n {i : Fin 4} {v : Value} (hd : decode bytes pc = .ok (.aload_n i, 1)) (hp : pc + 1 = pc') (hl : Ls[i.val]? = some (.val v)) (hv : v.isRef = true) (g : oGo l Z a0 EL wd p e s m args below meth c R own bytes mx rt nm Q O D h k n pc' Ls (v :: st)) : oGo l Z a0 EL wd p e s m args below meth c R own bytes mx rt nm Q O D h k n pc Ls (st) := by
  subst hp; exact oGo.pure (fun T hA hb hx t hr => XS.aloadN hA hx rfl (by rw [hb]; exact hd) hl hv hr) g
theorem oGo.iload {i : Nat} {v : Int32} (hd : decode bytes pc = .ok (.iload i, 2)) (hp : pc + 2 = pc') (hl : Ls[i]? = some (.val (.int v))) (g : oGo l Z a0 EL wd p e s m args below meth c R own bytes mx rt nm Q O D h k n pc' Ls (.int v :: st)) : oGo l Z a0 EL wd p e s m args below meth c R own bytes mx rt nm Q O D h k n pc Ls (st) := by
  subst hp; exact oGo.pure (fun T hA hb hx t hr => XS.iload hA hx rfl (by rw [hb]; exact hd) hl hr) g
theorem oGo.iload_n {i : Fin 4} {v : Int32} (hd : decode bytes pc = .ok (.iload_n i, 1)) (hp : pc + 1 = pc') (hl : Ls[i.val]? = some (.val (.int v))) (g : oGo l Z a0 EL wd p e s m args below meth c R own bytes mx rt nm Q O D h k n pc' Ls (.int v :: st)) : oGo l Z a0 EL wd p e s m args below meth c R own bytes mx rt nm Q O D h k n pc Ls (st) := by
  subst hp; exact oGo.pure (fun T hA hb hx t hr => XS.iloadN hA hx rfl (by rw [hb]; exact hd) hl hr) g
theorem oGo.istore {i : Nat} {v : Int32} (hd : decode bytes pc = .ok (.istore i, 2)) (hp : pc + 2 = pc') (hl : storeLocals Ls i (.int v) = some Ls') (g : oGo l Z a0 EL wd p e s m args below meth c R own bytes mx rt nm Q O D h k n pc' Ls' (st)) : oGo l Z a0 EL wd p e s m args below meth c R own bytes mx rt nm Q O D h k n pc Ls (.int v :: st) := by
  subst hp; exact oGo.pure (fun T hA hb hx t hr => XS.istore hA hx rfl (by rw [hb]; exact hd) rfl hl hr) g
theorem oGo.istore_n {i : Fin 4} {v : Int32} (hd : decode bytes pc = .ok (.istore_n i, 1)) (hp : pc + 1 = pc') (hl : storeLocals Ls i.val (.int v) = some Ls') (g : oGo l Z a0 EL wd p e s m args below meth c R own bytes mx rt nm Q O D h k n pc' Ls' (st)) : oGo l Z a0 EL wd p e s m args below meth c R own bytes mx rt nm Q O D h k n pc Ls (.int v :: st) := by
  subst hp; exact oGo.pure (fun T hA hb hx t hr => XS.istoreN hA hx rfl (by rw [hb]; exact hd) rfl hl hr) g
theorem oGo.lload {i : Nat} {v : Int64} (hd : decode bytes pc = .ok (.lload i, 2)) (hp : pc + 2 = pc') (hl : Ls[i]? = some (.val (.long v))) (g : oGo l Z a0 EL wd p e s m args below meth c R own bytes mx rt nm Q O D h k n pc' Ls (.long v :: st)) : oGo l Z a0 EL wd p e s m args below meth c R own bytes mx rt nm Q O D h k n pc Ls (st) := by
  subst hp; exact oGo.pure (fun T hA hb hx t hr => XT.lload hA hx rfl (by rw [hb]; exact hd) hl hr) g
theorem oGo.lload_n {i : Fin 4} {v : Int64} (hd : decode bytes pc = .ok (.lload_n i, 1)) (hp : pc + 1 = pc') (hl : Ls[i.val]? = some (.val (.long v))) (g : oGo l Z a0 EL wd p e s m args below meth c R own bytes mx rt nm Q O D h k n pc' Ls (.long v :: st)) : oGo l Z a0 EL wd p e s m args below meth c R own bytes mx rt nm Q O D h k n pc Ls (st) := by
  subst hp; exact oGo.pure (fun T hA hb hx t hr => XT.lloadN hA hx rfl (by rw [hb]; exact hd) hl hr) g
theorem oGo.lstore {i : Nat} {v : Int64} (hd : decode bytes pc = .ok (.lstore i, 2)) (hp : pc + 2 = pc') (hl : storeLocals Ls i (.long v) = some Ls') (g : oGo l Z a0 EL wd p e s m args below meth c R own bytes mx rt nm Q O D h k n pc' Ls' (st)) : oGo l Z a0 EL wd p e s m args below meth c R own bytes mx rt nm Q O D h k n pc Ls (.long v :: st) := by
  subst hp; exact oGo.pure (fun T hA hb hx t hr => XT.lstore hA hx rfl (by rw [hb]; exact hd) rfl hl hr) g
theorem oGo.lstore_n {i : Fin 4} {v : Int64} (hd : decode bytes pc = .ok (.lstore_n i, 1)) (hp : pc + 1 = pc') (hl : storeLocals Ls i.val (.long v) = some Ls') (g : oGo l Z a0 EL wd p e s m args below meth c R own bytes mx rt nm Q O D h k n pc' Ls' (st)) : oGo l Z a0 EL wd p e s m args below meth c R own bytes mx rt nm Q O D h k n pc Ls (.long v :: st) := by
  subst hp; exact oGo.pure (fun T hA hb hx t hr => XT.lstoreN hA hx rfl (by rw [hb]; exact hd) rfl hl hr) g
theorem oGo.astore {i : Nat} {v : Value} (hd : decode bytes pc = .ok (.astore i, 2)) (hp : pc + 2 = pc') (hv : v.isRef = true) (hl : storeLocals Ls i v = some Ls') (g : oGo l Z a0 EL wd p e s m args below meth c R own bytes mx rt nm Q O D h k n pc' Ls' (st)) : oGo l Z a0 EL wd p e s m args below meth c R own bytes mx rt nm Q O D h k n pc Ls (v :: st) := by
  subst hp; exact oGo.pure (fun T hA hb hx t hr => XS.astore hA hx rfl (by rw [hb]; exact hd) rfl hv hl hr) g
theorem oGo.astore_n {i : Fin 4} {v : Value} (hd : decode bytes pc = .ok (.astore_n i, 1)) (hp : pc + 1 = pc') (hv : v.isRef = true) (hl : storeLocals Ls i.val v = some Ls') (g : oGo l Z a0 EL wd p e s m args below meth c R own bytes mx rt nm Q O D h k n pc' Ls' (st)) : oGo l Z a0 EL wd p e s m args below meth c R own bytes mx rt nm Q O D h k n pc Ls (v :: st) := by
  subst hp; exact oGo.pure (fun T hA hb hx t hr => XS.astoreN hA hx rfl (by rw [hb]; exact hd) rfl hv hl hr) g
theorem oGo.istoreS {i : Nat} {v : Int32} {o : Slot} (hd : decode bytes pc = .ok (.istore i, 2)) (hp : pc + 2 = pc') (ho : oSl o) (hold : Ls[i]? = some o) (hl : Ls.setIfInBounds i (.val (.int v)) = Ls') (g : oGo l Z a0 EL wd p e s m args below meth c R own bytes mx rt nm Q O D h k n pc' Ls' st) : oGo l Z a0 EL wd p e s m args below meth c R own bytes mx rt nm Q O D h k n pc Ls (.int v :: st) := by
  subst hp hl; exact oGo.pure (fun T hA hb hx t hr => XS.istore hA hx rfl (by rw [hb]; exact hd) rfl (XS.store1 hold ho rfl) hr) g
theorem oGo.istore_nS {i : Fin 4} {v : Int32} {o : Slot} (hd : decode bytes pc = .ok (.istore_n i, 1)) (hp : pc + 1 = pc') (ho : oSl o) (hold : Ls[i.val]? = some o) (hl : Ls.setIfInBounds i.val (.val (.int v)) = Ls') (g : oGo l Z a0 EL wd p e s m args below meth c R own bytes mx rt nm Q O D h k n pc' Ls' st) : oGo l Z a0 EL wd p e s m args below meth c R own bytes mx rt nm Q O D h k n pc Ls (.int v :: st) := by
  subst hp hl; exact oGo.pure (fun T hA hb hx t hr => XS.istoreN hA hx rfl (by rw [hb]; exact hd) rfl (XS.store1 hold ho rfl) hr) g
theorem oGo.astoreS {i : Nat} {v : Value} {o : Slot} (hd : decode bytes pc = .ok (.astore i, 2)) (hp : pc + 2 = pc') (hv : v.isRef = true) (hc : v.category = 1) (ho : oSl o) (hold : Ls[i]? = some o) (hl : Ls.setIfInBounds i (.val (v)) = Ls') (g : oGo l Z a0 EL wd p e s m args below meth c R own bytes mx rt nm Q O D h k n pc' Ls' st) : oGo l Z a0 EL wd p e s m args below meth c R own bytes mx rt nm Q O D h k n pc Ls (v :: st) := by
  subst hp hl; exact oGo.pure (fun T hA hb hx t hr => XS.astore hA hx rfl (by rw [hb]; exact hd) rfl hv (XS.store1 hold ho hc) hr) g
theorem oGo.astore_nS {i : Fin 4} {v : Value} {o : Slot} (hd : decode bytes pc = .ok (.astore_n i, 1)) (hp : pc + 1 = pc') (hv : v.isRef = true) (hc : v.category = 1) (ho : oSl o) (hold : Ls[i.val]? = some o) (hl : Ls.setIfInBounds i.val (.val (v)) = Ls') (g : oGo l Z a0 EL wd p e s m args below meth c R own bytes mx rt nm Q O D h k n pc' Ls' st) : oGo l Z a0 EL wd p e s m args below meth c R own bytes mx rt nm Q O D h k n pc Ls (v :: st) := by
  subst hp hl; exact oGo.pure (fun T hA hb hx t hr => XS.astoreN hA hx rfl (by rw [hb]; exact hd) rfl hv (XS.store1 hold ho hc) hr) g
theorem oGo.iconst {i : Int} {v : Int32} (hd : decode bytes pc = .ok (.iconst i, 1)) (hp : pc + 1 = pc') (hv : Int32.ofInt i = v) (g : oGo l Z a0 EL wd p e s m args below meth c R own bytes mx rt nm Q O D h k n pc' Ls (.int v :: st)) : oGo l Z a0 EL wd p e s m args below meth c R own bytes mx rt nm Q O D h k n pc Ls (st) := by
  subst hp; subst hv; exact oGo.pure (fun T hA hb hx t hr => XS.iconst hA hx rfl (by rw [hb]; exact hd)  hr) g
theorem oGo.bipush {i : Int} {v : Int32} (hd : decode bytes pc = .ok (.bipush i, 2)) (hp : pc + 2 = pc') (hv : (Int8.ofInt i).toInt32 = v) (g : oGo l Z a0 EL wd p e s m args below meth c R own bytes mx rt nm Q O D h k n pc' Ls (.int v :: st)) : oGo l Z a0 EL wd p e s m args below meth c R own bytes mx rt nm Q O D h k n pc Ls (st) := by
  subst hp; subst hv; exact oGo.pure (fun T hA hb hx t hr => XS.bipush hA hx rfl (by rw [hb]; exact hd)  hr) g
theorem oGo.sipush {i : Int} {v : Int32} (hd : decode bytes pc = .ok (.sipush i, 3)) (hp : pc + 3 = pc') (hv : (Int16.ofInt i).toInt32 = v) (g : oGo l Z a0 EL wd p e s m args below meth c R own bytes mx rt nm Q O D h k n pc' Ls (.int v :: st)) : oGo l Z a0 EL wd p e s m args below meth c R own bytes mx rt nm Q O D h k n pc Ls (st) := by
  subst hp; subst hv; exact oGo.pure (fun T hA hb hx t hr => XS.sipush hA hx rfl (by rw [hb]; exact hd)  hr) g
theorem oGo.lconst {i : Fin 2} {v : Int64} (hd : decode bytes pc = .ok (.lconst i, 1)) (hp : pc + 1 = pc') (hv : Int64.ofNat i = v) (g : oGo l Z a0 EL wd p e s m args below meth c R own bytes mx rt nm Q O D h k n pc' Ls (.long v :: st)) : oGo l Z a0 EL wd p e s m args below meth c R own bytes mx rt nm Q O D h k n pc Ls (st) := by
  subst hp; subst hv; exact oGo.pure (fun T hA hb hx t hr => XT.lconst hA hx rfl (by rw [hb]; exact hd)  hr) g
theorem oGo.aconst_null  (hd : decode bytes pc = .ok (.aconst_null, 1)) (hp : pc + 1 = pc') (g : oGo l Z a0 EL wd p e s m args below meth c R own bytes mx rt nm Q O D h k n pc' Ls (.null :: st)) : oGo l Z a0 EL wd p e s m args below meth c R own bytes mx rt nm Q O D h k n pc Ls (st) := by
  subst hp; exact oGo.pure (fun T hA hb hx t hr => XS.aconstNull hA hx rfl (by rw [hb]; exact hd)  hr) g
theorem oGo.iadd {x y : Int32} (hd : decode bytes pc = .ok (.iadd, 1)) (hp : pc + 1 = pc') (g : oGo l Z a0 EL wd p e s m args below meth c R own bytes mx rt nm Q O D h k n pc' Ls (.int (x + y) :: st)) : oGo l Z a0 EL wd p e s m args below meth c R own bytes mx rt nm Q O D h k n pc Ls (.int y :: .int x :: st) := by
  subst hp; exact oGo.pure (fun T hA hb hx t hr => XS.iadd hA hx rfl (by rw [hb]; exact hd) rfl hr) g
theorem oGo.ladd {x y : Int64} (hd : decode bytes pc = .ok (.ladd, 1)) (hp : pc + 1 = pc') (g : oGo l Z a0 EL wd p e s m args below meth c R own bytes mx rt nm Q O D h k n pc' Ls (.long (x + y) :: st)) : oGo l Z a0 EL wd p e s m args below meth c R own bytes mx rt nm Q O D h k n pc Ls (.long y :: .long x :: st) := by
  subst hp; exact oGo.pure (fun T hA hb hx t hr => XT.ladd hA hx rfl (by rw [hb]; exact hd) rfl hr) g
theorem oGo.isub {x y : Int32} (hd : decode bytes pc = .ok (.isub, 1)) (hp : pc + 1 = pc') (g : oGo l Z a0 EL wd p e s m args below meth c R own bytes mx rt nm Q O D h k n pc' Ls (.int (x - y) :: st)) : oGo l Z a0 EL wd p e s m args below meth c R own bytes mx rt nm Q O D h k n pc Ls (.int y :: .int x :: st) := by
  subst hp; exact oGo.pure (fun T hA hb hx t hr => XS.isub hA hx rfl (by rw [hb]; exact hd) rfl hr) g
theorem oGo.lsub {x y : Int64} (hd : decode bytes pc = .ok (.lsub, 1)) (hp : pc + 1 = pc') (g : oGo l Z a0 EL wd p e s m args below meth c R own bytes mx rt nm Q O D h k n pc' Ls (.long (x - y) :: st)) : oGo l Z a0 EL wd p e s m args below meth c R own bytes mx rt nm Q O D h k n pc Ls (.long y :: .long x :: st) := by
  subst hp; exact oGo.pure (fun T hA hb hx t hr => XT.lsub hA hx rfl (by rw [hb]; exact hd) rfl hr) g
theorem oGo.imul {x y : Int32} (hd : decode bytes pc = .ok (.imul, 1)) (hp : pc + 1 = pc') (g : oGo l Z a0 EL wd p e s m args below meth c R own bytes mx rt nm Q O D h k n pc' Ls (.int (x * y) :: st)) : oGo l Z a0 EL wd p e s m args below meth c R own bytes mx rt nm Q O D h k n pc Ls (.int y :: .int x :: st) := by
  subst hp; exact oGo.pure (fun T hA hb hx t hr => XS.imul hA hx rfl (by rw [hb]; exact hd) rfl hr) g
theorem oGo.lmul {x y : Int64} (hd : decode bytes pc = .ok (.lmul, 1)) (hp : pc + 1 = pc') (g : oGo l Z a0 EL wd p e s m args below meth c R own bytes mx rt nm Q O D h k n pc' Ls (.long (x * y) :: st)) : oGo l Z a0 EL wd p e s m args below meth c R own bytes mx rt nm Q O D h k n pc Ls (.long y :: .long x :: st) := by
  subst hp; exact oGo.pure (fun T hA hb hx t hr => XT.lmul hA hx rfl (by rw [hb]; exact hd) rfl hr) g
theorem oGo.iand {x y : Int32} (hd : decode bytes pc = .ok (.iand, 1)) (hp : pc + 1 = pc') (g : oGo l Z a0 EL wd p e s m args below meth c R own bytes mx rt nm Q O D h k n pc' Ls (.int (x &&& y) :: st)) : oGo l Z a0 EL wd p e s m args below meth c R own bytes mx rt nm Q O D h k n pc Ls (.int y :: .int x :: st) := by
  subst hp; exact oGo.pure (fun T hA hb hx t hr => XS.iand hA hx rfl (by rw [hb]; exact hd) rfl hr) g
theorem oGo.land {x y : Int64} (hd : decode bytes pc = .ok (.land, 1)) (hp : pc + 1 = pc') (g : oGo l Z a0 EL wd p e s m args below meth c R own bytes mx rt nm Q O D h k n pc' Ls (.long (x &&& y) :: st)) : oGo l Z a0 EL wd p e s m args below meth c R own bytes mx rt nm Q O D h k n pc Ls (.long y :: .long x :: st) := by
  subst hp; exact oGo.pure (fun T hA hb hx t hr => XT.land hA hx rfl (by rw [hb]; exact hd) rfl hr) g
theorem oGo.ior {x y : Int32} (hd : decode bytes pc = .ok (.ior, 1)) (hp : pc + 1 = pc') (g : oGo l Z a0 EL wd p e s m args below meth c R own bytes mx rt nm Q O D h k n pc' Ls (.int (x ||| y) :: st)) : oGo l Z a0 EL wd p e s m args below meth c R own bytes mx rt nm Q O D h k n pc Ls (.int y :: .int x :: st) := by
  subst hp; exact oGo.pure (fun T hA hb hx t hr => XT.ior hA hx rfl (by rw [hb]; exact hd) rfl hr) g
theorem oGo.lor {x y : Int64} (hd : decode bytes pc = .ok (.lor, 1)) (hp : pc + 1 = pc') (g : oGo l Z a0 EL wd p e s m args below meth c R own bytes mx rt nm Q O D h k n pc' Ls (.long (x ||| y) :: st)) : oGo l Z a0 EL wd p e s m args below meth c R own bytes mx rt nm Q O D h k n pc Ls (.long y :: .long x :: st) := by
  subst hp; exact oGo.pure (fun T hA hb hx t hr => XT.lor hA hx rfl (by rw [hb]; exact hd) rfl hr) g
theorem oGo.ixor {x y : Int32} (hd : decode bytes pc = .ok (.ixor, 1)) (hp : pc + 1 = pc') (g : oGo l Z a0 EL wd p e s m args below meth c R own bytes mx rt nm Q O D h k n pc' Ls (.int (x ^^^ y) :: st)) : oGo l Z a0 EL wd p e s m args below meth c R own bytes mx rt nm Q O D h k n pc Ls (.int y :: .int x :: st) := by
  subst hp; exact oGo.pure (fun T hA hb hx t hr => XT.ixor hA hx rfl (by rw [hb]; exact hd) rfl hr) g
theorem oGo.lxor {x y : Int64} (hd : decode bytes pc = .ok (.lxor, 1)) (hp : pc + 1 = pc') (g : oGo l Z a0 EL wd p e s m args below meth c R own bytes mx rt nm Q O D h k n pc' Ls (.long (x ^^^ y) :: st)) : oGo l Z a0 EL wd p e s m args below meth c R own bytes mx rt nm Q O D h k n pc Ls (.long y :: .long x :: st) := by
  subst hp; exact oGo.pure (fun T hA hb hx t hr => XT.lxor hA hx rfl (by rw [hb]; exact hd) rfl hr) g
theorem oGo.ishl {x y : Int32} (hd : decode bytes pc = .ok (.ishl, 1)) (hp : pc + 1 = pc') (g : oGo l Z a0 EL wd p e s m args below meth c R own bytes mx rt nm Q O D h k n pc' Ls (.int (x <<< (y &&& 31)) :: st)) : oGo l Z a0 EL wd p e s m args below meth c R own bytes mx rt nm Q O D h k n pc Ls (.int y :: .int x :: st) := by
  subst hp; exact oGo.pure (fun T hA hb hx t hr => XT.ishl hA hx rfl (by rw [hb]; exact hd) rfl hr) g
theorem oGo.ishr {x y : Int32} (hd : decode bytes pc = .ok (.ishr, 1)) (hp : pc + 1 = pc') (g : oGo l Z a0 EL wd p e s m args below meth c R own bytes mx rt nm Q O D h k n pc' Ls (.int (x >>> (y &&& 31)) :: st)) : oGo l Z a0 EL wd p e s m args below meth c R own bytes mx rt nm Q O D h k n pc Ls (.int y :: .int x :: st) := by
  subst hp; exact oGo.pure (fun T hA hb hx t hr => XT.ishr hA hx rfl (by rw [hb]; exact hd) rfl hr) g
theorem oGo.iushr {x y : Int32} (hd : decode bytes pc = .ok (.iushr, 1)) (hp : pc + 1 = pc') (g : oGo l Z a0 EL wd p e s m args below meth c R own bytes mx rt nm Q O D h k n pc' Ls (.int (XT.ushr x y) :: st)) : oGo l Z a0 EL wd p e s m args below meth c R own bytes mx rt nm Q O D h k n pc Ls (.int y :: .int x :: st) := by
  subst hp; exact oGo.pure (fun T hA hb hx t hr => XT.iushr hA hx rfl (by rw [hb]; exact hd) rfl hr) g
theorem oGo.idiv {x y : Int32} (hd : decode bytes pc = .ok (.idiv, 1)) (hp : pc + 1 = pc') (hy : y ≠ 0) (g : oGo l Z a0 EL wd p e s m args below meth c R own bytes mx rt nm Q O D h k n pc' Ls (.int (x / y) :: st)) : oGo l Z a0 EL wd p e s m args below meth c R own bytes mx rt nm Q O D h k n pc Ls (.int y :: .int x :: st) := by
  subst hp; exact oGo.pure (fun T hA hb hx t hr => XS.idiv hA hx rfl (by rw [hb]; exact hd) rfl hy hr) g
theorem oGo.ldiv {x y : Int64} (hd : decode bytes pc = .ok (.ldiv, 1)) (hp : pc + 1 = pc') (hy : y ≠ 0) (g : oGo l Z a0 EL wd p e s m args below meth c R own bytes mx rt nm Q O D h k n pc' Ls (.long (x / y) :: st)) : oGo l Z a0 EL wd p e s m args below meth c R own bytes mx rt nm Q O D h k n pc Ls (.long y :: .long x :: st) := by
  subst hp; exact oGo.pure (fun T hA hb hx t hr => XT.ldiv hA hx rfl (by rw [hb]; exact hd) rfl hy hr) g
theorem oGo.irem {x y : Int32} (hd : decode bytes pc = .ok (.irem, 1)) (hp : pc + 1 = pc') (hy : y ≠ 0) (g : oGo l Z a0 EL wd p e s m args below meth c R own bytes mx rt nm Q O D h k n pc' Ls (.int (x % y) :: st)) : oGo l Z a0 EL wd p e s m args below meth c R own bytes mx rt nm Q O D h k n pc Ls (.int y :: .int x :: st) := by
  subst hp; rw [← irem_eq_mod] at g; exact oGo.pure (fun T hA hb hx t hr => XS.irem hA hx rfl (by rw [hb]; exact hd) rfl hy hr) g
theorem oGo.lrem {x y : Int64} (hd : decode bytes pc = .ok (.lrem, 1)) (hp : pc + 1 = pc') (hy : y ≠ 0) (g : oGo l Z a0 EL wd p e s m args below meth c R own bytes mx rt nm Q O D h k n pc' Ls (.long (x - x / y * y) :: st)) : oGo l Z a0 EL wd p e s m args below meth c R own bytes mx rt nm Q O D h k n pc Ls (.long y :: .long x :: st) := by
  subst hp; exact oGo.pure (fun T hA hb hx t hr => XT.lrem hA hx rfl (by rw [hb]; exact hd) rfl hy hr) g
theorem oGo.ineg {x : Int32} (hd : decode bytes pc = .ok (.ineg, 1)) (hp : pc + 1 = pc') (g : oGo l Z a0 EL wd p e s m args below meth c R own bytes mx rt nm Q O D h k n pc' Ls (.int (-x) :: st)) : oGo l Z a0 EL wd p e s m args below meth c R own bytes mx rt nm Q O D h k n pc Ls (.int x :: st) := by
  subst hp; exact oGo.pure (fun T hA hb hx t hr => XS.ineg hA hx rfl (by rw [hb]; exact hd) rfl hr) g
theorem oGo.lneg {x : Int64} (hd : decode bytes pc = .ok (.lneg, 1)) (hp : pc + 1 = pc') (g : oGo l Z a0 EL wd p e s m args below meth c R own bytes mx rt nm Q O D h k n pc' Ls (.long (-x) :: st)) : oGo l Z a0 EL wd p e s m args below meth c R own bytes mx rt nm Q O D h k n pc Ls (.long x :: st) := by
  subst hp; exact oGo.pure (fun T hA hb hx t hr => XT.lneg hA hx rfl (by rw [hb]; exact hd) rfl hr) g
theorem oGo.i2l {x : Int32} (hd : decode bytes pc = .ok (.i2l, 1)) (hp : pc + 1 = pc') (g : oGo l Z a0 EL wd p e s m args below meth c R own bytes mx rt nm Q O D h k n pc' Ls (.long x.toInt64 :: st)) : oGo l Z a0 EL wd p e s m args below meth c R own bytes mx rt nm Q O D h k n pc Ls (.int x :: st) := by
  subst hp; exact oGo.pure (fun T hA hb hx t hr => XT.i2l hA hx rfl (by rw [hb]; exact hd) rfl hr) g
theorem oGo.l2i {x : Int64} (hd : decode bytes pc = .ok (.l2i, 1)) (hp : pc + 1 = pc') (g : oGo l Z a0 EL wd p e s m args below meth c R own bytes mx rt nm Q O D h k n pc' Ls (.int x.toInt32 :: st)) : oGo l Z a0 EL wd p e s m args below meth c R own bytes mx rt nm Q O D h k n pc Ls (.long x :: st) := by
  subst hp; exact oGo.pure (fun T hA hb hx t hr => XT.l2i hA hx rfl (by rw [hb]; exact hd) rfl hr) g
theorem oGo.i2b {x : Int32} (hd : decode bytes pc = .ok (.i2b, 1)) (hp : pc + 1 = pc') (g : oGo l Z a0 EL wd p e s m args below meth c R own bytes mx rt nm Q O D h k n pc' Ls (.int x.toInt8.toInt32 :: st)) : oGo l Z a0 EL wd p e s m args below meth c R own bytes mx rt nm Q O D h k n pc Ls (.int x :: st) := by
  subst hp; exact oGo.pure (fun T hA hb hx t hr => XT.i2b hA hx rfl (by rw [hb]; exact hd) rfl hr) g
theorem oGo.i2c {x : Int32} (hd : decode bytes pc = .ok (.i2c, 1)) (hp : pc + 1 = pc') (g : oGo l Z a0 EL wd p e s m args below meth c R own bytes mx rt nm Q O D h k n pc' Ls (.int x.toUInt32.toUInt16.toUInt32.toInt32 :: st)) : oGo l Z a0 EL wd p e s m args below meth c R own bytes mx rt nm Q O D h k n pc Ls (.int x :: st) := by
  subst hp; exact oGo.pure (fun T hA hb hx t hr => XT.i2c hA hx rfl (by rw [hb]; exact hd) rfl hr) g
theorem oGo.lcmp {x y : Int64} (hd : decode bytes pc = .ok (.lcmp, 1)) (hp : pc + 1 = pc') (g : oGo l Z a0 EL wd p e s m args below meth c R own bytes mx rt nm Q O D h k n pc' Ls (.int (XT.cmpL x y) :: st)) : oGo l Z a0 EL wd p e s m args below meth c R own bytes mx rt nm Q O D h k n pc Ls (.long y :: .long x :: st) := by
  subst hp; exact oGo.pure (fun T hA hb hx t hr => XT.lcmp hA hx rfl (by rw [hb]; exact hd) rfl hr) g
theorem oGo.iinc {i : Nat} {d : Int} {x y : Int32} (hd : decode bytes pc = .ok (.iinc i d, 3)) (hp : pc + 3 = pc') (hl : Ls[i]? = some (.val (.int x))) (hv : Int32.ofInt d = y) (hl' : storeLocals Ls i (.int (x + y)) = some Ls') (g : oGo l Z a0 EL wd p e s m args below meth c R own bytes mx rt nm Q O D h k n pc' Ls' (st)) : oGo l Z a0 EL wd p e s m args below meth c R own bytes mx rt nm Q O D h k n pc Ls (st) := by
  subst hp; exact oGo.pure (fun T hA hb hx t hr => XS.iinc hA hx rfl (by rw [hb]; exact hd) hl (by rw [hv]; exact hl') hr) g
theorem oGo.dup {v : Value} (hd : decode bytes pc = .ok (.dup, 1)) (hp : pc + 1 = pc') (hc : v.category = 1) (g : oGo l Z a0 EL wd p e s m args below meth c R own bytes mx rt nm Q O D h k n pc' Ls (v :: v :: st)) : oGo l Z a0 EL wd p e s m args below meth c R own bytes mx rt nm Q O D h k n pc Ls (v :: st) := by
  subst hp; exact oGo.pure (fun T hA hb hx t hr => XS.dup hA hx rfl (by rw [hb]; exact hd) rfl hc hr) g
theorem oGo.pop {v : Value} (hd : decode bytes pc = .ok (.pop, 1)) (hp : pc + 1 = pc') (hc : v.category = 1) (g : oGo l Z a0 EL wd p e s m args below meth c R own bytes mx rt nm Q O D h k n pc' Ls (st)) : oGo l Z a0 EL wd p e s m args below meth c R own bytes mx rt nm Q O D h k n pc Ls (v :: st) := by
  subst hp; exact oGo.pure (fun T hA hb hx t hr => XT.pop hA hx rfl (by rw [hb]; exact hd) rfl hc hr) g
theorem oGo.dup_x1 {v w : Value} (hd : decode bytes pc = .ok (.dup_x1, 1)) (hp : pc + 1 = pc') (hc : v.category = 1) (hc' : w.category = 1) (g : oGo l Z a0 EL wd p e s m args below meth c R own bytes mx rt nm Q O D h k n pc' Ls (v :: w :: v :: st)) : oGo l Z a0 EL wd p e s m args below meth c R own bytes mx rt nm Q O D h k n pc Ls (v :: w :: st) := by
  subst hp; exact oGo.pure (fun T hA hb hx t hr => XT.dupX1 hA hx rfl (by rw [hb]; exact hd) rfl hc hc' hr) g
theorem oGo.dup2 {v w : Value} (hd : decode bytes pc = .ok (.dup2, 1)) (hp : pc + 1 = pc') (hc : v.category = 1) (hc' : w.category = 1) (g : oGo l Z a0 EL wd p e s m args below meth c R own bytes mx rt nm Q O D h k n pc' Ls (v :: w :: v :: w :: st)) : oGo l Z a0 EL wd p e s m args below meth c R own bytes mx rt nm Q O D h k n pc Ls (v :: w :: st) := by
  subst hp; exact oGo.pure (fun T hA hb hx t hr => XT.dup2 hA hx rfl (by rw [hb]; exact hd) rfl hc hc' hr) g
theorem oGo.goto {o : Int} (hd : decode bytes pc = .ok (.goto o, 3)) (ho : (pc : Int) + o = (pc' : Int)) (g : oGo l Z a0 EL wd p e s m args below meth c R own bytes mx rt nm Q O D h k n pc' Ls st) : oGo l Z a0 EL wd p e s m args below meth c R own bytes mx rt nm Q O D h k n pc Ls st :=
  oGo.pure (fun T hA hb hx t hr => XS.goto hA hx rfl (pc0 := pc) (pc' := pc') rfl (by rw [hb]; exact hd) (by omega) (by omega) hr) g
theorem own_icmp_eq {x y : Int32} : if_icmp.holds .eq x y = true ↔ x = y := by simp [if_icmp.holds, Int32.not_lt]
theorem own_icmp_eqN {x y : Int32} : if_icmp.holds .eq x y = false ↔ ¬ x = y := by simp [if_icmp.holds, Int32.not_lt]
theorem oGo.icmp_eq {x y : Int32} {o : Int} (hd : decode bytes pc = .ok (.if_icmp .eq o, 3)) (hp : pc + 3 = pc1) (ho : (pc : Int) + o = (pc2 : Int)) (gy : x = y → oGo l Z a0 EL wd p e s m args below meth c R own bytes mx rt nm Q O D h k n pc2 Ls st) (gn : ¬ x = y → oGo l Z a0 EL wd p e s m args below meth c R own bytes mx rt nm Q O D h k n pc1 Ls st) : oGo l Z a0 EL wd p e s m args below meth c R own bytes mx rt nm Q O D h k n pc Ls (.int y :: .int x :: st) := by
  subst hp
  by_cases q : x = y
  · exact oGo.pure (fun T hA hb hx t hr => XS.icmpYes hA hx rfl (pc0 := pc) (pc' := pc2) rfl (by rw [hb]; exact hd) rfl (own_icmp_eq.2 q) (by omega) (by omega) hr) (gy q)
  · exact oGo.pure (fun T hA hb hx t hr => XS.icmpNo hA hx rfl (by rw [hb]; exact hd) rfl (own_icmp_eqN.2 q) hr) (gn q)
theorem own_icmp_ne {x y : Int32} : if_icmp.holds .ne x y = true ↔ ¬ x = y := by simp [if_icmp.holds, Int32.not_lt]
theorem own_icmp_neN {x y : Int32} : if_icmp.holds .ne x y = false ↔ x = y := by simp [if_icmp.holds, Int32.not_lt]
theorem oGo.icmp_ne {x y : Int32} {o : Int} (hd : decode bytes pc = .ok (.if_icmp .ne o, 3)) (hp : pc + 3 = pc1) (ho : (pc : Int) + o = (pc2 : Int)) (gy : ¬ x = y → oGo l Z a0 EL wd p e s m args below meth c R own bytes mx rt nm Q O D h k n pc2 Ls st) (gn : x = y → oGo l Z a0 EL wd p e s m args below meth c R own bytes mx rt nm Q O D h k n pc1 Ls st) : oGo l Z a0 EL wd p e s m args below meth c R own bytes mx rt nm Q O D h k n pc Ls (.int y :: .int x :: st) := by
  subst hp
  by_cases q : x = y
  · exact oGo.pure (fun T hA hb hx t hr => XS.icmpNo hA hx rfl (by rw [hb]; exact hd) rfl (own_icmp_neN.2 q) hr) (gn q)
  · exact oGo.pure (fun T hA hb hx t hr => XS.icmpYes hA hx rfl (pc0 := pc) (pc' := pc2) rfl (by rw [hb]; exact hd) rfl (own_icmp_ne.2 q) (by omega) (by omega) hr) (gy q)
theorem own_icmp_lt {x y : Int32} : if_icmp.holds .lt x y = true ↔ x < y := by simp [if_icmp.holds, Int32.not_lt]
theorem own_icmp_ltN {x y : Int32} : if_icmp.holds .lt x y = false ↔ ¬ x < y := by simp [if_icmp.holds, Int32.not_lt]
theorem oGo.icmp_lt {x y : Int32} {o : Int} (hd : decode bytes pc = .ok (.if_icmp .lt o, 3)) (hp : pc + 3 = pc1) (ho : (pc : Int) + o = (pc2 : Int)) (gy : x < y → oGo l Z a0 EL wd p e s m args below meth c R own bytes mx rt nm Q O D h k n pc2 Ls st) (gn : ¬ x < y → oGo l Z a0 EL wd p e s m args below meth c R own bytes mx rt nm Q O D h k n pc1 Ls st) : oGo l Z a0 EL wd p e s m args below meth c R own bytes mx rt nm Q O D h k n pc Ls (.int y :: .int x :: st) := by
  subst hp
  by_cases q : x < y
  · exact oGo.pure (fun T hA hb hx t hr => XS.icmpYes hA hx rfl (pc0 := pc) (pc' := pc2) rfl (by rw [hb]; exact hd) rfl (own_icmp_lt.2 q) (by omega) (by omega) hr) (gy q)
  · exact oGo.pure (fun T hA hb hx t hr => XS.icmpNo hA hx rfl (by rw [hb]; exact hd) rfl (own_icmp_ltN.2 q) hr) (gn q)
theorem own_icmp_ge {x y : Int32} : if_icmp.holds .ge x y = true ↔ ¬ x < y := by simp [if_icmp.holds, Int32.not_lt]
theorem own_icmp_geN {x y : Int32} : if_icmp.holds .ge x y = false ↔ x < y := by simp [if_icmp.holds, Int32.not_lt]
theorem oGo.icmp_ge {x y : Int32} {o : Int} (hd : decode bytes pc = .ok (.if_icmp .ge o, 3)) (hp : pc + 3 = pc1) (ho : (pc : Int) + o = (pc2 : Int)) (gy : ¬ x < y → oGo l Z a0 EL wd p e s m args below meth c R own bytes mx rt nm Q O D h k n pc2 Ls st) (gn : x < y → oGo l Z a0 EL wd p e s m args below meth c R own bytes mx rt nm Q O D h k n pc1 Ls st) : oGo l Z a0 EL wd p e s m args below meth c R own bytes mx rt nm Q O D h k n pc Ls (.int y :: .int x :: st) := by
  subst hp
  by_cases q : x < y
  · exact oGo.pure (fun T hA hb hx t hr => XS.icmpNo hA hx rfl (by rw [hb]; exact hd) rfl (own_icmp_geN.2 q) hr) (gn q)
  · exact oGo.pure (fun T hA hb hx t hr => XS.icmpYes hA hx rfl (pc0 := pc) (pc' := pc2) rfl (by rw [hb]; exact hd) rfl (own_icmp_ge.2 q) (by omega) (by omega) hr) (gy q)
theorem own_icmp_gt {x y : Int32} : if_icmp.holds .gt x y = true ↔ y < x := by simp [if_icmp.holds, Int32.not_lt]
theorem own_icmp_gtN {x y : Int32} : if_icmp.holds .gt x y = false ↔ ¬ y < x := by simp [if_icmp.holds, Int32.not_lt]
theorem oGo.icmp_gt {x y : Int32} {o : Int} (hd : decode bytes pc = .ok (.if_icmp .gt o, 3)) (hp : pc + 3 = pc1) (ho : (pc : Int) + o = (pc2 : Int)) (gy : y < x → oGo l Z a0 EL wd p e s m args below meth c R own bytes mx rt nm Q O D h k n pc2 Ls st) (gn : ¬ y < x → oGo l Z a0 EL wd p e s m args below meth c R own bytes mx rt nm Q O D h k n pc1 Ls st) : oGo l Z a0 EL wd p e s m args below meth c R own bytes mx rt nm Q O D h k n pc Ls (.int y :: .int x :: st) := by
  subst hp
  by_cases q : y < x
  · exact oGo.pure (fun T hA hb hx t hr => XS.icmpYes hA hx rfl (pc0 := pc) (pc' := pc2) rfl (by rw [hb]; exact hd) rfl (own_icmp_gt.2 q) (by omega) (by omega) hr) (gy q)
  · exact oGo.pure (fun T hA hb hx t hr => XS.icmpNo hA hx rfl (by rw [hb]; exact hd) rfl (own_icmp_gtN.2 q) hr) (gn q)
theorem own_icmp_le {x y : Int32} : if_icmp.holds .le x y = true ↔ ¬ y < x := by simp [if_icmp.holds, Int32.not_lt]
theorem own_icmp_leN {x y : Int32} : if_icmp.holds .le x y = false ↔ y < x := by simp [if_icmp.holds, Int32.not_lt]
theorem oGo.icmp_le {x y : Int32} {o : Int} (hd : decode bytes pc = .ok (.if_icmp .le o, 3)) (hp : pc + 3 = pc1) (ho : (pc : Int) + o = (pc2 : Int)) (gy : ¬ y < x → oGo l Z a0 EL wd p e s m args below meth c R own bytes mx rt nm Q O D h k n pc2 Ls st) (gn : y < x → oGo l Z a0 EL wd p e s m args below meth c R own bytes mx rt nm Q O D h k n pc1 Ls st) : oGo l Z a0 EL wd p e s m args below meth c R own bytes mx rt nm Q O D h k n pc Ls (.int y :: .int x :: st) := by
  subst hp
  by_cases q : y < x
  · exact oGo.pure (fun T hA hb hx t hr => XS.icmpNo hA hx rfl (by rw [hb]; exact hd) rfl (own_icmp_leN.2 q) hr) (gn q)
  · exact oGo.pure (fun T hA hb hx t hr => XS.icmpYes hA hx rfl (pc0 := pc) (pc' := pc2) rfl (by rw [hb]; exact hd) rfl (own_icmp_le.2 q) (by omega) (by omega) hr) (gy q)
theorem own_if_eq {x : Int32} : ifCond.holds .eq x = true ↔ x = 0 := by simp [ifCond.holds, Int32.not_lt]
theorem own_if_eqN {x : Int32} : ifCond.holds .eq x = false ↔ ¬ x = 0 := by simp [ifCond.holds, Int32.not_lt]
theorem oGo.if_eq {x : Int32} {o : Int} (hd : decode bytes pc = .ok (.ifCond .eq o, 3)) (hp : pc + 3 = pc1) (ho : (pc : Int) + o = (pc2 : Int)) (gy : x = 0 → oGo l Z a0 EL wd p e s m args below meth c R own bytes mx rt nm Q O D h k n pc2 Ls st) (gn : ¬ x = 0 → oGo l Z a0 EL wd p e s m args below meth c R own bytes mx rt nm Q O D h k n pc1 Ls st) : oGo l Z a0 EL wd p e s m args below meth c R own bytes mx rt nm Q O D h k n pc Ls (.int x :: st) := by
  subst hp
  by_cases q : x = 0
  · exact oGo.pure (fun T hA hb hx t hr => XS.ifYes hA hx rfl (pc0 := pc) (pc' := pc2) rfl (by rw [hb]; exact hd) rfl (own_if_eq.2 q) (by omega) (by omega) hr) (gy q)
  · exact oGo.pure (fun T hA hb hx t hr => XS.ifNo hA hx rfl (by rw [hb]; exact hd) rfl (own_if_eqN.2 q) hr) (gn q)
theorem own_if_ne {x : Int32} : ifCond.holds .ne x = true ↔ ¬ x = 0 := by simp [ifCond.holds, Int32.not_lt]
theorem own_if_neN {x : Int32} : ifCond.holds .ne x = false ↔ x = 0 := by simp [ifCond.holds, Int32.not_lt]
theorem oGo.if_ne {x : Int32} {o : Int} (hd : decode bytes pc = .ok (.ifCond .ne o, 3)) (hp : pc + 3 = pc1) (ho : (pc : Int) + o = (pc2 : Int)) (gy : ¬ x = 0 → oGo l Z a0 EL wd p e s m args below meth c R own bytes mx rt nm Q O D h k n pc2 Ls st) (gn : x = 0 → oGo l Z a0 EL wd p e s m args below meth c R own bytes mx rt nm Q O D h k n pc1 Ls st) : oGo l Z a0 EL wd p e s m args below meth c R own bytes mx rt nm Q O D h k n pc Ls (.int x :: st) := by
  subst hp
  by_cases q : x = 0
  · exact oGo.pure (fun T hA hb hx t hr => XS.ifNo hA hx rfl (by rw [hb]; exact hd) rfl (own_if_neN.2 q) hr) (gn q)
  · exact oGo.pure (fun T hA hb hx t hr => XS.ifYes hA hx rfl (pc0 := pc) (pc' := pc2) rfl (by rw [hb]; exact hd) rfl (own_if_ne.2 q) (by omega) (by omega) hr) (gy q)
theorem own_if_lt {x : Int32} : ifCond.holds .lt x = true ↔ x < 0 := by simp [ifCond.holds, Int32.not_lt]
theorem own_if_ltN {x : Int32} : ifCond.holds .lt x = false ↔ ¬ x < 0 := by simp [ifCond.holds, Int32.not_lt]
theorem oGo.if_lt {x : Int32} {o : Int} (hd : decode bytes pc = .ok (.ifCond .lt o, 3)) (hp : pc + 3 = pc1) (ho : (pc : Int) + o = (pc2 : Int)) (gy : x < 0 → oGo l Z a0 EL wd p e s m args below meth c R own bytes mx rt nm Q O D h k n pc2 Ls st) (gn : ¬ x < 0 → oGo l Z a0 EL wd p e s m args below meth c R own bytes mx rt nm Q O D h k n pc1 Ls st) : oGo l Z a0 EL wd p e s m args below meth c R own bytes mx rt nm Q O D h k n pc Ls (.int x :: st) := by
  subst hp
  by_cases q : x < 0
  · exact oGo.pure (fun T hA hb hx t hr => XS.ifYes hA hx rfl (pc0 := pc) (pc' := pc2) rfl (by rw [hb]; exact hd) rfl (own_if_lt.2 q) (by omega) (by omega) hr) (gy q)
  · exact oGo.pure (fun T hA hb hx t hr => XS.ifNo hA hx rfl (by rw [hb]; exact hd) rfl (own_if_ltN.2 q) hr) (gn q)
theorem own_if_ge {x : Int32} : ifCond.holds .ge x = true ↔ ¬ x < 0 := by simp [ifCond.holds, Int32.not_lt]
theorem own_if_geN {x : Int32} : ifCond.holds .ge x = false ↔ x < 0 := by simp [ifCond.holds, Int32.not_lt]
theorem oGo.if_ge {x : Int32} {o : Int} (hd : decode bytes pc = .ok (.ifCond .ge o, 3)) (hp : pc + 3 = pc1) (ho : (pc : Int) + o = (pc2 : Int)) (gy : ¬ x < 0 → oGo l Z a0 EL wd p e s m args below meth c R own bytes mx rt nm Q O D h k n pc2 Ls st) (gn : x < 0 → oGo l Z a0 EL wd p e s m args below meth c R own bytes mx rt nm Q O D h k n pc1 Ls st) : oGo l Z a0 EL wd p e s m args below meth c R own bytes mx rt nm Q O D h k n pc Ls (.int x :: st) := by
  subst hp
  by_cases q : x < 0
  · exact oGo.pure (fun T hA hb hx t hr => XS.ifNo hA hx rfl (by rw [hb]; exact hd) rfl (own_if_geN.2 q) hr) (gn q)
  · exact oGo.pure (fun T hA hb hx t hr => XS.ifYes hA hx rfl (pc0 := pc) (pc' := pc2) rfl (by rw [hb]; exact hd) rfl (own_if_ge.2 q) (by omega) (by omega) hr) (gy q)
theorem own_if_gt {x : Int32} : ifCond.holds .gt x = true ↔ 0 < x := by simp [ifCond.holds, Int32.not_lt]
theorem own_if_gtN {x : Int32} : ifCond.holds .gt x = false ↔ ¬ 0 < x := by simp [ifCond.holds, Int32.not_lt]
theorem oGo.if_gt {x : Int32} {o : Int} (hd : decode bytes pc = .ok (.ifCond .gt o, 3)) (hp : pc + 3 = pc1) (ho : (pc : Int) + o = (pc2 : Int)) (gy : 0 < x → oGo l Z a0 EL wd p e s m args below meth c R own bytes mx rt nm Q O D h k n pc2 Ls st) (gn : ¬ 0 < x → oGo l Z a0 EL wd p e s m args below meth c R own bytes mx rt nm Q O D h k n pc1 Ls st) : oGo l Z a0 EL wd p e s m args below meth c R own bytes mx rt nm Q O D h k n pc Ls (.int x :: st) := by
  subst hp
  by_cases q : 0 < x
  · exact oGo.pure (fun T hA hb hx t hr => XS.ifYes hA hx rfl (pc0 := pc) (pc' := pc2) rfl (by rw [hb]; exact hd) rfl (own_if_gt.2 q) (by omega) (by omega) hr) (gy q)
  · exact oGo.pure (fun T hA hb hx t hr => XS.ifNo hA hx rfl (by rw [hb]; exact hd) rfl (own_if_gtN.2 q) hr) (gn q)
theorem own_if_le {x : Int32} : ifCond.holds .le x = true ↔ ¬ 0 < x := by simp [ifCond.holds, Int32.not_lt]
theorem own_if_leN {x : Int32} : ifCond.holds .le x = false ↔ 0 < x := by simp [ifCond.holds, Int32.not_lt]
theorem oGo.if_le {x : Int32} {o : Int} (hd : decode bytes pc = .ok (.ifCond .le o, 3)) (hp : pc + 3 = pc1) (ho : (pc : Int) + o = (pc2 : Int)) (gy : ¬ 0 < x → oGo l Z a0 EL wd p e s m args below meth c R own bytes mx rt nm Q O D h k n pc2 Ls st) (gn : 0 < x → oGo l Z a0 EL wd p e s m args below meth c R own bytes mx rt nm Q O D h k n pc1 Ls st) : oGo l Z a0 EL wd p e s m args below meth c R own bytes mx rt nm Q O D h k n pc Ls (.int x :: st) := by
  subst hp
  by_cases q : 0 < x
  · exact oGo.pure (fun T hA hb hx t hr => XS.ifNo hA hx rfl (by rw [hb]; exact hd) rfl (own_if_leN.2 q) hr) (gn q)
  · exact oGo.pure (fun T hA hb hx t hr => XS.ifYes hA hx rfl (pc0 := pc) (pc' := pc2) rfl (by rw [hb]; exact hd) rfl (own_if_le.2 q) (by omega) (by omega) hr) (gy q)
theorem oGo.ifnull_y {o : Int} {b : Addr} (hd : decode bytes pc = .ok (.ifnull o, 3)) (ho : (pc : Int) + o = (pc2 : Int)) (g : oGo l Z a0 EL wd p e s m args below meth c R own bytes mx rt nm Q O D h k n pc2 Ls st) : oGo l Z a0 EL wd p e s m args below meth c R own bytes mx rt nm Q O D h k n pc Ls (.null :: st) :=
  oGo.pure (fun T hA hb hx t hr => XS.ifnullYes hA hx rfl (pc0 := pc) (pc' := pc2) rfl (by rw [hb]; exact hd) rfl (by omega) (by omega) hr) g
theorem oGo.ifnull_n {o : Int} {b : Addr} (hd : decode bytes pc = .ok (.ifnull o, 3)) (hp : pc + 3 = pc1) (g : oGo l Z a0 EL wd p e s m args below meth c R own bytes mx rt nm Q O D h k n pc1 Ls st) : oGo l Z a0 EL wd p e s m args below meth c R own bytes mx rt nm Q O D h k n pc Ls (.ref b :: st) := by
  subst hp; exact oGo.pure (fun T hA hb hx t hr => XS.ifnullNo hA hx rfl (by rw [hb]; exact hd) rfl hr) g
theorem oGo.ifnonnull_y {o : Int} {b : Addr} (hd : decode bytes pc = .ok (.ifnonnull o, 3)) (ho : (pc : Int) + o = (pc2 : Int)) (g : oGo l Z a0 EL wd p e s m args below meth c R own bytes mx rt nm Q O D h k n pc2 Ls st) : oGo l Z a0 EL wd p e s m args below meth c R own bytes mx rt nm Q O D h k n pc Ls (.ref b :: st) :=
  oGo.pure (fun T hA hb hx t hr => XT.ifnonnullYes hA hx rfl (pc0 := pc) (pc' := pc2) rfl (by rw [hb]; exact hd) rfl (by omega) (by omega) hr) g
theorem oGo.ifnonnull_n {o : Int} {b : Addr} (hd : decode bytes pc = .ok (.ifnonnull o, 3)) (hp : pc + 3 = pc1) (g : oGo l Z a0 EL wd p e s m args below meth c R own bytes mx rt nm Q O D h k n pc1 Ls st) : oGo l Z a0 EL wd p e s m args below meth c R own bytes mx rt nm Q O D h k n pc Ls (.null :: st) := by
  subst hp; exact oGo.pure (fun T hA hb hx t hr => XT.ifnonnullNo hA hx rfl (by rw [hb]; exact hd) rfl hr) g
theorem oGo.acmp_y {cd : ClassFile.ACond} {v w : Value} {o : Int} (hd : decode bytes pc = .ok (.if_acmp cd o, 3)) (ho : (pc : Int) + o = (pc2 : Int)) (hv : v.isRef = true) (hw : w.isRef = true) (hq : XT.acmp cd v w = true) (g : oGo l Z a0 EL wd p e s m args below meth c R own bytes mx rt nm Q O D h k n pc2 Ls st) : oGo l Z a0 EL wd p e s m args below meth c R own bytes mx rt nm Q O D h k n pc Ls (w :: v :: st) :=
  oGo.pure (fun T hA hb hx t hr => XT.acmpYes hA hx rfl (pc0 := pc) (pc' := pc2) rfl (by rw [hb]; exact hd) rfl hv hw hq (by omega) (by omega) hr) g
theorem oGo.acmp_n {cd : ClassFile.ACond} {v w : Value} {o : Int} (hd : decode bytes pc = .ok (.if_acmp cd o, 3)) (hp : pc + 3 = pc1) (hv : v.isRef = true) (hw : w.isRef = true) (hq : XT.acmp cd v w = false) (g : oGo l Z a0 EL wd p e s m args below meth c R own bytes mx rt nm Q O D h k n pc1 Ls st) : oGo l Z a0 EL wd p e s m args below meth c R own bytes mx rt nm Q O D h k n pc Ls (w :: v :: st) := by
  subst hp; exact oGo.pure (fun T hA hb hx t hr => XT.acmpNo hA hx rfl (by rw [hb]; exact hd) rfl hv hw hq hr) g
/-- steps that may warm the tables -/
theorem oGo.move (H : ∀ (T : State) (locs : List Loc) (vm0 : Vm), Stand p l e R (s.setVm vm0) m args below meth c T locs k n → T.heap = h → Z.Warmed39 vm0 → vm0.findClass own = some m.cls → c.code = bytes → p.tables.exec = Jvm.exec → meth.name = nm → c.maxLocals = mx → ∃ T', Stand p l e R (s.setVm vm0) m args below meth c T' locs k n ∧ T'.heap = h ∧ ∀ t, Steps p.tables e below (T'.setTop (mkF m pc' Ls' st')) t → Steps p.tables e below (T.setTop (mkF m pc Ls st)) t)
    (g : oGo l Z a0 EL wd p e s m args below meth c R own bytes mx rt nm Q O D h k n pc' Ls' st') : oGo l Z a0 EL wd p e s m args below meth c R own bytes mx rt nm Q O D h k n pc Ls st := by
  intro T locs vm0 k0 I
  obtain ⟨⟨hx, hb, hm, hr, hl, hn, hE⟩, hT, hO, hF, X, hS, hk, hZ, hown, hC, hwd, hD⟩ := I
  obtain ⟨T', X', hT', hst⟩ := H T locs vm0 X hT hZ hown hb hx hn hm
  obtain ⟨V, v, L, hs, r⟩ := g T' locs vm0 k0 ⟨⟨hx, hb, hm, hr, hl, hn, hE⟩, hT', hO, hF, X', hS, hk, hZ, hown, hC, hwd, hD⟩
  exact ⟨V, v, L, hst V hs, r⟩
/-- steps that make a cell -/
theorem oGo.grow {P : Heap → Prop} {D' : List Addr} {k' n' : Nat} (H : ∀ (T : State) (locs : List Loc) (vm0 : Vm), Stand p l e R (s.setVm vm0) m args below meth c T locs k n → T.heap = h → Z.Warmed39 vm0 → vm0.findClass own = some m.cls → c.code = bytes → p.tables.exec = Jvm.exec → meth.name = nm → c.maxLocals = mx → ∃ T' h', Stand p l e R (s.setVm vm0) m args below meth c T' locs k' n' ∧ T'.heap = h' ∧ Ext h h' ∧ P h' ∧ ∀ t, Steps p.tables e below (T'.setTop (mkF m pc' Ls' st')) t → Steps p.tables e below (T.setTop (mkF m pc Ls st)) t)
    (hD : ∀ h', P h' → ∀ x ∈ D', x ∈ D ∨ (h.size ≤ x ∧ x < h'.size)) (g : ∀ h', Ext h h' → P h' → oGo l Z a0 EL wd p e s m args below meth c R own bytes mx rt nm Q O D' h' k' n' pc' Ls' st') : oGo l Z a0 EL wd p e s m args below meth c R own bytes mx rt nm Q O D h k n pc Ls st := by
  intro T locs vm0 k0 I
  obtain ⟨⟨hx, hb, hm, hr, hl, hn, hE⟩, hT, hO, hF, X, hS, hk, hZ, hown, hC, hwd, hDk⟩ := I
  obtain ⟨T', h', X', hT', hEx, hP, hst⟩ := H T locs vm0 X hT hZ hown hb hx hn hm
  have hD2 : oDok Z EL vm0 h' D' := fun x hx' => by
    rcases hD h' hP x hx' with q | ⟨q1, q2⟩
    · exact oDok.ext hEx hC.1 hDk x q
    · exact ⟨Nat.le_trans hO.1 q1, q2, (Safe.new q1).ext hEx hC.1⟩
  obtain ⟨V, v, L, hs, r⟩ := g h' hEx hP T' locs vm0 k0 ⟨⟨hx, hb, hm, hr, hl, hn, hE⟩, hT', ext_trans hO hEx, hF, X', hS, Nat.le_trans hk hEx.1, hZ, hown, hC.trans (CHr.ext hEx hC.1), hwd, hD2⟩
  exact ⟨V, v, L, hst V hs, r⟩
/-- a store into one slot -/
theorem oGo.write {a : Addr} {sl : Nat} {w : Value} (H : ∀ (T : State) (locs : List Loc) (vm0 : Vm), Stand p l e R (s.setVm vm0) m args below meth c T locs k n → T.heap = h → Z.Warmed39 vm0 → vm0.findClass own = some m.cls → c.code = bytes → p.tables.exec = Jvm.exec → meth.name = nm → c.maxLocals = mx → ∃ T' h', Stand p l e R (s.setVm vm0) m args below meth c T' (locs ++ [⟨a, sl⟩]) k n ∧ T'.heap = h' ∧ Wr h h' a sl w ∧ ∀ t, Steps p.tables e below (T'.setTop (mkF m pc' Ls' st')) t → Steps p.tables e below (T.setTop (mkF m pc Ls st)) t)
    (ha : a ∈ D) (g : ∀ h', Wr h h' a sl w → h'.size = h.size → oGo l Z a0 EL wd p e s m args below meth c R own bytes mx rt nm Q O D h' k n pc' Ls' st') : oGo l Z a0 EL wd p e s m args below meth c R own bytes mx rt nm Q O D h k n pc Ls st := by
  intro T locs vm0 k0 I
  obtain ⟨⟨hx, hb, hm, hr, hl, hn, hE⟩, hT, hO, hF, X, hS, hk, hZ, hown, hC, hwd, hDk⟩ := I
  obtain ⟨T', h', X', hT', W, hst⟩ := H T locs vm0 X hT hZ hown hb hx hn hm
  obtain ⟨q1, q2, q3⟩ := hDk a ha
  obtain ⟨V, v, L, hs, r⟩ := g h' W W.size T' _ vm0 k0 ⟨⟨hx, hb, hm, hr, hl, hn, hE⟩, hT', ext_wr hO W q1, Fr.snoc X' hF q1, X', hS, by rw [W.size]; exact hk, hZ, hown, hC.trans (CHr.wr W q3 hC.1), hwd, hDk.wr W q3 hC.1⟩
  exact ⟨V, v, L, hst V hs, r⟩
/-- a step that writes into known cells (arraycopy) -/
theorem oGo.writes {ws : List Addr} {P : Heap → Prop} (H : ∀ (T : State) (locs : List Loc) (vm0 : Vm), Stand p l e R (s.setVm vm0) m args below meth c T locs k n → T.heap = h → Z.Warmed39 vm0 → vm0.findClass own = some m.cls → c.code = bytes → p.tables.exec = Jvm.exec → meth.name = nm → c.maxLocals = mx → Fr Z.heap.size locs → (∀ x ∈ D, Z.heap.size ≤ x) → ∃ T' h' L', Stand p l e R (s.setVm vm0) m args below meth c T' L' k n ∧ T'.heap = h' ∧ Fr Z.heap.size L' ∧ Keep h h' ws ∧ P h' ∧ ∀ t, Steps p.tables e below (T'.setTop (mkF m pc' Ls' st')) t → Steps p.tables e below (T.setTop (mkF m pc Ls st)) t)
    (ha : ∀ x ∈ ws, x ∈ D) (g : ∀ h', Keep h h' ws → P h' → oGo l Z a0 EL wd p e s m args below meth c R own bytes mx rt nm Q O D h' k n pc' Ls' st') : oGo l Z a0 EL wd p e s m args below meth c R own bytes mx rt nm Q O D h k n pc Ls st := by
  intro T locs vm0 k0 I
  obtain ⟨⟨hx, hb, hm, hr, hl, hn, hE⟩, hT, hO, hF, X, hS, hk, hZ, hown, hC, hwd, hDk⟩ := I
  obtain ⟨T', h', L', X', hT', hF', K, hP, hst⟩ := H T locs vm0 X hT hZ hown hb hx hn hm hF (fun x q => (hDk x q).1)
  have hsafe : ∀ x ∈ ws, Safe Z EL vm0 h x := fun x q => (hDk x (ha x q)).2.2
  have hO' : Ext Z.heap h' := (Old.keep (Z := Z) (n0 := Z.heap.size) ⟨rfl, hO⟩ K fun x q => (hDk x (ha x q)).1).2
  obtain ⟨V, v, L, hs, r⟩ := g h' K hP T' L' vm0 k0 ⟨⟨hx, hb, hm, hr, hl, hn, hE⟩, hT', hO', hF', X', hS, Nat.le_trans hk K.1, hZ, hown, hC.trans (CHr.keep K hsafe hC.1), hwd, hDk.chr (CHr.keep K hsafe hC.1)⟩
  exact ⟨V, v, L, hst V hs, r⟩
/-- what stood at the start stands still -/
theorem oGo.old (g : Ext Z.heap h → Z.heap.size ≤ h.size → oGo l Z a0 EL wd p e s m args below meth c R own bytes mx rt nm Q O D h k n pc Ls st) : oGo l Z a0 EL wd p e s m args below meth c R own bytes mx rt nm Q O D h k n pc Ls st := fun T locs vm0 k0 I => g I.2.2.1 I.2.2.1.1 T locs vm0 k0 I
/-- steps that leave the state -/
theorem oGo.read (H : ∀ (T : State) (locs : List Loc) (vm0 : Vm), Stand p l e R (s.setVm vm0) m args below meth c T locs k n → T.heap = h → Z.Warmed39 vm0 → vm0.findClass own = some m.cls → c.code = bytes → p.tables.exec = Jvm.exec → meth.name = nm → c.maxLocals = mx → ∀ t, Steps p.tables e below (T.setTop (mkF m pc' Ls' st')) t → Steps p.tables e below (T.setTop (mkF m pc Ls st)) t)
    (g : oGo l Z a0 EL wd p e s m args below meth c R own bytes mx rt nm Q O D h k n pc' Ls' st') : oGo l Z a0 EL wd p e s m args below meth c R own bytes mx rt nm Q O D h k n pc Ls st := oGo.move (fun T locs vm0 X hT hZ hown hb hx hn hm => ⟨T, X, hT, H T locs vm0 X hT hZ hown hb hx hn hm⟩) g
theorem oGo.ldc_int {idx : Nat} {v : Int32} (hd : decode bytes pc = .ok (.ldc idx, 2)) (hp : pc + 2 = pc') (w : (Cond.constant own idx v).before a0 Z = true) (g : oGo l Z a0 EL wd p e s m args below meth c R own bytes mx rt nm Q O D h k n pc' Ls (.int v :: st)) : oGo l Z a0 EL wd p e s m args below meth c R own bytes mx rt nm Q O D h k n pc Ls st := by
  subst hp; exact oGo.read (fun T locs vm0 X hT hZ hown hb hx hn hm => X.ldcInt hx hown (mvT (s := s.setVm vm0) hZ w) (g := mkF m pc Ls st) rfl (by rw [hb]; exact hd)) g
theorem oGo.ldc2_long {idx : Nat} {v : Int64} (hd : decode bytes pc = .ok (.ldc2_w idx, 3)) (hp : pc + 3 = pc') (w : (Cond.constantLong own idx v).before a0 Z = true) (g : oGo l Z a0 EL wd p e s m args below meth c R own bytes mx rt nm Q O D h k n pc' Ls (.long v :: st)) : oGo l Z a0 EL wd p e s m args below meth c R own bytes mx rt nm Q O D h k n pc Ls st := by
  subst hp; exact oGo.read (fun T locs vm0 X hT hZ hown hb hx hn hm => X.ldc2Long hx hown (mvT (s := s.setVm vm0) hZ w) (g := mkF m pc Ls st) rfl (by rw [hb]; exact hd)) g
theorem oGo.getfield {idx : Nat} {a : Addr} {R0 Ow f d : String} {v : Value} (hd : decode bytes pc = .ok (.getfield idx, 3)) (hp : pc + 3 = pc') (w : (Cond.fieldLink own idx R0 f d).before a0 Z = true) (via : Via Z R0 Ow f d) (F : Fld Z h a Ow f d v)
    (g : oGo l Z a0 EL wd p e s m args below meth c R own bytes mx rt nm Q O D h k n pc' Ls (v :: st)) : oGo l Z a0 EL wd p e s m args below meth c R own bytes mx rt nm Q O D h k n pc Ls (.ref a :: st) := by
  subst hp; exact oGo.move (fun T locs vm0 X hT hZ hown hb hx hn hm => getF (s := s.setVm vm0) X hx hZ hown (host := "") (Or.inl w) via hT F (g := mkF m pc Ls (.ref a :: st)) rfl rfl (by rw [hb]; exact hd)) g
theorem oGo.getstatic {idx : Nat} {R0 Ow f d : String} {v : Value} (hd : decode bytes pc = .ok (.getstatic idx, 3)) (hp : pc + 3 = pc') (w : (Cond.fieldLink own idx R0 f d).before a0 Z = true) (via : Via Z R0 Ow f d) (F : Sta Z Z.heap Ow f d v)
    (g : oGo l Z a0 EL wd p e s m args below meth c R own bytes mx rt nm Q O D h k n pc' Ls (v :: st)) : oGo l Z a0 EL wd p e s m args below meth c R own bytes mx rt nm Q O D h k n pc Ls st := by
  subst hp
  intro T locs vm0 k0 I
  have hO : Ext Z.heap h := I.2.2.1
  exact oGo.move (fun T locs vm0 X hT hZ hown hb hx hn hm => getS (s := s.setVm vm0) (host := "") X hx hZ hown w via hT (F.ext hO) (g := mkF m pc Ls st) rfl (by rw [hb]; exact hd)) g T locs vm0 k0 I
theorem oGo.putfield {idx kk : Nat} {a : Addr} {R0 Ow f d Cn : String} {v old : Value} {ty : FieldType} (hd : decode bytes pc = .ok (.putfield idx, 3)) (hp : pc + 3 = pc') (w : (Cond.fieldLink own idx R0 f d).before a0 Z = true) (via : Via Z R0 Ow f d) (F : Fld Z h a Ow f d old) (E : Exa Z h a Cn)
    (L : (Cond.lays Cn Ow f d).before a0 Z = true ∨ ((Cond.laysFinal Cn Ow f d).before a0 Z = true ∧ own = Ow ∧ nm = "<init>")) (wi : (Cond.instantiable Cn kk).before a0 Z = true) (hty : parseFieldDescriptor d = some ty) (hnv : narrow ty v = v) (hf : fits ty v = true) (ha : a ∈ D)
    (g : ∀ h', Wr h h' a (Jvm.RoadKit.slotOf Z Ow f d) v → h'.size = h.size → oGo l Z a0 EL wd p e s m args below meth c R own bytes mx rt nm Q O D h' k n pc' Ls st) : oGo l Z a0 EL wd p e s m args below meth c R own bytes mx rt nm Q O D h k n pc Ls (v :: .ref a :: st) := by
  subst hp; exact oGo.write (fun T locs vm0 X hT hZ hown hb hx hn hm => putF (s := s.setVm vm0) X hx hZ hown (host := "") (Or.inl w) via hT F E (L.imp id fun q => ⟨q.1, q.2.1, hn.trans q.2.2⟩) wi hty hnv hf (g := mkF m pc Ls (v :: .ref a :: st)) rfl rfl (by rw [hb]; exact hd)) ha g
theorem oGo.new {idx sz : Nat} {Cn : String} {k' n' : Nat} (hd : decode bytes pc = .ok (.new idx, 3)) (hp : pc + 3 = pc') (w : (Cond.classLink own idx Cn).before a0 Z = true) (wi : (Cond.instantiable Cn sz).before a0 Z = true) (wz : (Cond.initialized Cn).before a0 Z = true) (hk : k + 1 = k') (hn : n + sz = n') (hc : k' ≤ R.cells) (hl : n' ≤ R.slots)
    (g : ∀ (h' : Heap) (a : Nat), a = h.size → a < h'.size → Ext h h' → Exa Z h' a Cn → (∀ {Ow f d : String} {ty : FieldType}, Laid Z a0 Cn Ow f d → parseFieldDescriptor d = some ty → Fld Z h' a Ow f d (defaultValue ty)) → oGo l Z a0 EL wd p e s m args below meth c R own bytes mx rt nm Q O (a :: D) h' k' n' pc' Ls (.ref a :: st)) : oGo l Z a0 EL wd p e s m args below meth c R own bytes mx rt nm Q O D h k n pc Ls st := by
  subst hp hk hn
  refine oGo.grow (P := fun h' => Exa Z h' h.size Cn ∧ ∀ {Ow f d : String} {ty : FieldType}, Laid Z a0 Cn Ow f d → parseFieldDescriptor d = some ty → Fld Z h' h.size Ow f d (defaultValue ty)) (D' := h.size :: D) (fun T locs vm0 X hT hZ hown hb hx hn hm => ?_) (fun h' q x hx => ?_) (fun h' E q => g h' _ rfl q.1.lt E q.1 q.2)
  · obtain ⟨T', h', X', e', E, A, F, -, hst⟩ := newO (s := s.setVm vm0) X hx hZ hown w wi wz hT (g := mkF m pc Ls st) rfl (by rw [hb]; exact hd) hc hl
    exact ⟨T', h', X', e', E, ⟨A, F⟩, hst⟩
  · rcases List.mem_cons.mp hx with rfl | hx
    · exact Or.inr ⟨Nat.le_refl _, q.1.lt⟩
    · exact Or.inl hx
theorem oGo.objinit {idx : Nat} {a : Addr} (hd : decode bytes pc = .ok (.invokespecial idx, 3)) (hp : pc + 3 = pc') (w1 : (Cond.methodLink own idx Lib.objectInit).before a0 Z = true) (w2 : (Cond.instanceMethod Lib.objectInit).before a0 Z = true) (w3 : (Cond.code Lib.objectInit ⟨#[0xb1]⟩ 1 none).before a0 Z = true)
    (hsz : Ls.size = mx) (hf : 1 ≤ R.frames) (hl : (st.map fun v => v.category).sum + 12 ≤ R.locals) (g : oGo l Z a0 EL wd p e s m args below meth c R own bytes mx rt nm Q O D h k n pc' Ls st) : oGo l Z a0 EL wd p e s m args below meth c R own bytes mx rt nm Q O D h k n pc Ls (.ref a :: st) := by
  subst hp; exact oGo.move (fun T locs vm0 X hT hZ hown hb hx hn hm => initO (s := s.setVm vm0) X hx hZ hown w1 w2 w3 hT (g := mkF m pc Ls (.ref a :: st)) rfl (hsz.trans hm.symm) rfl (by rw [hb]; exact hd) hf (W := (st.map fun v => v.category).sum) (by show 2 * 0 + _ ≤ _; omega) hl) g
/-! ### arrays -/
def oArr (Z : State) (h : Heap) (a : Addr) (ty : FieldType) (vs : List Value) : Prop := ∃ cl : Cell, Arr Z h a cl ty ∧ cl.slots.toList = vs ∧ vs.length < 2147483648 ∧ ∀ v ∈ vs, fits ty v = true
theorem oArr.lt {a : Addr} {ty : FieldType} {vs : List Value} (A : oArr Z h a ty vs) : a < h.size := A.elim fun _ q => q.1.lt
theorem oArr.ext {a : Addr} {ty : FieldType} {vs : List Value} {h' : Heap} (E : Ext h h') (A : oArr Z h a ty vs) : oArr Z h' a ty vs := A.elim fun cl q => ⟨cl, q.1.ext E, q.2⟩
theorem oArr.other {a b : Addr} {ty : FieldType} {vs : List Value} {h' : Heap} {sl : Nat} {w : Value} (W : Wr h h' b sl w) (A : oArr Z h a ty vs) (q : a ≠ b) : oArr Z h' a ty vs := A.elim fun cl r => ⟨cl, r.1.other W q, r.2⟩
theorem oArr.keep {a : Addr} {ty : FieldType} {vs : List Value} {h' : Heap} {ws : List Addr} (A : oArr Z h a ty vs) (K : Keep h h' ws) (q : a ∉ ws) : oArr Z h' a ty vs := A.elim fun cl r => ⟨cl, ⟨K.2.1 a cl r.1.1 q, r.1.2⟩, r.2⟩
theorem oArr.set {a : Addr} {ty : FieldType} {vs : List Value} {h' : Heap} {i : Nat} {w : Value} (W : Wr h h' a i w) (A : oArr Z h a ty vs) (hf : fits ty w = true) : oArr Z h' a ty (vs.set i w) := by
  obtain ⟨cl, h1, rfl, h3, h4⟩ := A
  refine ⟨cl.setSlot i w, h1.same W, by simp [Cell.setSlot], by simpa using h3, fun v hv => ?_⟩
  rcases List.mem_or_eq_of_mem_set hv with q | q
  · exact h4 v q
  · exact q ▸ hf
theorem own_n32 {i : Nat} (h : i < 2147483648) : (Int32.ofNat i).toNatClampNeg = i := by
  have q : i.toInt32.toInt = i := len_toInt (by omega)
  show i.toInt32.toNatClampNeg = i
  simp only [Int32.toNatClampNeg, q]; omega
theorem own_i32 {i : Nat} (h : i < 2147483648) : (Int32.ofNat i).toInt = i := len_toInt (by omega)
theorem own_nn {i : Nat} (h : i < 2147483648) : ¬ Int32.ofNat i < 0 := by
  rw [Int32.lt_iff_toInt_lt, own_i32 h]; simp
theorem own_inb {c : Cell} {vs : List Value} {i : Nat} (e : c.slots.toList = vs) (hb : vs.length < 2147483648) (hi : i < vs.length) : ¬ (Int32.ofNat i < 0 ∨ c.slots.size ≤ (Int32.ofNat i).toNatClampNeg) := by
  rw [own_n32 (by omega)]
  have : c.slots.size = vs.length := by rw [← e]; simp
  rintro (q | q)
  · exact own_nn (by omega) q
  · omega
theorem oArr.arv {a : Addr} {ty : FieldType} {vs : List Value} (A : oArr Z h a ty vs) (d : Value) : ∃ kk, Arv Z h a kk ty (Int32.ofNat vs.length) vs d := by
  obtain ⟨cl, h1, rfl, h3, h4⟩ := A
  refine ⟨cl.cls, cl, h1, rfl, by rw [own_n32 h3]; simp, own_nn h3, fun i hi => by simp [List.getD_eq_getElem?_getD, hi], fun i hi => h4 _ ?_⟩
  simp [List.getD_eq_getElem?_getD, hi]
theorem oArr.of_arv {a : Addr} {ty : FieldType} {vs : List Value} {kk : ClassId} {z : Int32} {d : Value} (A : Arv Z h a kk ty z vs d) (hl : z.toNatClampNeg = vs.length) : oArr Z h a ty vs := by
  obtain ⟨cl, h1, h2, h3, h4, h5, h6⟩ := A
  have hz := Int32.toInt_lt z
  have e : cl.slots.toList = vs := by
    apply List.ext_getElem?
    intro i
    by_cases q : i < cl.slots.size
    · have := h5 i q
      rw [← Array.getElem?_toList] at this
      rw [this]
      have q' : i < vs.length := by omega
      simp [List.getD_eq_getElem?_getD, q']
    · rw [List.getElem?_eq_none (by simpa using q), List.getElem?_eq_none (by omega)]
  refine ⟨cl, h1, e, by rw [← hl]; simp only [Int32.toNatClampNeg]; omega, fun v hv => ?_⟩
  obtain ⟨i, hi, rfl⟩ := List.getElem_of_mem hv
  have := h6 i (by omega)
  rwa [List.getD_eq_getElem?_getD, List.getElem?_eq_getElem hi] at this
theorem oGo.arraylength {a : Addr} {ty : FieldType} {vs : List Value} {z : Int32} (hd : decode bytes pc = .ok (.arraylength, 1)) (hp : pc + 1 = pc') (A : oArr Z h a ty vs) (hv : Int32.ofNat vs.length = z) (g : oGo l Z a0 EL wd p e s m args below meth c R own bytes mx rt nm Q O D h k n pc' Ls (.int z :: st)) : oGo l Z a0 EL wd p e s m args below meth c R own bytes mx rt nm Q O D h k n pc Ls (.ref a :: st) := by
  subst hp hv
  obtain ⟨cl, h1, rfl, h3, h4⟩ := A
  exact oGo.read (fun T locs vm0 X hT hZ hown hb hx hn hm t hr => X.arraylength hx (by rw [hT]; exact h1.1) (State.isArrayOf_alike (T := s.setVm vm0) hZ.alike h1.2.1) (g := mkF m pc Ls (.ref a :: st)) rfl rfl (by rw [hb]; exact hd) t (by simpa using hr)) g
theorem oGo.caload {a : Addr} {vs : List Value} {j : Int32} {i : Nat} {v : Value} (hd : decode bytes pc = .ok (.caload, 1)) (hp : pc + 1 = pc') (A : oArr Z h a .char vs) (hj : j = Int32.ofNat i) (hi : vs[i]? = some v) (g : oGo l Z a0 EL wd p e s m args below meth c R own bytes mx rt nm Q O D h k n pc' Ls (v :: st)) : oGo l Z a0 EL wd p e s m args below meth c R own bytes mx rt nm Q O D h k n pc Ls (.int j :: .ref a :: st) := by
  subst hp hj
  obtain ⟨cl, h1, rfl, h3, h4⟩ := A
  have hl : i < cl.slots.toList.length := (List.getElem?_eq_some_iff.mp hi).1
  exact oGo.read (fun T locs vm0 X hT hZ hown hb hx hn hm t hr => X.caload hx (by rw [hT]; exact h1.1) (State.isArrayOf_alike (T := s.setVm vm0) hZ.alike h1.2.1) h1.2.2 (own_inb rfl h3 hl) (by rw [own_n32 (by omega), ← Array.getElem?_toList]; exact hi) (g := mkF m pc Ls (.int (Int32.ofNat i) :: .ref a :: st)) rfl rfl (by rw [hb]; exact hd) t hr) g
theorem oGo.baload {a : Addr} {vs : List Value} {j : Int32} {i : Nat} {v : Value} (hd : decode bytes pc = .ok (.baload, 1)) (hp : pc + 1 = pc') (A : oArr Z h a .byte vs) (hj : j = Int32.ofNat i) (hi : vs[i]? = some v) (g : oGo l Z a0 EL wd p e s m args below meth c R own bytes mx rt nm Q O D h k n pc' Ls (v :: st)) : oGo l Z a0 EL wd p e s m args below meth c R own bytes mx rt nm Q O D h k n pc Ls (.int j :: .ref a :: st) := by
  subst hp hj
  obtain ⟨cl, h1, rfl, h3, h4⟩ := A
  have hl : i < cl.slots.toList.length := (List.getElem?_eq_some_iff.mp hi).1
  exact oGo.read (fun T locs vm0 X hT hZ hown hb hx hn hm t hr => X.baloadBytes hx (by rw [hT]; exact h1.1) (State.isArrayOf_alike (T := s.setVm vm0) hZ.alike h1.2.1) h1.2.2 (own_inb rfl h3 hl) (by rw [own_n32 (by omega), ← Array.getElem?_toList]; exact hi) (g := mkF m pc Ls (.int (Int32.ofNat i) :: .ref a :: st)) rfl rfl (by rw [hb]; exact hd) t hr) g
theorem oGo.laload {a : Addr} {vs : List Value} {j : Int32} {i : Nat} {v : Value} (hd : decode bytes pc = .ok (.laload, 1)) (hp : pc + 1 = pc') (A : oArr Z h a .long vs) (hj : j = Int32.ofNat i) (hi : vs[i]? = some v) (g : oGo l Z a0 EL wd p e s m args below meth c R own bytes mx rt nm Q O D h k n pc' Ls (v :: st)) : oGo l Z a0 EL wd p e s m args below meth c R own bytes mx rt nm Q O D h k n pc Ls (.int j :: .ref a :: st) := by
  subst hp hj
  obtain ⟨cl, h1, rfl, h3, h4⟩ := A
  have hl : i < cl.slots.toList.length := (List.getElem?_eq_some_iff.mp hi).1
  exact oGo.read (fun T locs vm0 X hT hZ hown hb hx hn hm t hr => X.laload hx (by rw [hT]; exact h1.1) (State.isArrayOf_alike (T := s.setVm vm0) hZ.alike h1.2.1) h1.2.2 (own_inb rfl h3 hl) (by rw [own_n32 (by omega), ← Array.getElem?_toList]; exact hi) (g := mkF m pc Ls (.int (Int32.ofNat i) :: .ref a :: st)) rfl rfl (by rw [hb]; exact hd) t hr) g
theorem oGo.iaload {a : Addr} {vs : List Value} {j : Int32} {i : Nat} {v : Value} (hd : decode bytes pc = .ok (.iaload, 1)) (hp : pc + 1 = pc') (A : oArr Z h a .int vs) (hj : j = Int32.ofNat i) (hi : vs[i]? = some v) (g : oGo l Z a0 EL wd p e s m args below meth c R own bytes mx rt nm Q O D h k n pc' Ls (v :: st)) : oGo l Z a0 EL wd p e s m args below meth c R own bytes mx rt nm Q O D h k n pc Ls (.int j :: .ref a :: st) := by
  subst hp hj
  obtain ⟨cl, h1, rfl, h3, h4⟩ := A
  have hl : i < cl.slots.toList.length := (List.getElem?_eq_some_iff.mp hi).1
  exact oGo.read (fun T locs vm0 X hT hZ hown hb hx hn hm t hr => X.iaload hx (by rw [hT]; exact h1.1) (State.isArrayOf_alike (T := s.setVm vm0) hZ.alike h1.2.1) h1.2.2 (own_inb rfl h3 hl) (by rw [own_n32 (by omega), ← Array.getElem?_toList]; exact hi) (g := mkF m pc Ls (.int (Int32.ofNat i) :: .ref a :: st)) rfl rfl (by rw [hb]; exact hd) t hr) g
theorem oGo.aaload {a : Addr} {ty : FieldType} {vs : List Value} {j : Int32} {i : Nat} {v : Value} (hd : decode bytes pc = .ok (.aaload, 1)) (hp : pc + 1 = pc') (A : oArr Z h a ty vs) (ht : ty.isReference = true) (hj : j = Int32.ofNat i) (hi : vs[i]? = some v) (g : oGo l Z a0 EL wd p e s m args below meth c R own bytes mx rt nm Q O D h k n pc' Ls (v :: st)) : oGo l Z a0 EL wd p e s m args below meth c R own bytes mx rt nm Q O D h k n pc Ls (.int j :: .ref a :: st) := by
  subst hp hj
  obtain ⟨cl, h1, rfl, h3, h4⟩ := A
  have hl : i < cl.slots.toList.length := (List.getElem?_eq_some_iff.mp hi).1
  exact oGo.read (fun T locs vm0 X hT hZ hown hb hx hn hm t hr => X.aaload hx (by rw [hT]; exact h1.1) (State.isArrayOf_alike (T := s.setVm vm0) hZ.alike h1.2.1) ht h1.2.2 (own_inb rfl h3 hl) (by rw [own_n32 (by omega), ← Array.getElem?_toList]; exact hi) (g := mkF m pc Ls (.int (Int32.ofNat i) :: .ref a :: st)) rfl rfl (by rw [hb]; exact hd) t hr) g
theorem oGo.castore {a : Addr} {vs : List Value} {j : Int32} {i : Nat} {x w : Int32} (hd : decode bytes pc = .ok (.castore, 1)) (hp : pc + 1 = pc') (A : oArr Z h a .char vs) (hj : j = Int32.ofNat i) (hi : i < vs.length) (hw : nar .char x = w) (ha : a ∈ D) (g : ∀ h', Wr h h' a i (.int w) → h'.size = h.size → oArr Z h' a .char (vs.set i (.int w)) → oGo l Z a0 EL wd p e s m args below meth c R own bytes mx rt nm Q O D h' k n pc' Ls st) : oGo l Z a0 EL wd p e s m args below meth c R own bytes mx rt nm Q O D h k n pc Ls (.int x :: .int j :: .ref a :: st) := by
  subst hp hj hw
  have A0 := A
  obtain ⟨cl, h1, rfl, h3, h4⟩ := A
  refine oGo.write (fun T locs vm0 X hT hZ hown hb hx hn hm => ?_) ha (fun h' W hs => g h' W hs (A0.set W (fits_nar_char x)))
  have q := stC (s := s.setVm vm0) X hx hZ hT h1 (own_inb rfl h3 hi) (g := mkF m pc Ls (.int x :: .int (Int32.ofNat i) :: .ref a :: st)) rfl rfl (by rw [hb]; exact hd)
  rw [own_n32 (by omega)] at q
  exact q
theorem oGo.bastore {a : Addr} {vs : List Value} {j : Int32} {i : Nat} {x w : Int32} (hd : decode bytes pc = .ok (.bastore, 1)) (hp : pc + 1 = pc') (A : oArr Z h a .byte vs) (hj : j = Int32.ofNat i) (hi : i < vs.length) (hw : nar .byte x = w) (ha : a ∈ D) (g : ∀ h', Wr h h' a i (.int w) → h'.size = h.size → oArr Z h' a .byte (vs.set i (.int w)) → oGo l Z a0 EL wd p e s m args below meth c R own bytes mx rt nm Q O D h' k n pc' Ls st) : oGo l Z a0 EL wd p e s m args below meth c R own bytes mx rt nm Q O D h k n pc Ls (.int x :: .int j :: .ref a :: st) := by
  subst hp hj hw
  have A0 := A
  obtain ⟨cl, h1, rfl, h3, h4⟩ := A
  refine oGo.write (fun T locs vm0 X hT hZ hown hb hx hn hm => ?_) ha (fun h' W hs => g h' W hs (A0.set W (fits_nar_byte x)))
  have q := stB (s := s.setVm vm0) X hx hZ hT h1 (own_inb rfl h3 hi) (g := mkF m pc Ls (.int x :: .int (Int32.ofNat i) :: .ref a :: st)) rfl rfl (by rw [hb]; exact hd)
  rw [own_n32 (by omega)] at q
  exact q
theorem oGo.iastore {a : Addr} {vs : List Value} {j : Int32} {i : Nat} {x w : Int32} (hd : decode bytes pc = .ok (.iastore, 1)) (hp : pc + 1 = pc') (A : oArr Z h a .int vs) (hj : j = Int32.ofNat i) (hi : i < vs.length) (hw : x = w) (ha : a ∈ D) (g : ∀ h', Wr h h' a i (.int w) → h'.size = h.size → oArr Z h' a .int (vs.set i (.int w)) → oGo l Z a0 EL wd p e s m args below meth c R own bytes mx rt nm Q O D h' k n pc' Ls st) : oGo l Z a0 EL wd p e s m args below meth c R own bytes mx rt nm Q O D h k n pc Ls (.int x :: .int j :: .ref a :: st) := by
  subst hp hj hw
  have A0 := A
  obtain ⟨cl, h1, rfl, h3, h4⟩ := A
  refine oGo.write (fun T locs vm0 X hT hZ hown hb hx hn hm => ?_) ha (fun h' W hs => g h' W hs (A0.set W (rfl)))
  have q := stI (s := s.setVm vm0) X hx hZ hT h1 (own_inb rfl h3 hi) (g := mkF m pc Ls (.int x :: .int (Int32.ofNat i) :: .ref a :: st)) rfl rfl (by rw [hb]; exact hd)
  rw [own_n32 (by omega)] at q
  exact q
theorem oGo.lastore {a : Addr} {vs : List Value} {j : Int32} {i : Nat} {x w : Int64} (hd : decode bytes pc = .ok (.lastore, 1)) (hp : pc + 1 = pc') (A : oArr Z h a .long vs) (hj : j = Int32.ofNat i) (hi : i < vs.length) (hw : x = w) (ha : a ∈ D) (g : ∀ h', Wr h h' a i (.long w) → h'.size = h.size → oArr Z h' a .long (vs.set i (.long w)) → oGo l Z a0 EL wd p e s m args below meth c R own bytes mx rt nm Q O D h' k n pc' Ls st) : oGo l Z a0 EL wd p e s m args below meth c R own bytes mx rt nm Q O D h k n pc Ls (.long x :: .int j :: .ref a :: st) := by
  subst hp hj hw
  have A0 := A
  obtain ⟨cl, h1, rfl, h3, h4⟩ := A
  refine oGo.write (fun T locs vm0 X hT hZ hown hb hx hn hm => ?_) ha (fun h' W hs => g h' W hs (A0.set W (rfl)))
  have q := stJ (s := s.setVm vm0) X hx hZ hT h1 (own_inb rfl h3 hi) (g := mkF m pc Ls (.long x :: .int (Int32.ofNat i) :: .ref a :: st)) rfl rfl (by rw [hb]; exact hd)
  rw [own_n32 (by omega)] at q
  exact q
theorem oGo.newarray {aty : ArrayType} {z : Int32} {i : Nat} {k' n' : Nat} (hd : decode bytes pc = .ok (.newarray aty, 2)) (hp : pc + 2 = pc') (w : (Cond.arrayClass (newarray.typeOf aty)).before a0 Z = true) (hz : z = Int32.ofNat i) (cap : Nat) (hi : i ≤ cap) (hcap : cap * 8 ≤ 536870912) (hk : k + 1 = k') (hn : n + cap = n') (hc : k' ≤ R.cells) (hl : n' ≤ R.slots) (hfd : fits (newarray.typeOf aty) (defaultValue (newarray.typeOf aty)) = true)
    (g : ∀ (h' : Heap) (a : Nat), a = h.size → a < h'.size → Ext h h' → oArr Z h' a (newarray.typeOf aty) (List.replicate i (defaultValue (newarray.typeOf aty))) → oGo l Z a0 EL wd p e s m args below meth c R own bytes mx rt nm Q O (a :: D) h' k' n' pc' Ls (.ref a :: st)) : oGo l Z a0 EL wd p e s m args below meth c R own bytes mx rt nm Q O D h k n pc Ls (.int z :: st) := by
  subst hp hk hn hz
  have hb31 : i < 2147483648 := by omega
  refine oGo.grow (P := fun h' => oArr Z h' h.size (newarray.typeOf aty) (List.replicate i (defaultValue (newarray.typeOf aty)))) (D' := h.size :: D) (fun T locs vm0 X hT hZ hown hb hx hn hm => ?_) (fun h' q x hx => ?_) (fun h' E q => g h' _ rfl q.lt E q)
  · obtain ⟨T', h', cA, X', e', E, A, hst⟩ := newP (s := s.setVm vm0) X hx hZ w hT (g := mkF m pc Ls (.int (Int32.ofNat i) :: st)) rfl (by rw [hb]; exact hd) rfl (own_nn hb31) (cap := cap) (by rw [own_n32 hb31]; exact hi) hcap hc hl
    refine ⟨T', h', X', e', E, ⟨_, A, ?_, by simpa using hb31, fun v hv => ?_⟩, hst⟩
    · simp [newA, own_n32 hb31]
    · rw [(List.mem_replicate.mp hv).2]; exact hfd
  · rcases List.mem_cons.mp hx with rfl | hx
    · exact Or.inr ⟨Nat.le_refl _, q.lt⟩
    · exact Or.inl hx
/-! ### calls -/
theorem oCtr.back {y : MethodName} {b' : ByteArray} {mx' : Nat} {rt' : Option FieldType} {rm : Room} {len W : Nat} {as' : Array Value} {Q' : Option Value → Heap → Prop} {O' : Option Value → Heap → Addr → Prop} {D' : List Addr} {vm0 : Vm}
    (hM : oCtr [] l Z a0 EL wd y b' mx' rt' rm as' D' h Q' O') (hZ : Z.Warmed39 vm0) (wc : (Cond.code y b' mx' rt').before a0 Z = true) (wz : (Cond.initialized y.cls).before a0 Z = true) (hf : rm.frames + 1 ≤ R.frames) (hl : W + (mx' + 11) + rm.locals ≤ R.locals) (hEL : EW Z a0 EL) (hO : Ext Z.heap h) (H : CHv Z EL vm0 h) (hD : oDok Z EL vm0 h D') :
    BackS l R p e below (s.setVm vm0) args y len W (fun A a => a = as' ∧ A.U.heap = h ∧ A.cells + rm.cells ≤ R.cells ∧ A.slots + rm.slots ≤ R.slots)
      (fun A _ v B => ∃ L, (Q' v B.U.heap ∧ ∀ x, O' v B.U.heap x → Z.heap.size ≤ x ∧ x < B.U.heap.size ∧ Safe Z EL B.U.vm B.U.heap x) ∧ Fr Z.heap.size L ∧ Ext Z.heap B.U.heap ∧ B.locs = A.locs ++ L ∧ B.cells = A.cells + rm.cells ∧ B.slots = A.slots + rm.slots ∧ CHr Z EL vm0 h B.U.vm B.U.heap ∧ (wd ∨ A.U.WarmedH B.U.vm)) :=
  BackS.of_freeW (bytes := b') (maxL := mx') (ret := rt') (E := fun _ first o t L k n => k = rm.cells ∧ n = rm.slots ∧ (∃ v, o = .returned v ∧ Q' v t.heap ∧ ∀ x, O' v t.heap x → Z.heap.size ≤ x ∧ x < t.heap.size ∧ Safe Z EL t.vm t.heap x) ∧ Fr Z.heap.size L ∧ Ext Z.heap t.heap ∧ CHr Z EL first.vm first.heap t.vm t.heap ∧ (wd ∨ first.WarmedH t.vm)) hM hf hl
    (fun m meth c A a Y hp => have hU : Z.Warmed39 A.U.vm := wtrans (s := s.setVm vm0) hZ Y.warmed
      ⟨by show (Cond.and _ .tt).before a A.U = true; rw [Cond.before_and, mv hU wc]; rfl, mv hU wc, mv hU wz, hp.2.2.1, hp.2.2.2⟩)
    (fun m meth c A a g mk Y hp => ⟨hp.1, wtrans (s := s.setVm vm0) hZ Y.warmed, hp.2.1, hO, (CHv.at (T := A.U) Y hZ hEL H).1, hD.chr (CHv.at (T := A.U) Y hZ hEL H)⟩) (fun _ _ _ _ _ _ _ _ _ => trivial)
    (fun _ _ _ _ ⟨v, L, h1, h2, h3, h4, h5, h6, h7⟩ => ⟨L, _, _, h7, rfl, rfl, ⟨v, h1, h2⟩, h3, h4, h5, h6⟩)
    (fun m meth c A a g mk v t L k n Y hp _ _ ⟨e1, e2, ⟨v', e3, e4⟩, e5, e6, e7, e8⟩ => by
      cases e3; subst e1 e2
      refine ⟨L, e4, e5, e6, rfl, rfl, rfl, (CHv.at Y hZ hEL H).trans ?_, e8⟩
      rw [← hp.2.1]; exact e7)
theorem oGo.after {T : State} {locs : List Loc} {vm0 : Vm} {k0 : Nat} {rm : Room} {k' n' : Nat} {Q' : Option Value → Heap → Prop} {O' : Option Value → Heap → Addr → Prop} {rest : List Value} {as' : Array Value}
    (I : oInv l Z a0 EL wd p e s m args below meth c R own bytes mx rt nm D h k n T locs vm0 k0) (hk : k + rm.cells = k') (hn : n + rm.slots = n')
    (X : ∃ (v : Option Value) (vm₁ : Vm) (B : Pt), (s.setVm vm0).WarmedH vm₁ ∧ Stand p l e R ((s.setVm vm0).setVm B.U.vm) m args below meth c B.U B.locs B.cells B.slots ∧ (s.setVm vm0).Since B.U.vm B.U.heap.size ∧ T.heap.size ≤ B.U.heap.size ∧
      (fun (A : Pt) (_ : Array Value) (v : Option Value) (B : Pt) => ∃ L, (Q' v B.U.heap ∧ ∀ x, O' v B.U.heap x → Z.heap.size ≤ x ∧ x < B.U.heap.size ∧ Safe Z EL B.U.vm B.U.heap x) ∧ Fr Z.heap.size L ∧ Ext Z.heap B.U.heap ∧ B.locs = A.locs ++ L ∧ B.cells = A.cells + rm.cells ∧ B.slots = A.slots + rm.slots ∧ CHr Z EL vm0 h B.U.vm B.U.heap ∧ (wd ∨ A.U.WarmedH B.U.vm)) ⟨T.setVm vm₁, locs, k, n⟩ as' v B ∧
      Steps p.tables e below (T.setTop (mkF m pc Ls st)) (B.U.setTop (mkF m pc' Ls (v.toList ++ rest))))
    (g : ∀ v h', h.size ≤ h'.size → Q' v h' → ∃ D2 : List Addr, (∀ x ∈ D2, x ∈ D ∨ O' v h' x) ∧ oGo l Z a0 EL wd p e s m args below meth c R own bytes mx rt nm Q O D2 h' k' n' pc' Ls (v.toList ++ rest)) : oRes Z EL wd p e s below R Q O (T.setTop (mkF m pc Ls st)) := by
  subst hk hn
  obtain ⟨⟨hx, hb, hm, hr, hl, hn, hE⟩, hT, hO, hF, X0, hS, hk, hZ, hown, hC, hwd, hDk⟩ := I
  obtain ⟨v, vm₁, ⟨U, Lb, kb, nb⟩, hW1, XB, hSB, hsz, ⟨L, ⟨hq, hOq⟩, hFL, hOB, e1, e2, e3, hCB, hwB⟩, hst⟩ := X
  dsimp only [Pt.U, Pt.locs, Pt.cells, Pt.slots] at *
  subst e1 e2 e3
  rw [hT] at hsz
  obtain ⟨X', hS', hZ', hown'⟩ := rebS hS hk XB hSB hsz hZ hown
  have hwd' : wd ∨ s.WarmedH U.vm := by
    rcases hwd with q | q
    · exact Or.inl q
    · rcases hwB with r | r
      · exact Or.inl r
      · exact Or.inr (State.WarmedH.trans (t := s.setVm vm0) q (State.WarmedH.trans (s := s.setVm vm0) (t := T.setVm vm₁) hW1 r))
  obtain ⟨D2, hD2, g2⟩ := g v U.heap hsz hq
  have hDk2 : oDok Z EL U.vm U.heap D2 := fun x hx' => (hD2 x hx').elim (fun q => hDk.chr hCB x q) (fun q => hOq x q)
  obtain ⟨V, v', L', hs, r⟩ := g2 U (locs ++ L) U.vm U.heap.size ⟨⟨hx, hb, hm, hr, hl, hn, hE⟩, rfl, hOB, hF.app hFL, X', hS', Nat.le_refl _, hZ', hown', hC.trans hCB, hwd', hDk2⟩
  exact ⟨V, v', L', hst.trans hs, r⟩
theorem oGo.invokestatic {idx : Nat} {y : MethodName} {b' : ByteArray} {mx' : Nat} {rt' rs : Option FieldType} {ps : List FieldType} {rm : Room} {D' : List Addr} {Q' : Option Value → Heap → Prop} {O' : Option Value → Heap → Addr → Prop} {k' n' : Nat} {argsL rest : List Value}
    (hd : decode bytes pc = .ok (.invokestatic idx, 3)) (hp : pc + 3 = pc') (w1 : (Cond.methodLink own idx y).before a0 Z = true) (w2 : (Cond.static y).before a0 Z = true) (w3 : (Cond.initialized y.cls).before a0 Z = true) (w4 : (Cond.code y b' mx' rt').before a0 Z = true)
    (hy : y.cls ≠ "java/lang/invoke/MethodHandle" ∧ y.cls ≠ "java/lang/invoke/VarHandle") (pd : parseMethodDescriptor y.desc = some ⟨ps, rs⟩) (hll : argsL.length = ps.length) (hst : st = argsL.reverse ++ rest) (hsz : Ls.size = mx)
    (hM : oCtr [] l Z a0 EL wd y b' mx' rt' rm argsL.toArray D' h Q' O') (hD : ∀ x ∈ D', x ∈ D) (hf : rm.frames + 1 ≤ R.frames) (hl : (rest.map fun v => v.category).sum + (mx' + 11) + rm.locals ≤ R.locals) (hk : k + rm.cells = k') (hn : n + rm.slots = n') (hc : k' ≤ R.cells) (hs : n' ≤ R.slots)
    (g : ∀ v h', h.size ≤ h'.size → Q' v h' → ∃ D2 : List Addr, (∀ x ∈ D2, x ∈ D ∨ O' v h' x) ∧ oGo l Z a0 EL wd p e s m args below meth c R own bytes mx rt nm Q O D2 h' k' n' pc' Ls (v.toList ++ rest)) : oGo l Z a0 EL wd p e s m args below meth c R own bytes mx rt nm Q O D h k n pc Ls st := by
  subst hp hst
  intro T locs vm0 k0 I
  have I0 := I
  obtain ⟨⟨hx, hb, hm, hr, hlk, hnm, hE⟩, hT, hO, hF, X, hS, hk0, hZ, hown, hC, hwd, hDk⟩ := I
  refine oGo.after I0 hk hn (as' := argsL.toArray) (rest := rest) (callSS (s := s.setVm vm0) X hx hown (mvT (s := s.setVm vm0) hZ w1) (mvT (s := s.setVm vm0) hZ w2) (mvT (s := s.setVm vm0) hZ w3) (mvT (s := s.setVm vm0) hZ w4) hy
    (oCtr.back (W := (rest.map fun v => v.category).sum) hM hZ w4 w3 hf hl hE hO hC.1 (hDk.sub hD)) (g := mkF m pc Ls (argsL.reverse ++ rest)) rfl (hsz.trans hm.symm) (lenOf pd hll) rfl (by show 2 * 0 + _ ≤ _; omega) (by rw [hb]; exact hd) (fun _ _ => ⟨rfl, hT, by show k + _ ≤ _; omega, by show n + _ ≤ _; omega⟩)) g
theorem oGo.invokespecial {idx : Nat} {y : MethodName} {b' : ByteArray} {mx' : Nat} {rs : Option FieldType} {ps : List FieldType} {rm : Room} {D' : List Addr} {Q' : Option Value → Heap → Prop} {O' : Option Value → Heap → Addr → Prop} {k' n' : Nat} {a : Addr} {argsL rest : List Value}
    (hd : decode bytes pc = .ok (.invokespecial idx, 3)) (hp : pc + 3 = pc') (hi : y.name = "<init>") (w1 : (Cond.methodLink own idx y).before a0 Z = true) (w2 : (Cond.instanceMethod y).before a0 Z = true) (w3 : (Cond.initialized y.cls).before a0 Z = true) (w4 : (Cond.code y b' mx' none).before a0 Z = true)
    (hy : y.cls ≠ "java/lang/invoke/MethodHandle" ∧ y.cls ≠ "java/lang/invoke/VarHandle") (pd : parseMethodDescriptor y.desc = some ⟨ps, rs⟩) (hll : argsL.length = ps.length) (hst : st = argsL.reverse ++ .ref a :: rest) (hsz : Ls.size = mx)
    (hM : oCtr [] l Z a0 EL wd y b' mx' none rm (.ref a :: argsL).toArray D' h Q' O') (hD : ∀ x ∈ D', x ∈ D) (hf : rm.frames + 1 ≤ R.frames) (hl : (rest.map fun v => v.category).sum + (mx' + 11) + rm.locals ≤ R.locals) (hk : k + rm.cells = k') (hn : n + rm.slots = n') (hc : k' ≤ R.cells) (hs : n' ≤ R.slots)
    (g : ∀ v h', h.size ≤ h'.size → Q' v h' → ∃ D2 : List Addr, (∀ x ∈ D2, x ∈ D ∨ O' v h' x) ∧ oGo l Z a0 EL wd p e s m args below meth c R own bytes mx rt nm Q O D2 h' k' n' pc' Ls (v.toList ++ rest)) : oGo l Z a0 EL wd p e s m args below meth c R own bytes mx rt nm Q O D h k n pc Ls st := by
  subst hp hst
  intro T locs vm0 k0 I
  have I0 := I
  obtain ⟨⟨hx, hb, hm, hr, hlk, hnm, hE⟩, hT, hO, hF, X, hS, hk0, hZ, hown, hC, hwd, hDk⟩ := I
  refine oGo.after I0 hk hn (as' := (.ref a :: argsL).toArray) (rest := rest) (X.specialBackS hx hi hown (mvT (s := s.setVm vm0) hZ w1) (mvT (s := s.setVm vm0) hZ w2) (mvT (s := s.setVm vm0) hZ w4) hy
    (oCtr.back (W := (rest.map fun v => v.category).sum) hM hZ w4 w3 hf hl hE hO hC.1 (hDk.sub hD)) (g := mkF m pc Ls (argsL.reverse ++ .ref a :: rest)) rfl (hsz.trans hm.symm) (Steps.refl _) (lenOf pd hll) rfl (by show 2 * 0 + _ ≤ _; omega) (by rw [hb]; exact hd) (fun _ _ => ⟨rfl, hT, by show k + _ ≤ _; omega, by show n + _ ≤ _; omega⟩)) g
theorem own_notface {args : Array Value} {s : State} {C5 : String} {y y5 z5 : MethodName} (w : (Cond.selects C5 y5 z5).before args s = true) (h : z5.cls = y.cls) : NotFace s y := fun r0 h0 => by
  obtain ⟨c2, r2, m2, -, -, q3, -, kP, hkP, hkPi⟩ := Cond.selects_spec w
  have f1 := findClass_of_methodNamed q3
  have f2 := findClass_of_methodNamed h0
  rw [h] at f1
  have e := Option.some.inj (f1.symm.trans f2)
  rw [e] at hkP; exact ⟨kP, hkP, hkPi⟩
theorem oGo.invokevirtual {idx : Nat} {y z : MethodName} {Cn C5 : String} {y5 z5 : MethodName} {b' : ByteArray} {mx' : Nat} {rt' rs : Option FieldType} {ps : List FieldType} {rm : Room} {D' : List Addr} {Q' : Option Value → Heap → Prop} {O' : Option Value → Heap → Addr → Prop} {k' n' : Nat} {a : Addr} {argsL rest : List Value}
    (hd : decode bytes pc = .ok (.invokevirtual idx, 3)) (hp : pc + 3 = pc') (w1 : (Cond.methodLink own idx y).before a0 Z = true) (w2 : (Cond.declares y).before a0 Z = true) (w5 : (Cond.selects Cn y z).before a0 Z = true) (w7 : (Cond.selects C5 y5 z5).before a0 Z = true) (h7 : z5.cls = y.cls) (w6 : (Cond.instanceMethod z).before a0 Z = true) (w3 : (Cond.initialized z.cls).before a0 Z = true) (w4 : (Cond.code z b' mx' rt').before a0 Z = true)
    (hy : y.cls ≠ "java/lang/invoke/MethodHandle" ∧ y.cls ≠ "java/lang/invoke/VarHandle") (pd : parseMethodDescriptor y.desc = some ⟨ps, rs⟩) (hll : argsL.length = ps.length) (hst : st = argsL.reverse ++ .ref a :: rest) (hsz : Ls.size = mx) (E : Exa Z h a Cn)
    (hM : oCtr [] l Z a0 EL wd z b' mx' rt' rm (.ref a :: argsL).toArray D' h Q' O') (hD : ∀ x ∈ D', x ∈ D) (hf : rm.frames + 1 ≤ R.frames) (hl : (rest.map fun v => v.category).sum + (mx' + 11) + rm.locals ≤ R.locals) (hk : k + rm.cells = k') (hn : n + rm.slots = n') (hc : k' ≤ R.cells) (hs : n' ≤ R.slots)
    (g : ∀ v h', h.size ≤ h'.size → Q' v h' → ∃ D2 : List Addr, (∀ x ∈ D2, x ∈ D ∨ O' v h' x) ∧ oGo l Z a0 EL wd p e s m args below meth c R own bytes mx rt nm Q O D2 h' k' n' pc' Ls (v.toList ++ rest)) : oGo l Z a0 EL wd p e s m args below meth c R own bytes mx rt nm Q O D h k n pc Ls st := by
  subst hp hst
  intro T locs vm0 k0 I
  have I0 := I
  obtain ⟨⟨hx, hb, hm, hr, hlk, hnm, hE⟩, hT, hO, hF, X, hS, hk0, hZ, hown, hC, hwd, hDk⟩ := I
  obtain ⟨cq, kq, q1, q2, q3⟩ := isOf (s := s.setVm vm0) (T := T) hZ hT E
  refine oGo.after I0 hk hn (as' := (.ref a :: argsL).toArray) (rest := rest) (X.virtualBackS hx hown (mvT (s := s.setVm vm0) hZ w1) (mvT (s := s.setVm vm0) hZ w2) (own_notface (args := #[]) (mvT (s := s.setVm vm0) hZ w7) h7) (mvT (s := s.setVm vm0) hZ w5) (mvT (s := s.setVm vm0) hZ w6) hy
    (oCtr.back (W := (rest.map fun v => v.category).sum) hM hZ w4 w3 hf hl hE hO hC.1 (hDk.sub hD)) q1 q3 (g := mkF m pc Ls (argsL.reverse ++ .ref a :: rest)) rfl (hsz.trans hm.symm) (Steps.refl _) (lenOf pd hll) rfl (by show 2 * 0 + _ ≤ _; omega) (by rw [hb]; exact hd) (fun _ _ => ⟨rfl, hT, by show k + _ ≤ _; omega, by show n + _ ≤ _; omega⟩)) g
/-! ### the end -/
theorem oGo.leave {T : State} {locs : List Loc} {vm0 : Vm} {k0 : Nat} {v : Option Value} (I : oInv l Z a0 EL wd p e s m args below meth c R own bytes mx rt nm D h k n T locs vm0 k0) (hk : k ≤ R.cells) (hn : n ≤ R.slots) (hv : rt = none → v = none) (hq : Q v h) (hOx : ∀ x, O v h x → x ∈ D)
    (hst : ∀ fs, (∀ (f : JFrame) (acts : List Action), f.method = m → f.locked = none → f.entered = [] → (doReturn e (T.setTop f) acts v).1 = T.setFrames fs) → Steps p.tables e below (T.setTop (mkF m pc Ls st)) (T.setFrames fs)) : oRes Z EL wd p e s below R Q O (T.setTop (mkF m pc Ls st)) := by
  obtain ⟨⟨hx, hb, hm, hr, hl, hnm, hE⟩, hT, hO, hF, X, hS, hk0, hZ, hown, hC, hwd, hDk⟩ := I
  obtain ⟨fs, h1, h2, h3, h4⟩ := X.leaveW hS (by rw [hT]; exact hk0) (v := v) (by rw [hr]; exact hv) hl
  have hW : (s.setVm vm0).WarmedH T.vm := X.warmed
  refine ⟨T.setFrames fs, v, locs, hst fs h1, h2, h3, ⟨by show Q v T.heap; rw [hT]; exact hq, fun x qx => ?_⟩, hF, by show Ext Z.heap T.heap; rw [hT]; exact hO, ?_, ?_, h4.1, h4.2.1, h4.2.2.1, h4.2.2.2.mono hk hn⟩
  · have qx' : O v h x := by rw [← hT]; exact qx
    show Z.heap.size ≤ x ∧ x < T.heap.size ∧ Safe Z EL T.vm T.heap x
    rw [hT]; exact hDk.chr (CHv.at X hZ hE hC.1) x (hOx x qx')
  · show CHr Z EL s.vm s.heap T.vm T.heap
    rw [hT]; exact hC.trans (CHv.at X hZ hE hC.1)
  · exact hwd.imp id fun q => State.WarmedH.trans (t := s.setVm vm0) q hW
theorem oGo.ireturn {z : Int32} (hd : decode bytes pc = .ok (.ireturn, 1)) (hr : rt = some .int) (hk : k ≤ R.cells) (hn : n ≤ R.slots) (hq : Q (some (.int z)) h) (hOx : ∀ x, O (some (.int z)) h x → x ∈ D) : oGo l Z a0 EL wd p e s m args below meth c R own bytes mx rt nm Q O D h k n pc Ls (.int z :: st) := fun T locs vm0 k0 I =>
  oGo.leave I hk hn (fun q => by rw [hr] at q; cases q) hq hOx fun fs hfs => retOut I.2.2.2.2.1 I.1.1 (by rw [I.1.2.2.2.1]; exact hr) rfl (Or.inl ⟨rfl, Or.inl rfl, z, rfl⟩) (by rw [I.1.2.1]; exact hd) hfs
theorem oGo.nreturn {z w : Int32} {t : FieldType} (hd : decode bytes pc = .ok (.ireturn, 1)) (hr : rt = some t) (ht : t = .boolean ∨ t = .byte ∨ t = .char ∨ t = .short) (hw : nar t z = w) (hk : k ≤ R.cells) (hn : n ≤ R.slots) (hq : Q (some (.int w)) h) (hOx : ∀ x, O (some (.int w)) h x → x ∈ D) : oGo l Z a0 EL wd p e s m args below meth c R own bytes mx rt nm Q O D h k n pc Ls (.int z :: st) := fun T locs vm0 k0 I =>
  oGo.leave I hk hn (fun q => by rw [hr] at q; cases q) hq hOx fun fs hfs => retN I.2.2.2.2.1 I.1.1 (by rw [I.1.2.2.2.1]; exact hr) ht (by rw [I.1.2.1]; exact hd) (by rw [hw]; exact hfs)
theorem oGo.lreturn {z : Int64} (hd : decode bytes pc = .ok (.lreturn, 1)) (hr : rt = some .long) (hk : k ≤ R.cells) (hn : n ≤ R.slots) (hq : Q (some (.long z)) h) (hOx : ∀ x, O (some (.long z)) h x → x ∈ D) : oGo l Z a0 EL wd p e s m args below meth c R own bytes mx rt nm Q O D h k n pc Ls (.long z :: st) := fun T locs vm0 k0 I =>
  oGo.leave I hk hn (fun q => by rw [hr] at q; cases q) hq hOx fun fs hfs => retOut I.2.2.2.2.1 I.1.1 (by rw [I.1.2.2.2.1]; exact hr) rfl (Or.inr (Or.inl ⟨rfl, rfl, z, rfl⟩)) (by rw [I.1.2.1]; exact hd) hfs
theorem oGo.areturn {v : Value} {t : FieldType} (hd : decode bytes pc = .ok (.areturn, 1)) (hr : rt = some t) (ht : t.isReference = true) (hv : v.isRef = true) (hw : narrow t v = v) (hk : k ≤ R.cells) (hn : n ≤ R.slots) (hq : Q (some v) h) (hOx : ∀ x, O (some v) h x → x ∈ D) : oGo l Z a0 EL wd p e s m args below meth c R own bytes mx rt nm Q O D h k n pc Ls (v :: st) := fun T locs vm0 k0 I =>
  oGo.leave I hk hn (fun q => by rw [hr] at q; cases q) hq hOx fun fs hfs => retOut I.2.2.2.2.1 I.1.1 (by rw [I.1.2.2.2.1]; exact hr) hw (Or.inr (Or.inr (Or.inr (Or.inr ⟨rfl, ht, hv⟩)))) (by rw [I.1.2.1]; exact hd) hfs
theorem oGo.return_ (hd : decode bytes pc = .ok (.return_, 1)) (hr : rt = none) (hk : k ≤ R.cells) (hn : n ≤ R.slots) (hq : Q none h) (hOx : ∀ x, O none h x → x ∈ D) : oGo l Z a0 EL wd p e s m args below meth c R own bytes mx rt nm Q O D h k n pc Ls [] := fun T locs vm0 k0 I =>
  oGo.leave I hk hn (fun _ => rfl) hq hOx fun fs hfs => I.2.2.2.2.1.returnOut I.1.1 (by rw [I.1.2.2.2.1]; exact hr) (by rw [I.1.2.1]; exact hd) hfs
end Logic
/-! ### addresses are natural numbers -/
theorem own_ne {a b : Nat} (h : a ≠ b) : a ≠ b := h
theorem own_ltN {a n : Nat} (h : a < n) : a < n := h
theorem own_leN {a n : Nat} (h : a ≤ n) : a ≤ n := h
theorem own_ne_ge {x y n : Nat} (h : x < n) (g : n ≤ y) : x ≠ y := by omega
theorem own_ne_ge' {x y n : Nat} (h : x < n) (g : n ≤ y) : y ≠ x := by omega
theorem own_ne_or {x y z n : Nat} (h : x ≠ y) (l : x < n) (q : z = y ∨ n ≤ z) : x ≠ z := by rcases q with rfl | q; exact h; omega
theorem own_ne_or' {x y z n : Nat} (h : x ≠ y) (l : x < n) (q : z = y ∨ n ≤ z) : z ≠ x := Ne.symm (own_ne_or h l q)
theorem own_ge_or {y z n m : Nat} (h : m ≤ y) (l : m ≤ n) (q : z = y ∨ n ≤ z) : m ≤ z := by rcases q with rfl | q; exact h; omega
theorem own_lt_le {x n m : Nat} (h : x < n) (g : n ≤ m) : x < m := Nat.lt_of_lt_of_le h g
theorem own_le_le {x n m : Nat} (h : x ≤ n) (g : n ≤ m) : x ≤ m := Nat.le_trans h g
theorem own_ge_eq {a n : Nat} (h : a = n) : n ≤ a := by omega
theorem own_nin1 {a b : Nat} (h : a ≠ b) : a ∉ [b] := by simpa using h
theorem own_nin2 {a b c : Nat} (h : a ≠ b) (h2 : a ≠ c) : a ∉ [b, c] := by simp [h, h2]
theorem own_new1 {a n : Nat} {ws : List Nat} (h : n ≤ a) : ∀ x ∈ [a], x ∈ ws ∨ n ≤ x := fun x hx => Or.inr (by rw [List.mem_singleton.mp hx]; exact h)
theorem own_new2 {a b n : Nat} {ws : List Nat} (h : n ≤ a) (h2 : n ≤ b) : ∀ x ∈ [a, b], x ∈ ws ∨ n ≤ x := fun x hx => Or.inr (by rcases List.mem_cons.mp hx with rfl | hx; exact h; rw [List.mem_singleton.mp hx]; exact h2)
theorem own_D1 {t : Nat} {D : List Nat} {P : Nat → Prop} (h : P t) : ∀ x ∈ t :: D, x ∈ D ∨ P x := fun x hx => (List.mem_cons.mp hx).elim (fun e => Or.inr (e ▸ h)) Or.inl
/-! ### numbers and texts -/
abbrev oI (xs : List Int32) : List Value := xs.map Value.int
def lo8 (x : Int32) : Int32 := x.toInt8.toInt32
def hi8 (x : Int32) : Int32 := lo8 (x >>> ((8 : Int32) &&& 31))
def wide2 (cs : List Int32) : List Int32 := cs.flatMap fun c => [lo8 c, hi8 c]
theorem lo8_idem (x : Int32) : nar .byte (lo8 x) = lo8 x := by
  show (x.toInt8.toInt32).toInt8.toInt32 = x.toInt8.toInt32
  rw [Int8.toInt8_toInt32]
theorem own_succ (i : Nat) : Int32.ofNat i + 1 = Int32.ofNat (i + 1) := by
  rw [Int32.ofNat_add]; rfl
theorem own_lt {a b : Nat} (ha : a < 2147483648) (hb : b < 2147483648) : Int32.ofNat a < Int32.ofNat b ↔ a < b := by
  rw [Int32.lt_iff_toInt_lt, own_i32 ha, own_i32 hb]; omega
theorem own_eq {a b : Nat} (ha : a < 2147483648) (hb : b < 2147483648) : Int32.ofNat a = Int32.ofNat b ↔ a = b := by
  rw [← Int32.toInt_inj, own_i32 ha, own_i32 hb]; omega
theorem own_shl1 (i : Nat) : Int32.ofNat i <<< ((1 : Int32) &&& 31) = Int32.ofNat (2 * i) := by
  rw [shlm (m := 2) (by decide), Nat.mul_comm, Int32.ofNat_mul]; rfl
theorem own_ge0 {x : Int32} : ¬ x < 0 ↔ 0 ≤ x.toInt := by rw [Int32.lt_iff_toInt_lt]; simp
theorem own_le {x : Int32} {n : Int32} : ¬ n < x ↔ x.toInt ≤ n.toInt := by rw [Int32.lt_iff_toInt_lt]; omega
/-- an int between two bounds, as a natural number -/
theorem own_nat {x : Int32} {N : Nat} (h0 : 0 ≤ x.toInt) (h1 : x.toInt < N) : ∃ i : Nat, i < N ∧ x = Int32.ofNat i := by
  refine ⟨x.toInt.toNat, by omega, ?_⟩
  apply Int32.toInt_inj.mp
  have := Int32.toInt_lt x
  rw [own_i32 (by omega)]; omega
theorem own_char {x : Int32} (h : fits .char (.int x) = true) : ¬ x < 0 ∧ ¬ 65535 < x := rng_char h
theorem own_take_set {α : Type} (xs : List α) (i : Nat) (v : α) (h : i < xs.length) : (xs.set i v).take (i + 1) = xs.take i ++ [v] := by
  rw [List.take_set, List.take_add_one, List.set_append_right _ _ (by simp; omega)]
  simp [h, Nat.min_eq_left (Nat.le_of_lt h)]
theorem own_take_succ {α : Type} (xs : List α) (i : Nat) (v : α) (h : xs[i]? = some v) : xs.take (i + 1) = xs.take i ++ [v] := by
  rw [List.take_add_one, h]; rfl
theorem wide2_len (cs : List Int32) : (wide2 cs).length = 2 * cs.length := by
  induction cs with
  | nil => rfl
  | cons c cs ih => simp only [wide2, List.flatMap_cons, List.length_append, List.length_cons, List.length_nil] at ih ⊢; rw [ih]; omega
theorem wide2_get (cs : List Int32) : ∀ (i : Nat) (c : Int32), cs[i]? = some c → (wide2 cs)[2 * i]? = some (lo8 c) ∧ (wide2 cs)[2 * i + 1]? = some (hi8 c) := by
  induction cs with
  | nil => intro i c h; simp at h
  | cons a cs ih =>
    intro i c h
    cases i with
    | zero => simp at h; subst h; exact ⟨rfl, rfl⟩
    | succ i =>
      have := ih i c (by simpa using h)
      have e : wide2 (a :: cs) = lo8 a :: hi8 a :: wide2 cs := rfl
      rw [e, show 2 * (i + 1) = 2 * i + 1 + 1 by omega]
      simpa using this
theorem wide2_lo (cs : List Int32) (i : Nat) (c : Int32) (h : cs[i]? = some c) : (oI (wide2 cs))[2 * i]? = some (.int (lo8 c)) := by rw [List.getElem?_map, (wide2_get cs i c h).1]; rfl
theorem wide2_hi (cs : List Int32) (i : Nat) (c : Int32) (h : cs[i]? = some c) : (oI (wide2 cs))[2 * i + 1]? = some (.int (hi8 c)) := by rw [List.getElem?_map, (wide2_get cs i c h).2]; rfl
theorem wide2_step (cs : List Int32) (vs : List Value) (i : Nat) (c : Int32) (h : cs[i]? = some c) (hv : 2 * i + 1 < vs.length) (ht : vs.take (2 * i) = (oI (wide2 cs)).take (2 * i)) :
    ((vs.set (2 * i) (.int (lo8 c))).set (2 * i + 1) (.int (hi8 c))).take (2 * (i + 1)) = (oI (wide2 cs)).take (2 * (i + 1)) := by
  rw [show 2 * (i + 1) = 2 * i + 1 + 1 by omega, own_take_set _ _ _ (by simpa using hv), own_take_set _ _ _ (by omega), ht, own_take_succ _ _ _ (wide2_hi cs i c h), own_take_succ _ _ _ (wide2_lo cs i c h)]
def oStr (Z : State) (h : Heap) (x t : Addr) (cs : List Int32) : Prop := Exa Z h x "java/lang/String" ∧ Fld Z h x "java/lang/String" "value" "[B" (.ref t) ∧
  ((Fld Z h x "java/lang/String" "coder" "B" (.int 0) ∧ oArr Z h t .byte (oI (cs.map lo8)) ∧ ∀ c ∈ cs, ¬ 255 < c) ∨ (Fld Z h x "java/lang/String" "coder" "B" (.int 1) ∧ oArr Z h t .byte (oI (wide2 cs)))) ∧ ∀ c ∈ cs, ¬ c < 0 ∧ ¬ 65535 < c
theorem shr0 (c : Int32) : c >>> ((0 : Int32) &&& 31) = c := by
  rw [show ((0 : Int32) &&& 31) = 0 from by decide]; simp
theorem own_toNat {x : Int32} (h0 : 0 ≤ x.toInt) : (x.toBitVec.toNat : Int) = x.toInt := by
  have := x.toBitVec.isLt
  have e : x.toInt = x.toBitVec.toInt := rfl
  rw [e] at h0 ⊢
  rw [BitVec.toInt_eq_toNat_cond] at h0 ⊢
  split at h0 <;> split <;> omega
theorem own_ofNat {x : Int32} {n : Nat} (h : x.toBitVec.toNat = n) : x = Int32.ofNat n := by
  apply Int32.toBitVec_inj.mp
  apply BitVec.eq_of_toNat_eq
  rw [h]
  show _ = (BitVec.ofNat 32 n).toNat
  rw [BitVec.toNat_ofNat, ← h]; have := x.toBitVec.isLt; omega
theorem lo8_and (x : Int32) : (lo8 x &&& 255).toBitVec.toNat = x.toBitVec.toNat % 256 := by
  have h : (lo8 x).toBitVec = (x.toBitVec.signExtend 8).signExtend 32 := by rw [lo8, Int8.toBitVec_toInt32, Int32.toBitVec_toInt8]
  have e : ((x.toBitVec.signExtend 8).signExtend 32).toNat % 256 = x.toBitVec.toNat % 256 := by
    have hlt := x.toBitVec.isLt
    simp only [BitVec.toNat_setWidth, BitVec.toNat_signExtend]
    split <;> split <;> omega
  rw [Int32.toBitVec_and, BitVec.toNat_and, h, ← e]
  exact Nat.and_two_pow_sub_one_eq_mod _ 8
theorem own_i2c (x : Int32) : (x.toUInt32.toUInt16.toUInt32.toInt32).toBitVec.toNat = x.toBitVec.toNat % 65536 := by
  show ((x.toBitVec.setWidth 16).setWidth 32).toNat = _
  have := x.toBitVec.isLt
  simp only [BitVec.toNat_setWidth]; omega
theorem nar_char {c : Int32} (h0 : ¬ c < 0) (h1 : ¬ 65535 < c) : nar .char c = c := by
  have a := own_toNat (own_ge0.mp h0)
  have b := own_le.mp h1
  have e : (65535 : Int32).toInt = 65535 := rfl
  apply Int32.toBitVec_inj.mp
  apply BitVec.eq_of_toNat_eq
  show (c.toUInt32.toUInt16.toUInt32.toInt32).toBitVec.toNat = _
  rw [own_i2c]; omega
theorem nar_nar (x : Int32) : nar .char (nar .char x) = nar .char x := nar_char (own_char (fits_nar_char x)).1 (own_char (fits_nar_char x)).2
theorem lat_says {c : Int32} (h0 : ¬ c < 0) (h1 : ¬ 255 < c) : nar .char ((lo8 c &&& 255).toUInt32.toUInt16.toUInt32.toInt32) = c := by
  have a := own_toNat (own_ge0.mp h0)
  have b := own_le.mp h1
  have e : (255 : Int32).toInt = 255 := rfl
  apply Int32.toBitVec_inj.mp
  apply BitVec.eq_of_toNat_eq
  show ((lo8 c &&& 255).toUInt32.toUInt16.toUInt32.toInt32.toUInt32.toUInt16.toUInt32.toInt32).toBitVec.toNat = _
  rw [own_i2c, own_i2c, lo8_and]; omega
theorem pair_says {c : Int32} (h0 : ¬ c < 0) (h1 : ¬ 65535 < c) : nar .char ((((lo8 c &&& 255) <<< ((0 : Int32) &&& 31)) ||| ((hi8 c &&& 255) <<< ((8 : Int32) &&& 31))).toUInt32.toUInt16.toUInt32.toInt32) = c := by
  have a := own_toNat (own_ge0.mp h0)
  have b := own_le.mp h1
  have e : (65535 : Int32).toInt = 65535 := rfl
  have hn : c.toBitVec.toNat < 65536 := by omega
  have a1 := lo8_and c
  have a2 : (hi8 c &&& 255).toBitVec.toNat = c.toBitVec.toNat / 256 := by
    rw [hi8, lo8_and]
    have e : ((8 : Int32) &&& 31) = 8 := by decide
    rw [e, Int32.toBitVec_shiftRight]
    have e2 : ((8 : Int32).toBitVec.smod 32) = 8#32 := by decide
    rw [e2, BitVec.sshiftRight_eq', BitVec.toNat_sshiftRight_of_msb_false (by rw [BitVec.msb_eq_false_iff_two_mul_lt]; omega)]
    show c.toBitVec.toNat >>> 8 % 256 = _
    rw [Nat.shiftRight_eq_div_pow]
    omega
  rw [shlm (x := lo8 c &&& 255) (k := 0) (m := 1) (by decide), shlm (x := hi8 c &&& 255) (k := 8) (m := 256) (by decide), Int32.mul_one]
  apply Int32.toBitVec_inj.mp
  apply BitVec.eq_of_toNat_eq
  show ((((lo8 c &&& 255) ||| ((hi8 c &&& 255) * 256)).toUInt32.toUInt16.toUInt32.toInt32).toUInt32.toUInt16.toUInt32.toInt32).toBitVec.toNat = _
  rw [own_i2c, own_i2c, Int32.toBitVec_or, BitVec.toNat_or, a1, Int32.toBitVec_mul, BitVec.toNat_mul, a2]
  have e3 : (c.toBitVec.toNat / 256 * (256 : Int32).toBitVec.toNat) % 2 ^ 32 = 2 ^ 8 * (c.toBitVec.toNat / 256) := by
    show (c.toBitVec.toNat / 256 * 256) % 4294967296 = _
    omega
  rw [e3, Nat.or_comm, ← Nat.two_pow_add_eq_or_of_lt (by omega)]
  omega
theorem own_shr1 {n : Nat} (h : 2 * n < 2147483648) : Int32.ofNat (2 * n) >>> ((1 : Int32) &&& 31) = Int32.ofNat n := by
  have a := own_toNat (x := Int32.ofNat (2 * n)) (by rw [own_i32 h]; omega)
  rw [own_i32 h] at a
  apply own_ofNat
  rw [show ((1 : Int32) &&& 31) = 1 by decide, Int32.toBitVec_shiftRight, show ((1 : Int32).toBitVec.smod 32) = 1#32 by decide, BitVec.sshiftRight_eq', BitVec.toNat_sshiftRight_of_msb_false (by rw [BitVec.msb_eq_false_iff_two_mul_lt]; omega)]
  show (Int32.ofNat (2 * n)).toBitVec.toNat >>> 1 = _
  rw [Nat.shiftRight_eq_div_pow]; omega
theorem own_and_lo (x m : Int32) (hm : ¬ m < 0) : ¬ (x &&& m) < 0 := own_ge0.mpr ((c_andS x m).2.2 (own_ge0.mp hm))
theorem own_and_hi (x m : Int32) (hm : ¬ m < 0) : ¬ m < (x &&& m) := by
  rw [own_le]
  have a := own_toNat (own_ge0.mp (own_and_lo x m hm))
  have b := own_toNat (own_ge0.mp hm)
  have c : (x &&& m).toBitVec.toNat ≤ m.toBitVec.toNat := by
    rw [Int32.toBitVec_and, BitVec.toNat_and]; exact Nat.and_le_right
  omega
theorem own_sub {x y : Int32} (h1 : -2147483648 ≤ x.toInt - y.toInt) (h2 : x.toInt - y.toInt < 2147483648) : (x - y).toInt = x.toInt - y.toInt := by
  rw [Int32.toInt_sub]
  exact Int.bmod_eq_of_le (by omega) (by omega)
theorem own_subI {i j : Nat} (hi : i < 1000000) (hj : j < 1000000) : (Int32.ofNat j - Int32.ofNat i).toInt = (j : Int) - i := by
  have a := own_i32 (i := i) (by omega)
  have b := own_i32 (i := j) (by omega)
  rw [own_sub (by omega) (by omega), a, b]
theorem own_subc {x k : Int32} (h0 : 0 ≤ k.toInt) (h1 : k.toInt ≤ x.toInt) : (x - k).toInt = x.toInt - k.toInt := by
  have := Int32.toInt_lt x
  exact own_sub (by omega) (by omega)
theorem own_eqI {args : Array Value} {first s : State} {o : Option Outcome} {idx : List Nat} {t : Term} {n : Int32} (h : (Cond.eq t (Term.int n)).value args first o s idx = some true) : t.eval args first o idx s = some (.int n) := by
  simp only [Cond.value, Term.int_eval] at h
  cases ht : t.eval args first o idx s with
  | none => simp [ht] at h
  | some x => cases x <;> simp [ht] at h ⊢; exact h
theorem own_255 {c : Int32} (h : ¬ 255 < c) : ¬ 65535 < c := by
  rw [own_le] at h ⊢
  have e : (255 : Int32).toInt = 255 := rfl
  have e2 : (65535 : Int32).toInt = 65535 := rfl
  omega
theorem own_b255 (x : Int32) : ¬ (x &&& 255).toUInt32.toUInt16.toUInt32.toInt32 < 0 ∧ ¬ 255 < (x &&& 255).toUInt32.toUInt16.toUInt32.toInt32 := by
  have h0 := own_and_lo x 255 (by decide)
  have h1 := own_and_hi x 255 (by decide)
  have e : (x &&& 255).toUInt32.toUInt16.toUInt32.toInt32 = x &&& 255 := nar_char h0 (own_255 h1)
  rw [e]; exact ⟨h0, h1⟩
theorem own_irem (x k : Int32) (n : Nat) (h0 : 0 < n) (h1 : n < 2147483648) (hk : k = Int32.ofNat n) : ∃ i : Nat, i < n ∧ (x &&& 2147483647) % k = Int32.ofNat i := by
  have a := own_ge0.mp (own_and_lo x 2147483647 (by decide))
  have e : k.toInt = (n : Int) := by rw [hk, own_i32 h1]
  have b := (c_irem (x &&& 2147483647) k (n : Int) e).1 a
  refine own_nat ?_ ?_
  · rw [b]; exact Int.emod_nonneg _ (by omega)
  · rw [b]; exact Int.emod_lt_of_pos _ (by omega)
theorem own_subN {i j : Nat} (h : i ≤ j) (hj : j < 2147483648) : Int32.ofNat j - Int32.ofNat i = Int32.ofNat (j - i) := by
  apply Int32.toInt_inj.mp
  have a := own_i32 (i := i) (by omega)
  have b := own_i32 hj
  have c := own_i32 (i := j - i) (by omega)
  rw [own_sub (by omega) (by omega), a, b, c]; omega
theorem own_add2 (i : Nat) : Int32.ofNat i + 2 = Int32.ofNat (i + 2) := by rw [Int32.ofNat_add]; rfl
theorem shl0 (c : Int32) : c <<< ((0 : Int32) &&& 31) = c := by rw [shlm (m := 1) (by decide), Int32.mul_one]
theorem own_app_take {vs : List Value} {cs ds : List Int32} (hv : vs.take cs.length = oI (cs.map lo8)) (hl : cs.length + ds.length ≤ vs.length) : (vs.take cs.length ++ oI (ds.map lo8) ++ vs.drop (cs.length + ds.length)).take (cs.length + ds.length) = oI ((cs ++ ds).map lo8) := by
  rw [hv, List.take_left' (by simp)]; simp
theorem own_sub_map (cs : List Int32) (i k : Nat) : ((oI (cs.map lo8)).drop i).take k = oI (((cs.drop i).take k).map lo8) := by
  simp [List.map_drop, List.map_take]
section Logic2
variable {l : Launch} {Z : State} {a0 : Array Value} {EL : List (String × Nat)} {wd : Prop} {p : Program} {e : Env} {s : State} {m : MethodId} {args : Array Value} {below : List Frame} {meth : Method} {c : Code} {R : Room} {own : String} {bytes : ByteArray} {mx : Nat} {rt : Option FieldType} {nm : String}
  {Q : Option Value → Heap → Prop} {O : Option Value → Heap → Addr → Prop} {D : List Addr} {h : Heap} {k n : Nat} {pc pc' pc1 pc2 : Nat} {Ls Ls' : Array Slot} {st st' : List Value}
/-- a String constant whose text is known -/
theorem oGo.ldc_str {idx : Nat} {text : String} {vs : List Value} {k' n' : Nat} (hd : decode bytes pc = .ok (.ldc idx, 2)) (hp : pc + 2 = pc') (hwd : wd) (w : (Cond.stringLink own idx text).before a0 Z = true) (wS : ∀ a ∈ Bundle.stringAtoms, a.before a0 Z = true) (hmem : (own, idx) ∈ EL)
    (ht : (∀ c ∈ text.toList, c.toNat < 256) ∧ text.toList.map (fun c => Value.int (Jvm.Lit.byteI c.toNat.toUInt16)) = vs) (hvl : vs.length < 1000) (hk : k + 2 = k') (hn : n + (4 * text.toList.length + 4) = n') (hc : k' ≤ R.cells) (hl : n' ≤ R.slots)
    (g : ∀ (h' : Heap) (a b : Nat), Ext h h' → Exa Z h' a "java/lang/String" → Fld Z h' a "java/lang/String" "coder" "B" (.int 0) → Fld Z h' a "java/lang/String" "value" "[B" (.ref b) → oArr Z h' b .byte vs → a < h'.size → b < h'.size → (∀ x : Nat, x ∈ D → x ≠ a ∧ x ≠ b) → oGo l Z a0 EL wd p e s m args below meth c R own bytes mx rt nm Q O D h' k' n' pc' Ls (.ref a :: st)) : oGo l Z a0 EL wd p e s m args below meth c R own bytes mx rt nm Q O D h k n pc Ls st := by
  subst hp hk hn
  intro T locs vm0 k0 I
  obtain ⟨⟨hx, hb, hm, hr, hlk, hnm, hE⟩, hT, hO, hF, X, hS, hk0, hZ, hown, hC, hw2, hDk⟩ := I
  have hbig : 4 * text.toList.length ≤ 536870912 := by
    have : text.toList.length = vs.length := by rw [← ht.2]; simp
    omega
  obtain ⟨a, T', h', k1, b, kk, X', hT', E, hS', hk1, hZ', hown', x1, x2, x3, x4, x5, x6, x7, -, x8, hst⟩ := ldcCH X hx hZ hown w wS hT hS hk0 hE hmem hC.1 ht (z := Int32.ofNat vs.length) (own_nn (by omega)) (by rw [own_n32 (by omega)]) (g := mkF m pc Ls st) rfl (by rw [hb]; exact hd) (n := 4 * text.toList.length) (Nat.le_refl _) hbig hc hl
  obtain ⟨V, v, L, hs, r⟩ := g h' a b E x1 x2 x3 (oArr.of_arv x4 (by rw [own_n32 (by omega)])) x5 x6 (fun x hx' => x8 x (x7.safe (hDk x hx').2.1 (hDk x hx').2.2)) T' locs T'.vm k1 ⟨⟨hx, hb, hm, hr, hlk, hnm, hE⟩, hT', ext_trans hO E, hF, X', hS', hk1, hZ', hown', hC.trans x7, Or.inl hwd, hDk.chr x7⟩
  exact ⟨V, v, L, hst V hs, r⟩
/-- a String constant of which nothing is asked -/
theorem oGo.ldc_op {idx : Nat} {text : String} {k' n' : Nat} (hd : decode bytes pc = .ok (.ldc idx, 2)) (hp : pc + 2 = pc') (hwd : wd) (w : (Cond.stringLink own idx text).before a0 Z = true) (wS : ∀ a ∈ Bundle.stringAtoms, a.before a0 Z = true)
    (hbig : 4 * text.toList.length ≤ 536870912) (hk : k + 2 = k') (hn : n + (4 * text.toList.length + 4) = n') (hc : k' ≤ R.cells) (hl : n' ≤ R.slots) (g : ∀ (h' : Heap) (a : Nat), Ext h h' → oGo l Z a0 EL wd p e s m args below meth c R own bytes mx rt nm Q O D h' k' n' pc' Ls (.ref a :: st)) : oGo l Z a0 EL wd p e s m args below meth c R own bytes mx rt nm Q O D h k n pc Ls st := by
  subst hp hk hn
  intro T locs vm0 k0 I
  obtain ⟨⟨hx, hb, hm, hr, hlk, hnm, hE⟩, hT, hO, hF, X, hS, hk0, hZ, hown, hC, hw2, hDk⟩ := I
  obtain ⟨a, T', h', k1, X', hT', E, hS', hk1, hZ', hown', x7, -, hst⟩ := ldcOH X hx hZ hown w wS hT hS hk0 hE hC.1 (g := mkF m pc Ls st) rfl (by rw [hb]; exact hd) (n := 4 * text.toList.length) (Nat.le_refl _) hbig hc hl
  obtain ⟨V, v, L, hs, r⟩ := g h' a E T' locs T'.vm k1 ⟨⟨hx, hb, hm, hr, hlk, hnm, hE⟩, hT', ext_trans hO E, hF, X', hS', hk1, hZ', hown', hC.trans x7, Or.inl hwd, hDk.chr x7⟩
  exact ⟨V, v, L, hst V hs, r⟩
/-- invokevirtual of a private method -/
theorem oGo.invokeprivate {idx : Nat} {y : MethodName} {Cn : String} {b' : ByteArray} {mx' : Nat} {rt' rs : Option FieldType} {ps : List FieldType} {rm : Room} {D' : List Addr} {Q' : Option Value → Heap → Prop} {O' : Option Value → Heap → Addr → Prop} {k' n' : Nat} {a : Addr} {argsL rest : List Value}
    (hd : decode bytes pc = .ok (.invokevirtual idx, 3)) (hp : pc + 3 = pc') (w1 : (Cond.methodLink own idx y).before a0 Z = true) (w2 : (Cond.privateMethod y).before a0 Z = true) (w5 : (Cond.selects Cn y y).before a0 Z = true) (w6 : (Cond.instanceMethod y).before a0 Z = true) (w3 : (Cond.initialized y.cls).before a0 Z = true) (w4 : (Cond.code y b' mx' rt').before a0 Z = true)
    (hy : y.cls ≠ "java/lang/invoke/MethodHandle" ∧ y.cls ≠ "java/lang/invoke/VarHandle") (pd : parseMethodDescriptor y.desc = some ⟨ps, rs⟩) (hll : argsL.length = ps.length) (hst : st = argsL.reverse ++ .ref a :: rest) (hsz : Ls.size = mx) (E : Exa Z h a Cn)
    (hM : oCtr [] l Z a0 EL wd y b' mx' rt' rm (.ref a :: argsL).toArray D' h Q' O') (hD : ∀ x ∈ D', x ∈ D) (hf : rm.frames + 1 ≤ R.frames) (hl : (rest.map fun v => v.category).sum + (mx' + 11) + rm.locals ≤ R.locals) (hk : k + rm.cells = k') (hn : n + rm.slots = n') (hc : k' ≤ R.cells) (hs : n' ≤ R.slots)
    (g : ∀ v h', h.size ≤ h'.size → Q' v h' → ∃ D2 : List Addr, (∀ x ∈ D2, x ∈ D ∨ O' v h' x) ∧ oGo l Z a0 EL wd p e s m args below meth c R own bytes mx rt nm Q O D2 h' k' n' pc' Ls (v.toList ++ rest)) : oGo l Z a0 EL wd p e s m args below meth c R own bytes mx rt nm Q O D h k n pc Ls st := by
  subst hp hst
  intro T locs vm0 k0 I
  have I0 := I
  obtain ⟨⟨hx, hb, hm, hr, hlk, hnm, hE⟩, hT, hO, hF, X, hS, hk0, hZ, hown, hC, hwd, hDk⟩ := I
  have hi' := mvT (s := s.setVm vm0) (args := args) hZ w6
  have hc' := mvT (s := s.setVm vm0) (args := args) hZ w4
  have hs' := mvT (s := s.setVm vm0) (args := args) hZ w5
  have hpr := Cond.privateMethod_at (mvP (s := s.setVm vm0) (args := args) hZ w2)
  obtain ⟨mk, mM, n1, n2, n3, n4⟩ := Cond.instanceMethod_spec hi'
  obtain ⟨mM', cM, n5, -, -, -, -, -, -, n6⟩ := Cond.code_spec n1 hc'
  cases n2.symm.trans n5
  obtain ⟨c2, r2, m2, -, -, n7, -, kP, n8, n9⟩ := Cond.selects_spec hs'
  cases n1.symm.trans n7
  obtain ⟨cell, e1, e2⟩ := E.cell
  obtain ⟨vm₁, X₁, st1⟩ := X.invokevirtual hx hown (mvT (s := s.setVm vm0) hZ w1) n1 n2 n3 n8 n9 hy (a := a) (cell := cell) (by rw [hT]; exact e1) e2 (selectMethod_private n2 (hpr mk mM n1 n2)) n2 n4 n8 n9 (g := mkF m pc Ls (argsL.reverse ++ .ref a :: rest)) rfl (argsL := argsL) (rest := rest) (lenOf pd hll _ n6) rfl (by rw [hb]; exact hd)
  obtain ⟨v, B, X2, hS2, hgr, hpo, hst2⟩ := (oCtr.back (p := p) (e := e) (s := s) (args := args) (below := below) (R := R) (len := 3) (W := (rest.map fun v => v.category).sum) hM hZ w4 w3 hf hl hE hO hC.1 (hDk.sub hD)) m meth c ⟨T.setVm vm₁, locs, k, n⟩ (mkF m pc Ls rest) (.invokevirtual idx) mk (.ref a :: argsL).toArray X₁ rfl (hsz.trans hm.symm) (by show decode c.code pc = _; rw [hb]; exact hd) (by show 2 * 0 + (rest.map fun v => v.category).sum ≤ _; omega) (X₁.named n1) ⟨rfl, hT, by show k + _ ≤ _; omega, by show n + _ ≤ _; omega⟩
  exact oGo.after I0 hk hn (as' := (.ref a :: argsL).toArray) (rest := rest) ⟨v, vm₁, B, X₁.warmed, X2, hS2, hgr, hpo, (st1 _ fun acts => by rw [doInvoke_state]; exact Steps.refl _).trans hst2⟩ g
/-- invokespecial of a superclass's method -/
theorem oGo.invokesuper {idx : Nat} {y : MethodName} {Cn : String} {b' : ByteArray} {mx' : Nat} {rt' rs : Option FieldType} {ps : List FieldType} {rm : Room} {D' : List Addr} {Q' : Option Value → Heap → Prop} {O' : Option Value → Heap → Addr → Prop} {k' n' : Nat} {a : Addr} {argsL rest : List Value}
    (hd : decode bytes pc = .ok (.invokespecial idx, 3)) (hp : pc + 3 = pc') (hni : y.name ≠ "<init>") (w1 : (Cond.methodLink own idx y).before a0 Z = true) (w2 : (Cond.superclass own y.cls).before a0 Z = true) (w6 : (Cond.instanceMethod y).before a0 Z = true) {C5 : String} {y5 z5 : MethodName} (w5 : (Cond.selects C5 y5 z5).before a0 Z = true) (h5 : z5.cls = y.cls) (w3 : (Cond.initialized y.cls).before a0 Z = true) (w4 : (Cond.code y b' mx' rt').before a0 Z = true)
    (hy : y.cls ≠ "java/lang/invoke/MethodHandle" ∧ y.cls ≠ "java/lang/invoke/VarHandle") (pd : parseMethodDescriptor y.desc = some ⟨ps, rs⟩) (hll : argsL.length = ps.length) (hst : st = argsL.reverse ++ .ref a :: rest) (hsz : Ls.size = mx) (E : Exa Z h a Cn)
    (hM : oCtr [] l Z a0 EL wd y b' mx' rt' rm (.ref a :: argsL).toArray D' h Q' O') (hD : ∀ x ∈ D', x ∈ D) (hf : rm.frames + 1 ≤ R.frames) (hl : (rest.map fun v => v.category).sum + (mx' + 11) + rm.locals ≤ R.locals) (hk : k + rm.cells = k') (hn : n + rm.slots = n') (hc : k' ≤ R.cells) (hs : n' ≤ R.slots)
    (g : ∀ v h', h.size ≤ h'.size → Q' v h' → ∃ D2 : List Addr, (∀ x ∈ D2, x ∈ D ∨ O' v h' x) ∧ oGo l Z a0 EL wd p e s m args below meth c R own bytes mx rt nm Q O D2 h' k' n' pc' Ls (v.toList ++ rest)) : oGo l Z a0 EL wd p e s m args below meth c R own bytes mx rt nm Q O D h k n pc Ls st := by
  subst hp hst
  intro T locs vm0 k0 I
  have I0 := I
  obtain ⟨⟨hx, hb, hm, hr, hlk, hnm, hE⟩, hT, hO, hF, X, hS, hk0, hZ, hown, hC, hwd, hDk⟩ := I
  obtain ⟨mk, mM, n1, n2, n3, n4⟩ := Cond.instanceMethod_spec (mvT (s := s.setVm vm0) (args := args) hZ w6)
  obtain ⟨mM', cM, n5, -, -, -, -, -, -, n6⟩ := Cond.code_spec n1 (mvT (s := s.setVm vm0) (args := args) hZ w4)
  cases n2.symm.trans n5
  have hcn := findClass_of_methodNamed n1
  obtain ⟨dk, hdk, -⟩ := Vm.findClass_spec (vm := (s.setVm vm0).vm) hown
  obtain ⟨kp, hkp, -⟩ := Vm.findClass_spec hcn
  have ws := mvT (s := s.setVm vm0) (args := args) hZ w2
  have hown' : (s.setVm vm0).vm.findClass own = some m.cls := hown
  simp only [Cond.before, Cond.holds, Cond.value, hown', hcn, hdk, hkp, Option.bind_some, Option.map_some] at ws
  have ws' : ((dk.super = some mk.cls ∧ dk.kind = .ordinary) ∧ kp.kind = .ordinary) ∧ dk.isInterface = false := by simpa using ws
  obtain ⟨c5, r5, m5, -, -, f5, -, kP, f6, f7⟩ := Cond.selects_spec (mvT (s := s.setVm vm0) (args := args) hZ w5)
  have f8 := findClass_of_methodNamed f5
  rw [h5] at f8
  have f9 : mk.cls = m5.cls := Option.some.inj (hcn.symm.trans f8)
  have hki : kp.isInterface = false := by rw [f9] at hkp; cases hkp.symm.trans f6; exact f7
  have hsame : (Cond.sameMethod y.cls y.cls y.name y.desc).before args (s.setVm vm0) = true := by
    have q := State.methodFound?_of_named n1 hy
    have hcn' : vm0.findClass y.cls = some mk.cls := hcn
    have hkp' : vm0.classes[mk.cls]? = some kp := hkp
    simp [Cond.before, Cond.holds, Cond.value, hcn', q, n1, hkp', hki]
  obtain ⟨cell, kc, e1, e2, e3, e4, -⟩ := E
  obtain ⟨kc', e5, -⟩ := hZ.alike.2.2 _ _ e3
  obtain ⟨vm₁, X₁, st1⟩ := X.invokespecialUp hx (owner := y.cls) hown (mvT (s := s.setVm vm0) hZ w1) hsame n1 n2 n3 n4 hni hdk ws'.2 hcn ws'.1.1.1 (by simp [Vm.isSubclass, Vm.isSubclassAux]) (a := a) (by rw [hT]; exact e1) (fun q e => by rw [e] at e4; cases e4) e5 (g := mkF m pc Ls (argsL.reverse ++ .ref a :: rest)) rfl (argsL := argsL) (rest := rest) (lenOf pd hll _ n6) rfl (by rw [hb]; exact hd)
  obtain ⟨v, B, X2, hS2, hgr, hpo, hst2⟩ := (oCtr.back (p := p) (e := e) (s := s) (args := args) (below := below) (R := R) (len := 3) (W := (rest.map fun v => v.category).sum) hM hZ w4 w3 hf hl hE hO hC.1 (hDk.sub hD)) m meth c ⟨T.setVm vm₁, locs, k, n⟩ (mkF m pc Ls rest) (.invokespecial idx) mk (.ref a :: argsL).toArray X₁ rfl (hsz.trans hm.symm) (by show decode c.code pc = _; rw [hb]; exact hd) (by show 2 * 0 + (rest.map fun v => v.category).sum ≤ _; omega) (X₁.named n1) ⟨rfl, hT, by show k + _ ≤ _; omega, by show n + _ ≤ _; omega⟩
  exact oGo.after I0 hk hn (as' := (.ref a :: argsL).toArray) (rest := rest) ⟨v, vm₁, B, X₁.warmed, X2, hS2, hgr, hpo, st1 _ hst2⟩ g
/-- System.arraycopy between two arrays of bytes, not the same one -/
theorem oGo.arraycopy {idx : Nat} {a b : Addr} {vs ws : List Value} {i j q : Nat} (hd : decode bytes pc = .ok (.invokestatic idx, 3)) (hp : pc + 3 = pc') (w1 : (Cond.methodLink own idx Jvm.Stand.acN).before a0 Z = true) (w2 : (Cond.native Jvm.Stand.acN).before a0 Z = true) (w3 : (Cond.static Jvm.Stand.acN).before a0 Z = true) (w4 : (Cond.initialized "java/lang/System").before a0 Z = true)
    (A : oArr Z h a .byte vs) (B : oArr Z h b .byte ws) (h1 : i + q ≤ vs.length) (h2 : j + q ≤ ws.length) (hsz : Ls.size = mx) (hf : 1 ≤ R.frames) (hlo : (st.map fun v => v.category).sum + (nativeFrameWords "java/lang/System" "arraycopy" 5 + 11) ≤ R.locals) (ha : b ∈ D)
    (g : ∀ h', Keep h h' [b] → h.size ≤ h'.size → oArr Z h' b .byte (ws.take j ++ (vs.drop i).take q ++ ws.drop (j + q)) → oGo l Z a0 EL wd p e s m args below meth c R own bytes mx rt nm Q O D h' k n pc' Ls st) : oGo l Z a0 EL wd p e s m args below meth c R own bytes mx rt nm Q O D h k n pc Ls (.int (Int32.ofNat q) :: .int (Int32.ofNat j) :: .ref b :: .int (Int32.ofNat i) :: .ref a :: st) := by
  subst hp
  have hv : vs.length < 2147483648 := by obtain ⟨_, _, _, z, _⟩ := A; exact z
  have hw : ws.length < 2147483648 := by obtain ⟨_, _, _, z, _⟩ := B; exact z
  obtain ⟨ka, A'⟩ := A.arv (.int 0)
  obtain ⟨kb, B'⟩ := B.arv (.int 0)
  have e1 := own_n32 (i := i) (by omega); have e2 := own_n32 (i := j) (by omega); have e3 := own_n32 (i := q) (by omega)
  have e4 := own_n32 hv; have e5 := own_n32 hw
  have eus : (List.range (Int32.ofNat q).toNatClampNeg).map (fun z => vs.getD ((Int32.ofNat i).toNatClampNeg + z) (.int 0)) = (vs.drop i).take q := by
    rw [e1, e3]
    apply List.ext_getElem?
    intro z
    by_cases hz : z < q
    · rw [List.getElem?_map, List.getElem?_range hz, List.getElem?_take_of_lt hz, List.getElem?_drop]
      have : i + z < vs.length := by omega
      simp [List.getD_eq_getElem?_getD, this]
    · rw [List.getElem?_eq_none (by simpa using hz), List.getElem?_eq_none (by simp; omega)]
  refine oGo.writes (ws := [b]) (P := fun h' => oArr Z h' b .byte (ws.take j ++ (vs.drop i).take q ++ ws.drop (j + q))) (fun T locs vm0 X hT hZ hown hb hx hn hm hF hDz => ?_) (fun x hx => by rw [List.mem_singleton.mp hx]; exact ha) (fun h' K P => g h' K K.1 P)
  obtain ⟨T', h', L', X', hT', hF', K, A2, hst⟩ := cpA (s := s.setVm vm0) X hx hZ hown w1 w2 w3 w4 hT A' B' (sp := Int32.ofNat i) (dp := Int32.ofNat j) (nn := Int32.ofNat q) (us := (vs.drop i).take q) (Or.inl ⟨rfl, rfl⟩) (own_nn (by omega)) (own_nn (by omega)) (own_nn (by omega)) (by rw [e1, e3, e4]; exact h1) (by rw [e2, e3, e5]; exact h2) eus.symm (by rw [e2, e3]; exact h2) hF (hDz b ha) (g := mkF m pc Ls (.int (Int32.ofNat q) :: .int (Int32.ofNat j) :: .ref b :: .int (Int32.ofNat i) :: .ref a :: st)) rfl (hsz.trans hm.symm) rfl (by rw [hb]; exact hd) hf (W := (st.map fun v => v.category).sum) (by show 2 * 0 + _ ≤ _; omega) hlo
  rw [e2, e3] at A2
  refine ⟨T', h', L', X', hT', hF', K, oArr.of_arv A2 ?_, hst⟩
  rw [e5]; simp; omega
/-- checkcast of an object whose class is known -/
theorem oGo.checkcast {idx : Nat} {a : Addr} {Cn K : String} (hd : decode bytes pc = .ok (.checkcast idx, 3)) (hp : pc + 3 = pc') (w : (Cond.classLink own idx K).before a0 Z = true) (F : Ins Z h a K true) (g : oGo l Z a0 EL wd p e s m args below meth c R own bytes mx rt nm Q O D h k n pc' Ls (.ref a :: st)) : oGo l Z a0 EL wd p e s m args below meth c R own bytes mx rt nm Q O D h k n pc Ls (.ref a :: st) := by
  subst hp; exact oGo.move (fun T locs vm0 X hT hZ hown hb hx hn hm => castY (s := s.setVm vm0) X hx hZ hown w hT F (g := mkF m pc Ls (.ref a :: st)) rfl rfl (by rw [hb]; exact hd)) g
theorem oGo.instanceof_y {idx : Nat} {a : Addr} {K : String} (hd : decode bytes pc = .ok (.instanceof idx, 3)) (hp : pc + 3 = pc') (w : (Cond.classLink own idx K).before a0 Z = true) (F : Ins Z h a K true) (g : oGo l Z a0 EL wd p e s m args below meth c R own bytes mx rt nm Q O D h k n pc' Ls (.int 1 :: st)) : oGo l Z a0 EL wd p e s m args below meth c R own bytes mx rt nm Q O D h k n pc Ls (.ref a :: st) := by
  subst hp; exact oGo.move (fun T locs vm0 X hT hZ hown hb hx hn hm => instY (s := s.setVm vm0) X hx hZ hown w hT F (g := mkF m pc Ls (.ref a :: st)) rfl rfl (by rw [hb]; exact hd)) g
end Logic2
/-! ### Latin-1 Strings -/
def oS (Z : State) (h : Heap) (x t : Addr) (cs : List Int32) : Prop := Exa Z h x "java/lang/String" ∧ Fld Z h x "java/lang/String" "value" "[B" (.ref t) ∧ Fld Z h x "java/lang/String" "coder" "B" (.int 0) ∧ oArr Z h t .byte (oI (cs.map lo8)) ∧ ∀ c ∈ cs, ¬ c < 0 ∧ ¬ 255 < c
section Str
variable {Z : State} {h h' : Heap} {x t a : Addr} {cs : List Int32} {ws : List Addr}
theorem oS.ext (S : oS Z h x t cs) (E : Ext h h') : oS Z h' x t cs := ⟨S.1.ext E, S.2.1.ext E, S.2.2.1.ext E, S.2.2.2.1.ext E, S.2.2.2.2⟩
theorem oS.keep (S : oS Z h x t cs) (K : Keep h h' ws) (q : x ∉ ws) (r : t ∉ ws) : oS Z h' x t cs := ⟨S.1.keep K, S.2.1.keep K q, S.2.2.1.keep K q, S.2.2.2.1.keep K r, S.2.2.2.2⟩
theorem oS.other {sl : Nat} {v : Value} (S : oS Z h x t cs) (W : Wr h h' a sl v) (q : x ≠ a) (r : t ≠ a) : oS Z h' x t cs := ⟨S.1.wr W, S.2.1.other W (Or.inl q), S.2.2.1.other W (Or.inl q), S.2.2.2.1.other W r, S.2.2.2.2⟩
theorem oS.len (S : oS Z h x t cs) : cs.length < 2147483648 := by obtain ⟨_, _, _, ⟨_, _, _, q, _⟩, _⟩ := S; simpa using q
end Str
def oG (a0 : Array Value) (Z : State) (EL : List (String × Nat)) : Prop := (∀ d ∈ tables_1, d.before a0 Z = true) ∧ EW Z a0 EL ∧ (∀ d ∈ jdkStatics_1, d.before a0 Z = true) ∧ ∀ p ∈ consts_1, p ∈ EL
theorem sCOMPACT {a0 : Array Value} {Z : State} {EL : List (String × Nat)} (hG : oG a0 Z EL) : ∃ z, Sta Z Z.heap "java/lang/String" "COMPACT_STRINGS" "Z" (.int z) ∧ ¬ z = 0 := by
  obtain ⟨z, e⟩ := is_v (Cond.before_iff.mp (hG.2.2.1 _ (List.mem_of_getElem? (i := 1) rfl)))
  exact ⟨z, Sta.start e (Or.inl (hG.2.2.1 _ (List.mem_of_getElem? (i := 0) rfl))), gotF (Cond.eq_ints e (Term.int_eval (0))) (not_v (Cond.before_iff.mp (hG.2.2.1 _ (List.mem_of_getElem? (i := 2) rfl))))⟩
theorem sSIOOBE {a0 : Array Value} {Z : State} {EL : List (String × Nat)} (hG : oG a0 Z EL) : ∃ v, Sta Z Z.heap "jdk/internal/util/Preconditions" "SIOOBE_FORMATTER" "Ljava/util/function/BiFunction;" v ∧ v.isRef = true := by
  obtain ⟨v, e, r⟩ := isR_v (Cond.before_iff.mp (hG.2.2.1 _ (List.mem_of_getElem? (i := 8) rfl)))
  exact ⟨v, Sta.start e (Or.inl (hG.2.2.1 _ (List.mem_of_getElem? (i := 7) rfl))), r⟩
theorem w0 {a0 : Array Value} {Z : State} {EL : List (String × Nat)} (hG : oG a0 Z EL) : ((Jvm.Cond.arrayClass Jvm.ClassFile.FieldType.char)).before a0 Z = true := hG.1 _ (List.mem_of_getElem? (i := 0) rfl)
theorem w1 {a0 : Array Value} {Z : State} {EL : List (String × Nat)} (hG : oG a0 Z EL) : ((Jvm.Cond.constant "com/example/meander/meander/cluster/WorkerAddressToStringPinLaw" (7 : Nat) (2147483647 : Int32))).before a0 Z = true := hG.1 _ (List.mem_of_getElem? (i := 1) rfl)
theorem w2 {a0 : Array Value} {Z : State} {EL : List (String × Nat)} (hG : oG a0 Z EL) : ((Jvm.Cond.constant "com/example/meander/meander/cluster/WorkerAddressToStringPinLaw" (8 : Nat) (65535 : Int32))).before a0 Z = true := hG.1 _ (List.mem_of_getElem? (i := 2) rfl)
theorem w3 {a0 : Array Value} {Z : State} {EL : List (String × Nat)} (hG : oG a0 Z EL) : ((Jvm.Cond.classLink "com/example/meander/meander/cluster/WorkerAddressToStringPinLaw" (9 : Nat) "java/lang/String")).before a0 Z = true := hG.1 _ (List.mem_of_getElem? (i := 3) rfl)
theorem w4 {a0 : Array Value} {Z : State} {EL : List (String × Nat)} (hG : oG a0 Z EL) : ((Jvm.Cond.instantiable "java/lang/String" (4 : Nat))).before a0 Z = true := hG.1 _ (List.mem_of_getElem? (i := 4) rfl)
theorem w5 {a0 : Array Value} {Z : State} {EL : List (String × Nat)} (hG : oG a0 Z EL) : ((Jvm.Cond.initialized "java/lang/String")).before a0 Z = true := hG.1 _ (List.mem_of_getElem? (i := 5) rfl)
theorem w6 {a0 : Array Value} {Z : State} {EL : List (String × Nat)} (hG : oG a0 Z EL) : ((Jvm.Cond.methodLink "com/example/meander/meander/cluster/WorkerAddressToStringPinLaw" (11 : Nat) ({ cls := "java/lang/String", name := "<init>", desc := "([C)V" } : Jvm.MethodName))).before a0 Z = true := hG.1 _ (List.mem_of_getElem? (i := 6) rfl)
theorem w7 {a0 : Array Value} {Z : State} {EL : List (String × Nat)} (hG : oG a0 Z EL) : ((Jvm.Cond.instanceMethod ({ cls := "java/lang/String", name := "<init>", desc := "([C)V" } : Jvm.MethodName))).before a0 Z = true := hG.1 _ (List.mem_of_getElem? (i := 7) rfl)
theorem w8 {a0 : Array Value} {Z : State} {EL : List (String × Nat)} (hG : oG a0 Z EL) : ((Jvm.Cond.code ({ cls := "java/lang/String", name := "<init>", desc := "([C)V" } : Jvm.MethodName) jdk_42_method_3_code (2 : Nat) (Option.none : Option Jvm.ClassFile.FieldType))).before a0 Z = true := hG.1 _ (List.mem_of_getElem? (i := 8) rfl)
theorem w9 {a0 : Array Value} {Z : State} {EL : List (String × Nat)} (hG : oG a0 Z EL) : ((Jvm.Cond.methodLink "java/lang/String" (27 : Nat) ({ cls := "java/lang/String", name := "<init>", desc := "([CIILjava/lang/Void;)V" } : Jvm.MethodName))).before a0 Z = true := hG.1 _ (List.mem_of_getElem? (i := 9) rfl)
theorem w10 {a0 : Array Value} {Z : State} {EL : List (String × Nat)} (hG : oG a0 Z EL) : ((Jvm.Cond.instanceMethod ({ cls := "java/lang/String", name := "<init>", desc := "([CIILjava/lang/Void;)V" } : Jvm.MethodName))).before a0 Z = true := hG.1 _ (List.mem_of_getElem? (i := 10) rfl)
theorem w12 {a0 : Array Value} {Z : State} {EL : List (String × Nat)} (hG : oG a0 Z EL) : ((Jvm.Cond.code ({ cls := "java/lang/String", name := "<init>", desc := "([CIILjava/lang/Void;)V" } : Jvm.MethodName) jdk_42_method_149_code (6 : Nat) (Option.none : Option Jvm.ClassFile.FieldType))).before a0 Z = true := hG.1 _ (List.mem_of_getElem? (i := 12) rfl)
theorem w13 {a0 : Array Value} {Z : State} {EL : List (String × Nat)} (hG : oG a0 Z EL) : ((Jvm.Cond.methodLink "java/lang/String" (1 : Nat) ({ cls := "java/lang/Object", name := "<init>", desc := "()V" } : Jvm.MethodName))).before a0 Z = true := hG.1 _ (List.mem_of_getElem? (i := 13) rfl)
theorem w14 {a0 : Array Value} {Z : State} {EL : List (String × Nat)} (hG : oG a0 Z EL) : ((Jvm.Cond.instanceMethod ({ cls := "java/lang/Object", name := "<init>", desc := "()V" } : Jvm.MethodName))).before a0 Z = true := hG.1 _ (List.mem_of_getElem? (i := 14) rfl)
theorem w15 {a0 : Array Value} {Z : State} {EL : List (String × Nat)} (hG : oG a0 Z EL) : ((Jvm.Cond.code ({ cls := "java/lang/Object", name := "<init>", desc := "()V" } : Jvm.MethodName) object_method_1_code (1 : Nat) (Option.none : Option Jvm.ClassFile.FieldType))).before a0 Z = true := hG.1 _ (List.mem_of_getElem? (i := 15) rfl)
theorem w16 {a0 : Array Value} {Z : State} {EL : List (String × Nat)} (hG : oG a0 Z EL) : ((Jvm.Cond.fieldLink "java/lang/String" (38 : Nat) "java/lang/String" "COMPACT_STRINGS" "Z")).before a0 Z = true := hG.1 _ (List.mem_of_getElem? (i := 16) rfl)
theorem w17 {a0 : Array Value} {Z : State} {EL : List (String × Nat)} (hG : oG a0 Z EL) : ((Jvm.Cond.methodLink "java/lang/String" (177 : Nat) ({ cls := "java/lang/StringUTF16", name := "compress", desc := "([CII)[B" } : Jvm.MethodName))).before a0 Z = true := hG.1 _ (List.mem_of_getElem? (i := 17) rfl)
theorem w18 {a0 : Array Value} {Z : State} {EL : List (String × Nat)} (hG : oG a0 Z EL) : ((Jvm.Cond.static ({ cls := "java/lang/StringUTF16", name := "compress", desc := "([CII)[B" } : Jvm.MethodName))).before a0 Z = true := hG.1 _ (List.mem_of_getElem? (i := 18) rfl)
theorem w19 {a0 : Array Value} {Z : State} {EL : List (String × Nat)} (hG : oG a0 Z EL) : ((Jvm.Cond.initialized "java/lang/StringUTF16")).before a0 Z = true := hG.1 _ (List.mem_of_getElem? (i := 19) rfl)
theorem w20 {a0 : Array Value} {Z : State} {EL : List (String × Nat)} (hG : oG a0 Z EL) : ((Jvm.Cond.code ({ cls := "java/lang/StringUTF16", name := "compress", desc := "([CII)[B" } : Jvm.MethodName) jdk_52_method_16_code (6 : Nat) (Option.some (Jvm.ClassFile.FieldType.array Jvm.ClassFile.FieldType.byte)))).before a0 Z = true := hG.1 _ (List.mem_of_getElem? (i := 20) rfl)
theorem w21 {a0 : Array Value} {Z : State} {EL : List (String × Nat)} (hG : oG a0 Z EL) : ((Jvm.Cond.arrayClass Jvm.ClassFile.FieldType.byte)).before a0 Z = true := hG.1 _ (List.mem_of_getElem? (i := 21) rfl)
theorem w22 {a0 : Array Value} {Z : State} {EL : List (String × Nat)} (hG : oG a0 Z EL) : ((Jvm.Cond.methodLink "java/lang/StringUTF16" (115 : Nat) ({ cls := "java/lang/StringUTF16", name := "compress", desc := "([CI[BII)I" } : Jvm.MethodName))).before a0 Z = true := hG.1 _ (List.mem_of_getElem? (i := 22) rfl)
theorem w23 {a0 : Array Value} {Z : State} {EL : List (String × Nat)} (hG : oG a0 Z EL) : ((Jvm.Cond.static ({ cls := "java/lang/StringUTF16", name := "compress", desc := "([CI[BII)I" } : Jvm.MethodName))).before a0 Z = true := hG.1 _ (List.mem_of_getElem? (i := 23) rfl)
theorem w24 {a0 : Array Value} {Z : State} {EL : List (String × Nat)} (hG : oG a0 Z EL) : ((Jvm.Cond.code ({ cls := "java/lang/StringUTF16", name := "compress", desc := "([CI[BII)I" } : Jvm.MethodName) jdk_52_method_21_code (7 : Nat) (Option.some Jvm.ClassFile.FieldType.int))).before a0 Z = true := hG.1 _ (List.mem_of_getElem? (i := 24) rfl)
theorem w25 {a0 : Array Value} {Z : State} {EL : List (String × Nat)} (hG : oG a0 Z EL) : ((Jvm.Cond.methodLink "java/lang/String" (47 : Nat) ({ cls := "java/lang/StringUTF16", name := "coderFromArrayLen", desc := "([BI)B" } : Jvm.MethodName))).before a0 Z = true := hG.1 _ (List.mem_of_getElem? (i := 25) rfl)
theorem w26 {a0 : Array Value} {Z : State} {EL : List (String × Nat)} (hG : oG a0 Z EL) : ((Jvm.Cond.static ({ cls := "java/lang/StringUTF16", name := "coderFromArrayLen", desc := "([BI)B" } : Jvm.MethodName))).before a0 Z = true := hG.1 _ (List.mem_of_getElem? (i := 26) rfl)
theorem w27 {a0 : Array Value} {Z : State} {EL : List (String × Nat)} (hG : oG a0 Z EL) : ((Jvm.Cond.code ({ cls := "java/lang/StringUTF16", name := "coderFromArrayLen", desc := "([BI)B" } : Jvm.MethodName) jdk_52_method_15_code (2 : Nat) (Option.some Jvm.ClassFile.FieldType.byte))).before a0 Z = true := hG.1 _ (List.mem_of_getElem? (i := 27) rfl)
theorem w28 {a0 : Array Value} {Z : State} {EL : List (String × Nat)} (hG : oG a0 Z EL) : ((Jvm.Cond.fieldLink "java/lang/String" (15 : Nat) "java/lang/String" "coder" "B")).before a0 Z = true := hG.1 _ (List.mem_of_getElem? (i := 28) rfl)
theorem w29 {a0 : Array Value} {Z : State} {EL : List (String × Nat)} (hG : oG a0 Z EL) : ((Jvm.Cond.laysFinal "java/lang/String" "java/lang/String" "coder" "B")).before a0 Z = true := hG.1 _ (List.mem_of_getElem? (i := 29) rfl)
theorem w30 {a0 : Array Value} {Z : State} {EL : List (String × Nat)} (hG : oG a0 Z EL) : ((Jvm.Cond.fieldLink "java/lang/String" (9 : Nat) "java/lang/String" "value" "[B")).before a0 Z = true := hG.1 _ (List.mem_of_getElem? (i := 30) rfl)
theorem w31 {a0 : Array Value} {Z : State} {EL : List (String × Nat)} (hG : oG a0 Z EL) : ((Jvm.Cond.laysFinal "java/lang/String" "java/lang/String" "value" "[B")).before a0 Z = true := hG.1 _ (List.mem_of_getElem? (i := 31) rfl)
theorem w32 {a0 : Array Value} {Z : State} {EL : List (String × Nat)} (hG : oG a0 Z EL) : ((Jvm.Cond.classLink "com/example/meander/meander/cluster/WorkerAddressToStringPinLaw" (14 : Nat) "com/example/meander/meander/cluster/WorkerAddress")).before a0 Z = true := hG.1 _ (List.mem_of_getElem? (i := 32) rfl)
theorem w33 {a0 : Array Value} {Z : State} {EL : List (String × Nat)} (hG : oG a0 Z EL) : ((Jvm.Cond.instantiable "com/example/meander/meander/cluster/WorkerAddress" (2 : Nat))).before a0 Z = true := hG.1 _ (List.mem_of_getElem? (i := 33) rfl)
theorem w34 {a0 : Array Value} {Z : State} {EL : List (String × Nat)} (hG : oG a0 Z EL) : ((Jvm.Cond.initialized "com/example/meander/meander/cluster/WorkerAddress")).before a0 Z = true := hG.1 _ (List.mem_of_getElem? (i := 34) rfl)
theorem w35 {a0 : Array Value} {Z : State} {EL : List (String × Nat)} (hG : oG a0 Z EL) : ((Jvm.Cond.methodLink "com/example/meander/meander/cluster/WorkerAddressToStringPinLaw" (16 : Nat) ({ cls := "com/example/meander/meander/cluster/WorkerAddress", name := "<init>", desc := "(Ljava/lang/String;I)V" } : Jvm.MethodName))).before a0 Z = true := hG.1 _ (List.mem_of_getElem? (i := 35) rfl)
theorem w36 {a0 : Array Value} {Z : State} {EL : List (String × Nat)} (hG : oG a0 Z EL) : ((Jvm.Cond.instanceMethod ({ cls := "com/example/meander/meander/cluster/WorkerAddress", name := "<init>", desc := "(Ljava/lang/String;I)V" } : Jvm.MethodName))).before a0 Z = true := hG.1 _ (List.mem_of_getElem? (i := 36) rfl)
theorem w37 {a0 : Array Value} {Z : State} {EL : List (String × Nat)} (hG : oG a0 Z EL) : ((Jvm.Cond.code ({ cls := "com/example/meander/meander/cluster/WorkerAddress", name := "<init>", desc := "(Ljava/lang/String;I)V" } : Jvm.MethodName) prog_5_method_1_code (3 : Nat) (Option.none : Option Jvm.ClassFile.FieldType))).before a0 Z = true := hG.1 _ (List.mem_of_getElem? (i := 37) rfl)
theorem w38 {a0 : Array Value} {Z : State} {EL : List (String × Nat)} (hG : oG a0 Z EL) : ((Jvm.Cond.methodLink "com/example/meander/meander/cluster/WorkerAddress" (1 : Nat) ({ cls := "java/lang/Record", name := "<init>", desc := "()V" } : Jvm.MethodName))).before a0 Z = true := hG.1 _ (List.mem_of_getElem? (i := 38) rfl)
theorem w39 {a0 : Array Value} {Z : State} {EL : List (String × Nat)} (hG : oG a0 Z EL) : ((Jvm.Cond.instanceMethod ({ cls := "java/lang/Record", name := "<init>", desc := "()V" } : Jvm.MethodName))).before a0 Z = true := hG.1 _ (List.mem_of_getElem? (i := 39) rfl)
theorem w41 {a0 : Array Value} {Z : State} {EL : List (String × Nat)} (hG : oG a0 Z EL) : ((Jvm.Cond.initialized "java/lang/Record")).before a0 Z = true := hG.1 _ (List.mem_of_getElem? (i := 41) rfl)
theorem w42 {a0 : Array Value} {Z : State} {EL : List (String × Nat)} (hG : oG a0 Z EL) : ((Jvm.Cond.code ({ cls := "java/lang/Record", name := "<init>", desc := "()V" } : Jvm.MethodName) jdk_30_method_1_code (1 : Nat) (Option.none : Option Jvm.ClassFile.FieldType))).before a0 Z = true := hG.1 _ (List.mem_of_getElem? (i := 42) rfl)
theorem w43 {a0 : Array Value} {Z : State} {EL : List (String × Nat)} (hG : oG a0 Z EL) : ((Jvm.Cond.methodLink "java/lang/Record" (1 : Nat) ({ cls := "java/lang/Object", name := "<init>", desc := "()V" } : Jvm.MethodName))).before a0 Z = true := hG.1 _ (List.mem_of_getElem? (i := 43) rfl)
theorem w44 {a0 : Array Value} {Z : State} {EL : List (String × Nat)} (hG : oG a0 Z EL) : ((Jvm.Cond.fieldLink "com/example/meander/meander/cluster/WorkerAddress" (7 : Nat) "com/example/meander/meander/cluster/WorkerAddress" "host" "Ljava/lang/String;")).before a0 Z = true := hG.1 _ (List.mem_of_getElem? (i := 44) rfl)
theorem w45 {a0 : Array Value} {Z : State} {EL : List (String × Nat)} (hG : oG a0 Z EL) : ((Jvm.Cond.laysFinal "com/example/meander/meander/cluster/WorkerAddress" "com/example/meander/meander/cluster/WorkerAddress" "host" "Ljava/lang/String;")).before a0 Z = true := hG.1 _ (List.mem_of_getElem? (i := 45) rfl)
theorem w46 {a0 : Array Value} {Z : State} {EL : List (String × Nat)} (hG : oG a0 Z EL) : ((Jvm.Cond.fieldLink "com/example/meander/meander/cluster/WorkerAddress" (13 : Nat) "com/example/meander/meander/cluster/WorkerAddress" "port" "I")).before a0 Z = true := hG.1 _ (List.mem_of_getElem? (i := 46) rfl)
theorem w47 {a0 : Array Value} {Z : State} {EL : List (String × Nat)} (hG : oG a0 Z EL) : ((Jvm.Cond.laysFinal "com/example/meander/meander/cluster/WorkerAddress" "com/example/meander/meander/cluster/WorkerAddress" "port" "I")).before a0 Z = true := hG.1 _ (List.mem_of_getElem? (i := 47) rfl)
theorem w48 {a0 : Array Value} {Z : State} {EL : List (String × Nat)} (hG : oG a0 Z EL) : ((Jvm.Cond.methodLink "com/example/meander/meander/cluster/WorkerAddressToStringPinLaw" (19 : Nat) ({ cls := "com/example/meander/meander/cluster/WorkerAddress", name := "toString", desc := "()Ljava/lang/String;" } : Jvm.MethodName))).before a0 Z = true := hG.1 _ (List.mem_of_getElem? (i := 48) rfl)
theorem w49 {a0 : Array Value} {Z : State} {EL : List (String × Nat)} (hG : oG a0 Z EL) : ((Jvm.Cond.declares ({ cls := "com/example/meander/meander/cluster/WorkerAddress", name := "toString", desc := "()Ljava/lang/String;" } : Jvm.MethodName))).before a0 Z = true := hG.1 _ (List.mem_of_getElem? (i := 49) rfl)
theorem w50 {a0 : Array Value} {Z : State} {EL : List (String × Nat)} (hG : oG a0 Z EL) : ((Jvm.Cond.instanceMethod ({ cls := "com/example/meander/meander/cluster/WorkerAddress", name := "toString", desc := "()Ljava/lang/String;" } : Jvm.MethodName))).before a0 Z = true := hG.1 _ (List.mem_of_getElem? (i := 50) rfl)
theorem w51 {a0 : Array Value} {Z : State} {EL : List (String × Nat)} (hG : oG a0 Z EL) : ((Jvm.Cond.selects "com/example/meander/meander/cluster/WorkerAddress" ({ cls := "com/example/meander/meander/cluster/WorkerAddress", name := "toString", desc := "()Ljava/lang/String;" } : Jvm.MethodName) ({ cls := "com/example/meander/meander/cluster/WorkerAddress", name := "toString", desc := "()Ljava/lang/String;" } : Jvm.MethodName))).before a0 Z = true := hG.1 _ (List.mem_of_getElem? (i := 51) rfl)
theorem w52 {a0 : Array Value} {Z : State} {EL : List (String × Nat)} (hG : oG a0 Z EL) : ((Jvm.Cond.code ({ cls := "com/example/meander/meander/cluster/WorkerAddress", name := "toString", desc := "()Ljava/lang/String;" } : Jvm.MethodName) prog_5_method_3_code (1 : Nat) (Option.some (Jvm.ClassFile.FieldType.object "java/lang/String")))).before a0 Z = true := hG.1 _ (List.mem_of_getElem? (i := 52) rfl)
theorem w53 {a0 : Array Value} {Z : State} {EL : List (String × Nat)} (hG : oG a0 Z EL) : ((Jvm.Cond.classLink "com/example/meander/meander/cluster/WorkerAddress" (17 : Nat) "java/lang/StringBuilder")).before a0 Z = true := hG.1 _ (List.mem_of_getElem? (i := 53) rfl)
theorem w54 {a0 : Array Value} {Z : State} {EL : List (String × Nat)} (hG : oG a0 Z EL) : ((Jvm.Cond.instantiable "java/lang/StringBuilder" (4 : Nat))).before a0 Z = true := hG.1 _ (List.mem_of_getElem? (i := 54) rfl)
theorem w55 {a0 : Array Value} {Z : State} {EL : List (String × Nat)} (hG : oG a0 Z EL) : ((Jvm.Cond.initialized "java/lang/StringBuilder")).before a0 Z = true := hG.1 _ (List.mem_of_getElem? (i := 55) rfl)
theorem w56 {a0 : Array Value} {Z : State} {EL : List (String × Nat)} (hG : oG a0 Z EL) : ((Jvm.Cond.methodLink "com/example/meander/meander/cluster/WorkerAddress" (19 : Nat) ({ cls := "java/lang/StringBuilder", name := "<init>", desc := "()V" } : Jvm.MethodName))).before a0 Z = true := hG.1 _ (List.mem_of_getElem? (i := 56) rfl)
theorem w57 {a0 : Array Value} {Z : State} {EL : List (String × Nat)} (hG : oG a0 Z EL) : ((Jvm.Cond.instanceMethod ({ cls := "java/lang/StringBuilder", name := "<init>", desc := "()V" } : Jvm.MethodName))).before a0 Z = true := hG.1 _ (List.mem_of_getElem? (i := 57) rfl)
theorem w58 {a0 : Array Value} {Z : State} {EL : List (String × Nat)} (hG : oG a0 Z EL) : ((Jvm.Cond.code ({ cls := "java/lang/StringBuilder", name := "<init>", desc := "()V" } : Jvm.MethodName) jdk_67_method_1_code (1 : Nat) (Option.none : Option Jvm.ClassFile.FieldType))).before a0 Z = true := hG.1 _ (List.mem_of_getElem? (i := 58) rfl)
theorem w59 {a0 : Array Value} {Z : State} {EL : List (String × Nat)} (hG : oG a0 Z EL) : ((Jvm.Cond.methodLink "java/lang/StringBuilder" (1 : Nat) ({ cls := "java/lang/AbstractStringBuilder", name := "<init>", desc := "(I)V" } : Jvm.MethodName))).before a0 Z = true := hG.1 _ (List.mem_of_getElem? (i := 59) rfl)
theorem w60 {a0 : Array Value} {Z : State} {EL : List (String × Nat)} (hG : oG a0 Z EL) : ((Jvm.Cond.instanceMethod ({ cls := "java/lang/AbstractStringBuilder", name := "<init>", desc := "(I)V" } : Jvm.MethodName))).before a0 Z = true := hG.1 _ (List.mem_of_getElem? (i := 60) rfl)
theorem w63 {a0 : Array Value} {Z : State} {EL : List (String × Nat)} (hG : oG a0 Z EL) : ((Jvm.Cond.initialized "java/lang/AbstractStringBuilder")).before a0 Z = true := hG.1 _ (List.mem_of_getElem? (i := 63) rfl)
theorem w64 {a0 : Array Value} {Z : State} {EL : List (String × Nat)} (hG : oG a0 Z EL) : ((Jvm.Cond.code ({ cls := "java/lang/AbstractStringBuilder", name := "<init>", desc := "(I)V" } : Jvm.MethodName) jdk_68_method_2_code (2 : Nat) (Option.none : Option Jvm.ClassFile.FieldType))).before a0 Z = true := hG.1 _ (List.mem_of_getElem? (i := 64) rfl)
theorem w65 {a0 : Array Value} {Z : State} {EL : List (String × Nat)} (hG : oG a0 Z EL) : ((Jvm.Cond.methodLink "java/lang/AbstractStringBuilder" (3 : Nat) ({ cls := "java/lang/Object", name := "<init>", desc := "()V" } : Jvm.MethodName))).before a0 Z = true := hG.1 _ (List.mem_of_getElem? (i := 65) rfl)
theorem w66 {a0 : Array Value} {Z : State} {EL : List (String × Nat)} (hG : oG a0 Z EL) : ((Jvm.Cond.fieldLink "java/lang/AbstractStringBuilder" (18 : Nat) "java/lang/String" "COMPACT_STRINGS" "Z")).before a0 Z = true := hG.1 _ (List.mem_of_getElem? (i := 66) rfl)
theorem w67 {a0 : Array Value} {Z : State} {EL : List (String × Nat)} (hG : oG a0 Z EL) : ((Jvm.Cond.fieldLink "java/lang/AbstractStringBuilder" (15 : Nat) "java/lang/AbstractStringBuilder" "value" "[B")).before a0 Z = true := hG.1 _ (List.mem_of_getElem? (i := 67) rfl)
theorem w68 {a0 : Array Value} {Z : State} {EL : List (String × Nat)} (hG : oG a0 Z EL) : ((Jvm.Cond.lays "java/lang/StringBuilder" "java/lang/AbstractStringBuilder" "value" "[B")).before a0 Z = true := hG.1 _ (List.mem_of_getElem? (i := 68) rfl)
theorem w69 {a0 : Array Value} {Z : State} {EL : List (String × Nat)} (hG : oG a0 Z EL) : ((Jvm.Cond.fieldLink "java/lang/AbstractStringBuilder" (22 : Nat) "java/lang/AbstractStringBuilder" "coder" "B")).before a0 Z = true := hG.1 _ (List.mem_of_getElem? (i := 69) rfl)
theorem w70 {a0 : Array Value} {Z : State} {EL : List (String × Nat)} (hG : oG a0 Z EL) : ((Jvm.Cond.lays "java/lang/StringBuilder" "java/lang/AbstractStringBuilder" "coder" "B")).before a0 Z = true := hG.1 _ (List.mem_of_getElem? (i := 70) rfl)
theorem w71 {a0 : Array Value} {Z : State} {EL : List (String × Nat)} (hG : oG a0 Z EL) : ((Jvm.Cond.methodLink "com/example/meander/meander/cluster/WorkerAddress" (22 : Nat) ({ cls := "java/lang/StringBuilder", name := "append", desc := "(Ljava/lang/String;)Ljava/lang/StringBuilder;" } : Jvm.MethodName))).before a0 Z = true := hG.1 _ (List.mem_of_getElem? (i := 71) rfl)
theorem w72 {a0 : Array Value} {Z : State} {EL : List (String × Nat)} (hG : oG a0 Z EL) : ((Jvm.Cond.declares ({ cls := "java/lang/StringBuilder", name := "append", desc := "(Ljava/lang/String;)Ljava/lang/StringBuilder;" } : Jvm.MethodName))).before a0 Z = true := hG.1 _ (List.mem_of_getElem? (i := 72) rfl)
theorem w73 {a0 : Array Value} {Z : State} {EL : List (String × Nat)} (hG : oG a0 Z EL) : ((Jvm.Cond.instanceMethod ({ cls := "java/lang/StringBuilder", name := "append", desc := "(Ljava/lang/String;)Ljava/lang/StringBuilder;" } : Jvm.MethodName))).before a0 Z = true := hG.1 _ (List.mem_of_getElem? (i := 73) rfl)
theorem w74 {a0 : Array Value} {Z : State} {EL : List (String × Nat)} (hG : oG a0 Z EL) : ((Jvm.Cond.selects "java/lang/StringBuilder" ({ cls := "java/lang/StringBuilder", name := "append", desc := "(Ljava/lang/String;)Ljava/lang/StringBuilder;" } : Jvm.MethodName) ({ cls := "java/lang/StringBuilder", name := "append", desc := "(Ljava/lang/String;)Ljava/lang/StringBuilder;" } : Jvm.MethodName))).before a0 Z = true := hG.1 _ (List.mem_of_getElem? (i := 74) rfl)
theorem w75 {a0 : Array Value} {Z : State} {EL : List (String × Nat)} (hG : oG a0 Z EL) : ((Jvm.Cond.code ({ cls := "java/lang/StringBuilder", name := "append", desc := "(Ljava/lang/String;)Ljava/lang/StringBuilder;" } : Jvm.MethodName) jdk_67_method_7_code (2 : Nat) (Option.some (Jvm.ClassFile.FieldType.object "java/lang/StringBuilder")))).before a0 Z = true := hG.1 _ (List.mem_of_getElem? (i := 75) rfl)
theorem w76 {a0 : Array Value} {Z : State} {EL : List (String × Nat)} (hG : oG a0 Z EL) : ((Jvm.Cond.methodLink "java/lang/StringBuilder" (29 : Nat) ({ cls := "java/lang/AbstractStringBuilder", name := "append", desc := "(Ljava/lang/String;)Ljava/lang/AbstractStringBuilder;" } : Jvm.MethodName))).before a0 Z = true := hG.1 _ (List.mem_of_getElem? (i := 76) rfl)
theorem w77 {a0 : Array Value} {Z : State} {EL : List (String × Nat)} (hG : oG a0 Z EL) : ((Jvm.Cond.instanceMethod ({ cls := "java/lang/AbstractStringBuilder", name := "append", desc := "(Ljava/lang/String;)Ljava/lang/AbstractStringBuilder;" } : Jvm.MethodName))).before a0 Z = true := hG.1 _ (List.mem_of_getElem? (i := 77) rfl)
theorem w78 {a0 : Array Value} {Z : State} {EL : List (String × Nat)} (hG : oG a0 Z EL) : ((Jvm.Cond.superclass "java/lang/StringBuilder" "java/lang/AbstractStringBuilder")).before a0 Z = true := hG.1 _ (List.mem_of_getElem? (i := 78) rfl)
theorem w80 {a0 : Array Value} {Z : State} {EL : List (String × Nat)} (hG : oG a0 Z EL) : ((Jvm.Cond.code ({ cls := "java/lang/AbstractStringBuilder", name := "append", desc := "(Ljava/lang/String;)Ljava/lang/AbstractStringBuilder;" } : Jvm.MethodName) jdk_68_method_22_code (3 : Nat) (Option.some (Jvm.ClassFile.FieldType.object "java/lang/AbstractStringBuilder")))).before a0 Z = true := hG.1 _ (List.mem_of_getElem? (i := 80) rfl)
theorem w81 {a0 : Array Value} {Z : State} {EL : List (String × Nat)} (hG : oG a0 Z EL) : ((Jvm.Cond.methodLink "java/lang/AbstractStringBuilder" (32 : Nat) ({ cls := "java/lang/String", name := "length", desc := "()I" } : Jvm.MethodName))).before a0 Z = true := hG.1 _ (List.mem_of_getElem? (i := 81) rfl)
theorem w82 {a0 : Array Value} {Z : State} {EL : List (String × Nat)} (hG : oG a0 Z EL) : ((Jvm.Cond.declares ({ cls := "java/lang/String", name := "length", desc := "()I" } : Jvm.MethodName))).before a0 Z = true := hG.1 _ (List.mem_of_getElem? (i := 82) rfl)
theorem w83 {a0 : Array Value} {Z : State} {EL : List (String × Nat)} (hG : oG a0 Z EL) : ((Jvm.Cond.instanceMethod ({ cls := "java/lang/String", name := "length", desc := "()I" } : Jvm.MethodName))).before a0 Z = true := hG.1 _ (List.mem_of_getElem? (i := 83) rfl)
theorem w84 {a0 : Array Value} {Z : State} {EL : List (String × Nat)} (hG : oG a0 Z EL) : ((Jvm.Cond.selects "java/lang/String" ({ cls := "java/lang/String", name := "length", desc := "()I" } : Jvm.MethodName) ({ cls := "java/lang/String", name := "length", desc := "()I" } : Jvm.MethodName))).before a0 Z = true := hG.1 _ (List.mem_of_getElem? (i := 84) rfl)
theorem w85 {a0 : Array Value} {Z : State} {EL : List (String × Nat)} (hG : oG a0 Z EL) : ((Jvm.Cond.code ({ cls := "java/lang/String", name := "length", desc := "()I" } : Jvm.MethodName) jdk_42_method_54_code (1 : Nat) (Option.some Jvm.ClassFile.FieldType.int))).before a0 Z = true := hG.1 _ (List.mem_of_getElem? (i := 85) rfl)
theorem w86 {a0 : Array Value} {Z : State} {EL : List (String × Nat)} (hG : oG a0 Z EL) : ((Jvm.Cond.methodLink "java/lang/String" (335 : Nat) ({ cls := "java/lang/String", name := "coder", desc := "()B" } : Jvm.MethodName))).before a0 Z = true := hG.1 _ (List.mem_of_getElem? (i := 86) rfl)
theorem w87 {a0 : Array Value} {Z : State} {EL : List (String × Nat)} (hG : oG a0 Z EL) : ((Jvm.Cond.declares ({ cls := "java/lang/String", name := "coder", desc := "()B" } : Jvm.MethodName))).before a0 Z = true := hG.1 _ (List.mem_of_getElem? (i := 87) rfl)
theorem w88 {a0 : Array Value} {Z : State} {EL : List (String × Nat)} (hG : oG a0 Z EL) : ((Jvm.Cond.instanceMethod ({ cls := "java/lang/String", name := "coder", desc := "()B" } : Jvm.MethodName))).before a0 Z = true := hG.1 _ (List.mem_of_getElem? (i := 88) rfl)
theorem w89 {a0 : Array Value} {Z : State} {EL : List (String × Nat)} (hG : oG a0 Z EL) : ((Jvm.Cond.selects "java/lang/String" ({ cls := "java/lang/String", name := "coder", desc := "()B" } : Jvm.MethodName) ({ cls := "java/lang/String", name := "coder", desc := "()B" } : Jvm.MethodName))).before a0 Z = true := hG.1 _ (List.mem_of_getElem? (i := 89) rfl)
theorem w90 {a0 : Array Value} {Z : State} {EL : List (String × Nat)} (hG : oG a0 Z EL) : ((Jvm.Cond.code ({ cls := "java/lang/String", name := "coder", desc := "()B" } : Jvm.MethodName) jdk_42_method_152_code (1 : Nat) (Option.some Jvm.ClassFile.FieldType.byte))).before a0 Z = true := hG.1 _ (List.mem_of_getElem? (i := 90) rfl)
theorem w91 {a0 : Array Value} {Z : State} {EL : List (String × Nat)} (hG : oG a0 Z EL) : ((Jvm.Cond.fieldLink "java/lang/AbstractStringBuilder" (79 : Nat) "java/lang/AbstractStringBuilder" "count" "I")).before a0 Z = true := hG.1 _ (List.mem_of_getElem? (i := 91) rfl)
theorem w92 {a0 : Array Value} {Z : State} {EL : List (String × Nat)} (hG : oG a0 Z EL) : ((Jvm.Cond.lays "java/lang/StringBuilder" "java/lang/AbstractStringBuilder" "count" "I")).before a0 Z = true := hG.1 _ (List.mem_of_getElem? (i := 92) rfl)
theorem w93 {a0 : Array Value} {Z : State} {EL : List (String × Nat)} (hG : oG a0 Z EL) : ((Jvm.Cond.methodLink "java/lang/AbstractStringBuilder" (100 : Nat) ({ cls := "java/lang/AbstractStringBuilder", name := "ensureCapacityInternal", desc := "(I)V" } : Jvm.MethodName))).before a0 Z = true := hG.1 _ (List.mem_of_getElem? (i := 93) rfl)
theorem w94 {a0 : Array Value} {Z : State} {EL : List (String × Nat)} (hG : oG a0 Z EL) : ((Jvm.Cond.instanceMethod ({ cls := "java/lang/AbstractStringBuilder", name := "ensureCapacityInternal", desc := "(I)V" } : Jvm.MethodName))).before a0 Z = true := hG.1 _ (List.mem_of_getElem? (i := 94) rfl)
theorem w95 {a0 : Array Value} {Z : State} {EL : List (String × Nat)} (hG : oG a0 Z EL) : ((Jvm.Cond.privateMethod ({ cls := "java/lang/AbstractStringBuilder", name := "ensureCapacityInternal", desc := "(I)V" } : Jvm.MethodName))).before a0 Z = true := hG.1 _ (List.mem_of_getElem? (i := 95) rfl)
theorem w96 {a0 : Array Value} {Z : State} {EL : List (String × Nat)} (hG : oG a0 Z EL) : ((Jvm.Cond.selects "java/lang/StringBuilder" ({ cls := "java/lang/AbstractStringBuilder", name := "ensureCapacityInternal", desc := "(I)V" } : Jvm.MethodName) ({ cls := "java/lang/AbstractStringBuilder", name := "ensureCapacityInternal", desc := "(I)V" } : Jvm.MethodName))).before a0 Z = true := hG.1 _ (List.mem_of_getElem? (i := 96) rfl)
theorem w97 {a0 : Array Value} {Z : State} {EL : List (String × Nat)} (hG : oG a0 Z EL) : ((Jvm.Cond.code ({ cls := "java/lang/AbstractStringBuilder", name := "ensureCapacityInternal", desc := "(I)V" } : Jvm.MethodName) jdk_68_method_9_code (3 : Nat) (Option.none : Option Jvm.ClassFile.FieldType))).before a0 Z = true := hG.1 _ (List.mem_of_getElem? (i := 97) rfl)
theorem w98 {a0 : Array Value} {Z : State} {EL : List (String × Nat)} (hG : oG a0 Z EL) : ((Jvm.Cond.methodLink "java/lang/AbstractStringBuilder" (208 : Nat) ({ cls := "java/lang/AbstractStringBuilder", name := "putStringAt", desc := "(ILjava/lang/String;)V" } : Jvm.MethodName))).before a0 Z = true := hG.1 _ (List.mem_of_getElem? (i := 98) rfl)
theorem w99 {a0 : Array Value} {Z : State} {EL : List (String × Nat)} (hG : oG a0 Z EL) : ((Jvm.Cond.instanceMethod ({ cls := "java/lang/AbstractStringBuilder", name := "putStringAt", desc := "(ILjava/lang/String;)V" } : Jvm.MethodName))).before a0 Z = true := hG.1 _ (List.mem_of_getElem? (i := 99) rfl)
theorem w100 {a0 : Array Value} {Z : State} {EL : List (String × Nat)} (hG : oG a0 Z EL) : ((Jvm.Cond.privateMethod ({ cls := "java/lang/AbstractStringBuilder", name := "putStringAt", desc := "(ILjava/lang/String;)V" } : Jvm.MethodName))).before a0 Z = true := hG.1 _ (List.mem_of_getElem? (i := 100) rfl)
theorem w101 {a0 : Array Value} {Z : State} {EL : List (String × Nat)} (hG : oG a0 Z EL) : ((Jvm.Cond.selects "java/lang/StringBuilder" ({ cls := "java/lang/AbstractStringBuilder", name := "putStringAt", desc := "(ILjava/lang/String;)V" } : Jvm.MethodName) ({ cls := "java/lang/AbstractStringBuilder", name := "putStringAt", desc := "(ILjava/lang/String;)V" } : Jvm.MethodName))).before a0 Z = true := hG.1 _ (List.mem_of_getElem? (i := 101) rfl)
theorem w102 {a0 : Array Value} {Z : State} {EL : List (String × Nat)} (hG : oG a0 Z EL) : ((Jvm.Cond.code ({ cls := "java/lang/AbstractStringBuilder", name := "putStringAt", desc := "(ILjava/lang/String;)V" } : Jvm.MethodName) jdk_68_method_73_code (3 : Nat) (Option.none : Option Jvm.ClassFile.FieldType))).before a0 Z = true := hG.1 _ (List.mem_of_getElem? (i := 102) rfl)
theorem w103 {a0 : Array Value} {Z : State} {EL : List (String × Nat)} (hG : oG a0 Z EL) : ((Jvm.Cond.methodLink "java/lang/AbstractStringBuilder" (397 : Nat) ({ cls := "java/lang/AbstractStringBuilder", name := "inflateIfNeededFor", desc := "(Ljava/lang/String;)V" } : Jvm.MethodName))).before a0 Z = true := hG.1 _ (List.mem_of_getElem? (i := 103) rfl)
theorem w104 {a0 : Array Value} {Z : State} {EL : List (String × Nat)} (hG : oG a0 Z EL) : ((Jvm.Cond.instanceMethod ({ cls := "java/lang/AbstractStringBuilder", name := "inflateIfNeededFor", desc := "(Ljava/lang/String;)V" } : Jvm.MethodName))).before a0 Z = true := hG.1 _ (List.mem_of_getElem? (i := 104) rfl)
theorem w105 {a0 : Array Value} {Z : State} {EL : List (String × Nat)} (hG : oG a0 Z EL) : ((Jvm.Cond.privateMethod ({ cls := "java/lang/AbstractStringBuilder", name := "inflateIfNeededFor", desc := "(Ljava/lang/String;)V" } : Jvm.MethodName))).before a0 Z = true := hG.1 _ (List.mem_of_getElem? (i := 105) rfl)
theorem w106 {a0 : Array Value} {Z : State} {EL : List (String × Nat)} (hG : oG a0 Z EL) : ((Jvm.Cond.selects "java/lang/StringBuilder" ({ cls := "java/lang/AbstractStringBuilder", name := "inflateIfNeededFor", desc := "(Ljava/lang/String;)V" } : Jvm.MethodName) ({ cls := "java/lang/AbstractStringBuilder", name := "inflateIfNeededFor", desc := "(Ljava/lang/String;)V" } : Jvm.MethodName))).before a0 Z = true := hG.1 _ (List.mem_of_getElem? (i := 106) rfl)
theorem w107 {a0 : Array Value} {Z : State} {EL : List (String × Nat)} (hG : oG a0 Z EL) : ((Jvm.Cond.code ({ cls := "java/lang/AbstractStringBuilder", name := "inflateIfNeededFor", desc := "(Ljava/lang/String;)V" } : Jvm.MethodName) jdk_68_method_71_code (2 : Nat) (Option.none : Option Jvm.ClassFile.FieldType))).before a0 Z = true := hG.1 _ (List.mem_of_getElem? (i := 107) rfl)
theorem w108 {a0 : Array Value} {Z : State} {EL : List (String × Nat)} (hG : oG a0 Z EL) : ((Jvm.Cond.methodLink "java/lang/AbstractStringBuilder" (40 : Nat) ({ cls := "java/lang/String", name := "coder", desc := "()B" } : Jvm.MethodName))).before a0 Z = true := hG.1 _ (List.mem_of_getElem? (i := 108) rfl)
theorem w109 {a0 : Array Value} {Z : State} {EL : List (String × Nat)} (hG : oG a0 Z EL) : ((Jvm.Cond.methodLink "java/lang/AbstractStringBuilder" (399 : Nat) ({ cls := "java/lang/String", name := "getBytes", desc := "([BIB)V" } : Jvm.MethodName))).before a0 Z = true := hG.1 _ (List.mem_of_getElem? (i := 109) rfl)
theorem w110 {a0 : Array Value} {Z : State} {EL : List (String × Nat)} (hG : oG a0 Z EL) : ((Jvm.Cond.declares ({ cls := "java/lang/String", name := "getBytes", desc := "([BIB)V" } : Jvm.MethodName))).before a0 Z = true := hG.1 _ (List.mem_of_getElem? (i := 110) rfl)
theorem w111 {a0 : Array Value} {Z : State} {EL : List (String × Nat)} (hG : oG a0 Z EL) : ((Jvm.Cond.instanceMethod ({ cls := "java/lang/String", name := "getBytes", desc := "([BIB)V" } : Jvm.MethodName))).before a0 Z = true := hG.1 _ (List.mem_of_getElem? (i := 111) rfl)
theorem w112 {a0 : Array Value} {Z : State} {EL : List (String × Nat)} (hG : oG a0 Z EL) : ((Jvm.Cond.selects "java/lang/String" ({ cls := "java/lang/String", name := "getBytes", desc := "([BIB)V" } : Jvm.MethodName) ({ cls := "java/lang/String", name := "getBytes", desc := "([BIB)V" } : Jvm.MethodName))).before a0 Z = true := hG.1 _ (List.mem_of_getElem? (i := 112) rfl)
theorem w113 {a0 : Array Value} {Z : State} {EL : List (String × Nat)} (hG : oG a0 Z EL) : ((Jvm.Cond.code ({ cls := "java/lang/String", name := "getBytes", desc := "([BIB)V" } : Jvm.MethodName) jdk_42_method_147_code (4 : Nat) (Option.none : Option Jvm.ClassFile.FieldType))).before a0 Z = true := hG.1 _ (List.mem_of_getElem? (i := 113) rfl)
theorem w114 {a0 : Array Value} {Z : State} {EL : List (String × Nat)} (hG : oG a0 Z EL) : ((Jvm.Cond.methodLink "java/lang/String" (212 : Nat) ({ cls := "java/lang/System", name := "arraycopy", desc := "(Ljava/lang/Object;ILjava/lang/Object;II)V" } : Jvm.MethodName))).before a0 Z = true := hG.1 _ (List.mem_of_getElem? (i := 114) rfl)
theorem w115 {a0 : Array Value} {Z : State} {EL : List (String × Nat)} (hG : oG a0 Z EL) : ((Jvm.Cond.static ({ cls := "java/lang/System", name := "arraycopy", desc := "(Ljava/lang/Object;ILjava/lang/Object;II)V" } : Jvm.MethodName))).before a0 Z = true := hG.1 _ (List.mem_of_getElem? (i := 115) rfl)
theorem w116 {a0 : Array Value} {Z : State} {EL : List (String × Nat)} (hG : oG a0 Z EL) : ((Jvm.Cond.initialized "java/lang/System")).before a0 Z = true := hG.1 _ (List.mem_of_getElem? (i := 116) rfl)
theorem w117 {a0 : Array Value} {Z : State} {EL : List (String × Nat)} (hG : oG a0 Z EL) : ((Jvm.Cond.native ({ cls := "java/lang/System", name := "arraycopy", desc := "(Ljava/lang/Object;ILjava/lang/Object;II)V" } : Jvm.MethodName))).before a0 Z = true := hG.1 _ (List.mem_of_getElem? (i := 117) rfl)
theorem w118 {a0 : Array Value} {Z : State} {EL : List (String × Nat)} (hG : oG a0 Z EL) : ((Jvm.Cond.stringLink "com/example/meander/meander/cluster/WorkerAddress" (76 : Nat) ":")).before a0 Z = true := hG.1 _ (List.mem_of_getElem? (i := 118) rfl)
theorem w119 {a0 : Array Value} {Z : State} {EL : List (String × Nat)} (hG : oG a0 Z EL) : ((Jvm.Cond.soleField "java/lang/String" "value")).before a0 Z = true := hG.1 _ (List.mem_of_getElem? (i := 119) rfl)
theorem w120 {a0 : Array Value} {Z : State} {EL : List (String × Nat)} (hG : oG a0 Z EL) : ((Jvm.Cond.soleField "java/lang/String" "coder")).before a0 Z = true := hG.1 _ (List.mem_of_getElem? (i := 120) rfl)
theorem w121 {a0 : Array Value} {Z : State} {EL : List (String × Nat)} (hG : oG a0 Z EL) : ((Jvm.Cond.methodLink "com/example/meander/meander/cluster/WorkerAddress" (78 : Nat) ({ cls := "java/lang/StringBuilder", name := "append", desc := "(I)Ljava/lang/StringBuilder;" } : Jvm.MethodName))).before a0 Z = true := hG.1 _ (List.mem_of_getElem? (i := 121) rfl)
theorem w122 {a0 : Array Value} {Z : State} {EL : List (String × Nat)} (hG : oG a0 Z EL) : ((Jvm.Cond.declares ({ cls := "java/lang/StringBuilder", name := "append", desc := "(I)Ljava/lang/StringBuilder;" } : Jvm.MethodName))).before a0 Z = true := hG.1 _ (List.mem_of_getElem? (i := 122) rfl)
theorem w123 {a0 : Array Value} {Z : State} {EL : List (String × Nat)} (hG : oG a0 Z EL) : ((Jvm.Cond.instanceMethod ({ cls := "java/lang/StringBuilder", name := "append", desc := "(I)Ljava/lang/StringBuilder;" } : Jvm.MethodName))).before a0 Z = true := hG.1 _ (List.mem_of_getElem? (i := 123) rfl)
theorem w124 {a0 : Array Value} {Z : State} {EL : List (String × Nat)} (hG : oG a0 Z EL) : ((Jvm.Cond.selects "java/lang/StringBuilder" ({ cls := "java/lang/StringBuilder", name := "append", desc := "(I)Ljava/lang/StringBuilder;" } : Jvm.MethodName) ({ cls := "java/lang/StringBuilder", name := "append", desc := "(I)Ljava/lang/StringBuilder;" } : Jvm.MethodName))).before a0 Z = true := hG.1 _ (List.mem_of_getElem? (i := 124) rfl)
theorem w125 {a0 : Array Value} {Z : State} {EL : List (String × Nat)} (hG : oG a0 Z EL) : ((Jvm.Cond.code ({ cls := "java/lang/StringBuilder", name := "append", desc := "(I)Ljava/lang/StringBuilder;" } : Jvm.MethodName) jdk_67_method_15_code (2 : Nat) (Option.some (Jvm.ClassFile.FieldType.object "java/lang/StringBuilder")))).before a0 Z = true := hG.1 _ (List.mem_of_getElem? (i := 125) rfl)
theorem w126 {a0 : Array Value} {Z : State} {EL : List (String × Nat)} (hG : oG a0 Z EL) : ((Jvm.Cond.methodLink "java/lang/StringBuilder" (53 : Nat) ({ cls := "java/lang/AbstractStringBuilder", name := "append", desc := "(I)Ljava/lang/AbstractStringBuilder;" } : Jvm.MethodName))).before a0 Z = true := hG.1 _ (List.mem_of_getElem? (i := 126) rfl)
theorem w127 {a0 : Array Value} {Z : State} {EL : List (String × Nat)} (hG : oG a0 Z EL) : ((Jvm.Cond.instanceMethod ({ cls := "java/lang/AbstractStringBuilder", name := "append", desc := "(I)Ljava/lang/AbstractStringBuilder;" } : Jvm.MethodName))).before a0 Z = true := hG.1 _ (List.mem_of_getElem? (i := 127) rfl)
theorem w129 {a0 : Array Value} {Z : State} {EL : List (String × Nat)} (hG : oG a0 Z EL) : ((Jvm.Cond.code ({ cls := "java/lang/AbstractStringBuilder", name := "append", desc := "(I)Ljava/lang/AbstractStringBuilder;" } : Jvm.MethodName) jdk_68_method_32_code (4 : Nat) (Option.some (Jvm.ClassFile.FieldType.object "java/lang/AbstractStringBuilder")))).before a0 Z = true := hG.1 _ (List.mem_of_getElem? (i := 129) rfl)
theorem w130 {a0 : Array Value} {Z : State} {EL : List (String × Nat)} (hG : oG a0 Z EL) : ((Jvm.Cond.methodLink "java/lang/AbstractStringBuilder" (245 : Nat) ({ cls := "java/lang/Integer", name := "stringSize", desc := "(I)I" } : Jvm.MethodName))).before a0 Z = true := hG.1 _ (List.mem_of_getElem? (i := 130) rfl)
theorem w131 {a0 : Array Value} {Z : State} {EL : List (String × Nat)} (hG : oG a0 Z EL) : ((Jvm.Cond.static ({ cls := "java/lang/Integer", name := "stringSize", desc := "(I)I" } : Jvm.MethodName))).before a0 Z = true := hG.1 _ (List.mem_of_getElem? (i := 131) rfl)
theorem w132 {a0 : Array Value} {Z : State} {EL : List (String × Nat)} (hG : oG a0 Z EL) : ((Jvm.Cond.initialized "java/lang/Integer")).before a0 Z = true := hG.1 _ (List.mem_of_getElem? (i := 132) rfl)
theorem w133 {a0 : Array Value} {Z : State} {EL : List (String × Nat)} (hG : oG a0 Z EL) : ((Jvm.Cond.code ({ cls := "java/lang/Integer", name := "stringSize", desc := "(I)I" } : Jvm.MethodName) jdk_33_method_13_code (4 : Nat) (Option.some Jvm.ClassFile.FieldType.int))).before a0 Z = true := hG.1 _ (List.mem_of_getElem? (i := 133) rfl)
theorem w134 {a0 : Array Value} {Z : State} {EL : List (String × Nat)} (hG : oG a0 Z EL) : ((Jvm.Cond.methodLink "java/lang/AbstractStringBuilder" (83 : Nat) ({ cls := "java/lang/AbstractStringBuilder", name := "isLatin1", desc := "()Z" } : Jvm.MethodName))).before a0 Z = true := hG.1 _ (List.mem_of_getElem? (i := 134) rfl)
theorem w135 {a0 : Array Value} {Z : State} {EL : List (String × Nat)} (hG : oG a0 Z EL) : ((Jvm.Cond.declares ({ cls := "java/lang/AbstractStringBuilder", name := "isLatin1", desc := "()Z" } : Jvm.MethodName))).before a0 Z = true := hG.1 _ (List.mem_of_getElem? (i := 135) rfl)
theorem w136 {a0 : Array Value} {Z : State} {EL : List (String × Nat)} (hG : oG a0 Z EL) : ((Jvm.Cond.instanceMethod ({ cls := "java/lang/AbstractStringBuilder", name := "isLatin1", desc := "()Z" } : Jvm.MethodName))).before a0 Z = true := hG.1 _ (List.mem_of_getElem? (i := 136) rfl)
theorem w137 {a0 : Array Value} {Z : State} {EL : List (String × Nat)} (hG : oG a0 Z EL) : ((Jvm.Cond.selects "java/lang/StringBuilder" ({ cls := "java/lang/AbstractStringBuilder", name := "isLatin1", desc := "()Z" } : Jvm.MethodName) ({ cls := "java/lang/AbstractStringBuilder", name := "isLatin1", desc := "()Z" } : Jvm.MethodName))).before a0 Z = true := hG.1 _ (List.mem_of_getElem? (i := 137) rfl)
theorem w138 {a0 : Array Value} {Z : State} {EL : List (String × Nat)} (hG : oG a0 Z EL) : ((Jvm.Cond.code ({ cls := "java/lang/AbstractStringBuilder", name := "isLatin1", desc := "()Z" } : Jvm.MethodName) jdk_68_method_68_code (1 : Nat) (Option.some Jvm.ClassFile.FieldType.boolean))).before a0 Z = true := hG.1 _ (List.mem_of_getElem? (i := 138) rfl)
theorem w139 {a0 : Array Value} {Z : State} {EL : List (String × Nat)} (hG : oG a0 Z EL) : ((Jvm.Cond.methodLink "java/lang/AbstractStringBuilder" (248 : Nat) ({ cls := "java/lang/Integer", name := "getChars", desc := "(II[B)I" } : Jvm.MethodName))).before a0 Z = true := hG.1 _ (List.mem_of_getElem? (i := 139) rfl)
theorem w140 {a0 : Array Value} {Z : State} {EL : List (String × Nat)} (hG : oG a0 Z EL) : ((Jvm.Cond.static ({ cls := "java/lang/Integer", name := "getChars", desc := "(II[B)I" } : Jvm.MethodName))).before a0 Z = true := hG.1 _ (List.mem_of_getElem? (i := 140) rfl)
theorem w141 {a0 : Array Value} {Z : State} {EL : List (String × Nat)} (hG : oG a0 Z EL) : ((Jvm.Cond.code ({ cls := "java/lang/Integer", name := "getChars", desc := "(II[B)I" } : Jvm.MethodName) jdk_33_method_12_code (7 : Nat) (Option.some Jvm.ClassFile.FieldType.int))).before a0 Z = true := hG.1 _ (List.mem_of_getElem? (i := 141) rfl)
theorem w142 {a0 : Array Value} {Z : State} {EL : List (String × Nat)} (hG : oG a0 Z EL) : ((Jvm.Cond.fieldLink "java/lang/Integer" (83 : Nat) "java/lang/Integer" "DigitOnes" "[B")).before a0 Z = true := hG.1 _ (List.mem_of_getElem? (i := 142) rfl)
theorem w143 {a0 : Array Value} {Z : State} {EL : List (String × Nat)} (hG : oG a0 Z EL) : ((Jvm.Cond.methodLink "com/example/meander/meander/cluster/WorkerAddress" (28 : Nat) ({ cls := "java/lang/StringBuilder", name := "toString", desc := "()Ljava/lang/String;" } : Jvm.MethodName))).before a0 Z = true := hG.1 _ (List.mem_of_getElem? (i := 143) rfl)
theorem w144 {a0 : Array Value} {Z : State} {EL : List (String × Nat)} (hG : oG a0 Z EL) : ((Jvm.Cond.declares ({ cls := "java/lang/StringBuilder", name := "toString", desc := "()Ljava/lang/String;" } : Jvm.MethodName))).before a0 Z = true := hG.1 _ (List.mem_of_getElem? (i := 144) rfl)
theorem w145 {a0 : Array Value} {Z : State} {EL : List (String × Nat)} (hG : oG a0 Z EL) : ((Jvm.Cond.instanceMethod ({ cls := "java/lang/StringBuilder", name := "toString", desc := "()Ljava/lang/String;" } : Jvm.MethodName))).before a0 Z = true := hG.1 _ (List.mem_of_getElem? (i := 145) rfl)
theorem w146 {a0 : Array Value} {Z : State} {EL : List (String × Nat)} (hG : oG a0 Z EL) : ((Jvm.Cond.selects "java/lang/StringBuilder" ({ cls := "java/lang/StringBuilder", name := "toString", desc := "()Ljava/lang/String;" } : Jvm.MethodName) ({ cls := "java/lang/StringBuilder", name := "toString", desc := "()Ljava/lang/String;" } : Jvm.MethodName))).before a0 Z = true := hG.1 _ (List.mem_of_getElem? (i := 146) rfl)
theorem w147 {a0 : Array Value} {Z : State} {EL : List (String × Nat)} (hG : oG a0 Z EL) : ((Jvm.Cond.code ({ cls := "java/lang/StringBuilder", name := "toString", desc := "()Ljava/lang/String;" } : Jvm.MethodName) jdk_67_method_42_code (1 : Nat) (Option.some (Jvm.ClassFile.FieldType.object "java/lang/String")))).before a0 Z = true := hG.1 _ (List.mem_of_getElem? (i := 147) rfl)
theorem w148 {a0 : Array Value} {Z : State} {EL : List (String × Nat)} (hG : oG a0 Z EL) : ((Jvm.Cond.classLink "java/lang/StringBuilder" (18 : Nat) "java/lang/String")).before a0 Z = true := hG.1 _ (List.mem_of_getElem? (i := 148) rfl)
theorem w149 {a0 : Array Value} {Z : State} {EL : List (String × Nat)} (hG : oG a0 Z EL) : ((Jvm.Cond.methodLink "java/lang/StringBuilder" (137 : Nat) ({ cls := "java/lang/String", name := "<init>", desc := "(Ljava/lang/StringBuilder;)V" } : Jvm.MethodName))).before a0 Z = true := hG.1 _ (List.mem_of_getElem? (i := 149) rfl)
theorem w150 {a0 : Array Value} {Z : State} {EL : List (String × Nat)} (hG : oG a0 Z EL) : ((Jvm.Cond.instanceMethod ({ cls := "java/lang/String", name := "<init>", desc := "(Ljava/lang/StringBuilder;)V" } : Jvm.MethodName))).before a0 Z = true := hG.1 _ (List.mem_of_getElem? (i := 150) rfl)
theorem w151 {a0 : Array Value} {Z : State} {EL : List (String × Nat)} (hG : oG a0 Z EL) : ((Jvm.Cond.code ({ cls := "java/lang/String", name := "<init>", desc := "(Ljava/lang/StringBuilder;)V" } : Jvm.MethodName) jdk_42_method_53_code (2 : Nat) (Option.none : Option Jvm.ClassFile.FieldType))).before a0 Z = true := hG.1 _ (List.mem_of_getElem? (i := 151) rfl)
theorem w152 {a0 : Array Value} {Z : State} {EL : List (String × Nat)} (hG : oG a0 Z EL) : ((Jvm.Cond.methodLink "java/lang/String" (489 : Nat) ({ cls := "java/lang/String", name := "<init>", desc := "(Ljava/lang/AbstractStringBuilder;Ljava/lang/Void;)V" } : Jvm.MethodName))).before a0 Z = true := hG.1 _ (List.mem_of_getElem? (i := 152) rfl)
theorem w153 {a0 : Array Value} {Z : State} {EL : List (String × Nat)} (hG : oG a0 Z EL) : ((Jvm.Cond.instanceMethod ({ cls := "java/lang/String", name := "<init>", desc := "(Ljava/lang/AbstractStringBuilder;Ljava/lang/Void;)V" } : Jvm.MethodName))).before a0 Z = true := hG.1 _ (List.mem_of_getElem? (i := 153) rfl)
theorem w154 {a0 : Array Value} {Z : State} {EL : List (String × Nat)} (hG : oG a0 Z EL) : ((Jvm.Cond.code ({ cls := "java/lang/String", name := "<init>", desc := "(Ljava/lang/AbstractStringBuilder;Ljava/lang/Void;)V" } : Jvm.MethodName) jdk_42_method_150_code (5 : Nat) (Option.none : Option Jvm.ClassFile.FieldType))).before a0 Z = true := hG.1 _ (List.mem_of_getElem? (i := 154) rfl)
theorem w155 {a0 : Array Value} {Z : State} {EL : List (String × Nat)} (hG : oG a0 Z EL) : ((Jvm.Cond.methodLink "java/lang/String" (552 : Nat) ({ cls := "java/lang/AbstractStringBuilder", name := "getValue", desc := "()[B" } : Jvm.MethodName))).before a0 Z = true := hG.1 _ (List.mem_of_getElem? (i := 155) rfl)
theorem w156 {a0 : Array Value} {Z : State} {EL : List (String × Nat)} (hG : oG a0 Z EL) : ((Jvm.Cond.declares ({ cls := "java/lang/AbstractStringBuilder", name := "getValue", desc := "()[B" } : Jvm.MethodName))).before a0 Z = true := hG.1 _ (List.mem_of_getElem? (i := 156) rfl)
theorem w157 {a0 : Array Value} {Z : State} {EL : List (String × Nat)} (hG : oG a0 Z EL) : ((Jvm.Cond.instanceMethod ({ cls := "java/lang/AbstractStringBuilder", name := "getValue", desc := "()[B" } : Jvm.MethodName))).before a0 Z = true := hG.1 _ (List.mem_of_getElem? (i := 157) rfl)
theorem w158 {a0 : Array Value} {Z : State} {EL : List (String × Nat)} (hG : oG a0 Z EL) : ((Jvm.Cond.selects "java/lang/StringBuilder" ({ cls := "java/lang/AbstractStringBuilder", name := "getValue", desc := "()[B" } : Jvm.MethodName) ({ cls := "java/lang/AbstractStringBuilder", name := "getValue", desc := "()[B" } : Jvm.MethodName))).before a0 Z = true := hG.1 _ (List.mem_of_getElem? (i := 158) rfl)
theorem w159 {a0 : Array Value} {Z : State} {EL : List (String × Nat)} (hG : oG a0 Z EL) : ((Jvm.Cond.code ({ cls := "java/lang/AbstractStringBuilder", name := "getValue", desc := "()[B" } : Jvm.MethodName) jdk_68_method_64_code (1 : Nat) (Option.some (Jvm.ClassFile.FieldType.array Jvm.ClassFile.FieldType.byte)))).before a0 Z = true := hG.1 _ (List.mem_of_getElem? (i := 159) rfl)
theorem w160 {a0 : Array Value} {Z : State} {EL : List (String × Nat)} (hG : oG a0 Z EL) : ((Jvm.Cond.methodLink "java/lang/String" (549 : Nat) ({ cls := "java/lang/AbstractStringBuilder", name := "length", desc := "()I" } : Jvm.MethodName))).before a0 Z = true := hG.1 _ (List.mem_of_getElem? (i := 160) rfl)
theorem w161 {a0 : Array Value} {Z : State} {EL : List (String × Nat)} (hG : oG a0 Z EL) : ((Jvm.Cond.declares ({ cls := "java/lang/AbstractStringBuilder", name := "length", desc := "()I" } : Jvm.MethodName))).before a0 Z = true := hG.1 _ (List.mem_of_getElem? (i := 161) rfl)
theorem w162 {a0 : Array Value} {Z : State} {EL : List (String × Nat)} (hG : oG a0 Z EL) : ((Jvm.Cond.instanceMethod ({ cls := "java/lang/AbstractStringBuilder", name := "length", desc := "()I" } : Jvm.MethodName))).before a0 Z = true := hG.1 _ (List.mem_of_getElem? (i := 162) rfl)
theorem w163 {a0 : Array Value} {Z : State} {EL : List (String × Nat)} (hG : oG a0 Z EL) : ((Jvm.Cond.selects "java/lang/StringBuilder" ({ cls := "java/lang/AbstractStringBuilder", name := "length", desc := "()I" } : Jvm.MethodName) ({ cls := "java/lang/StringBuilder", name := "length", desc := "()I" } : Jvm.MethodName))).before a0 Z = true := hG.1 _ (List.mem_of_getElem? (i := 163) rfl)
theorem w164 {a0 : Array Value} {Z : State} {EL : List (String × Nat)} (hG : oG a0 Z EL) : ((Jvm.Cond.instanceMethod ({ cls := "java/lang/StringBuilder", name := "length", desc := "()I" } : Jvm.MethodName))).before a0 Z = true := hG.1 _ (List.mem_of_getElem? (i := 164) rfl)
theorem w165 {a0 : Array Value} {Z : State} {EL : List (String × Nat)} (hG : oG a0 Z EL) : ((Jvm.Cond.code ({ cls := "java/lang/StringBuilder", name := "length", desc := "()I" } : Jvm.MethodName) jdk_67_method_93_code (1 : Nat) (Option.some Jvm.ClassFile.FieldType.int))).before a0 Z = true := hG.1 _ (List.mem_of_getElem? (i := 165) rfl)
theorem w166 {a0 : Array Value} {Z : State} {EL : List (String × Nat)} (hG : oG a0 Z EL) : ((Jvm.Cond.methodLink "java/lang/StringBuilder" (343 : Nat) ({ cls := "java/lang/AbstractStringBuilder", name := "length", desc := "()I" } : Jvm.MethodName))).before a0 Z = true := hG.1 _ (List.mem_of_getElem? (i := 166) rfl)
theorem w167 {a0 : Array Value} {Z : State} {EL : List (String × Nat)} (hG : oG a0 Z EL) : ((Jvm.Cond.code ({ cls := "java/lang/AbstractStringBuilder", name := "length", desc := "()I" } : Jvm.MethodName) jdk_68_method_6_code (1 : Nat) (Option.some Jvm.ClassFile.FieldType.int))).before a0 Z = true := hG.1 _ (List.mem_of_getElem? (i := 167) rfl)
theorem w168 {a0 : Array Value} {Z : State} {EL : List (String × Nat)} (hG : oG a0 Z EL) : ((Jvm.Cond.methodLink "java/lang/String" (1047 : Nat) ({ cls := "java/lang/AbstractStringBuilder", name := "isLatin1", desc := "()Z" } : Jvm.MethodName))).before a0 Z = true := hG.1 _ (List.mem_of_getElem? (i := 168) rfl)
theorem w169 {a0 : Array Value} {Z : State} {EL : List (String × Nat)} (hG : oG a0 Z EL) : ((Jvm.Cond.methodLink "java/lang/String" (54 : Nat) ({ cls := "java/util/Arrays", name := "copyOfRange", desc := "([BII)[B" } : Jvm.MethodName))).before a0 Z = true := hG.1 _ (List.mem_of_getElem? (i := 169) rfl)
theorem w170 {a0 : Array Value} {Z : State} {EL : List (String × Nat)} (hG : oG a0 Z EL) : ((Jvm.Cond.static ({ cls := "java/util/Arrays", name := "copyOfRange", desc := "([BII)[B" } : Jvm.MethodName))).before a0 Z = true := hG.1 _ (List.mem_of_getElem? (i := 170) rfl)
theorem w171 {a0 : Array Value} {Z : State} {EL : List (String × Nat)} (hG : oG a0 Z EL) : ((Jvm.Cond.initialized "java/util/Arrays")).before a0 Z = true := hG.1 _ (List.mem_of_getElem? (i := 171) rfl)
theorem w172 {a0 : Array Value} {Z : State} {EL : List (String × Nat)} (hG : oG a0 Z EL) : ((Jvm.Cond.code ({ cls := "java/util/Arrays", name := "copyOfRange", desc := "([BII)[B" } : Jvm.MethodName) jdk_65_method_132_code (3 : Nat) (Option.some (Jvm.ClassFile.FieldType.array Jvm.ClassFile.FieldType.byte)))).before a0 Z = true := hG.1 _ (List.mem_of_getElem? (i := 172) rfl)
theorem w173 {a0 : Array Value} {Z : State} {EL : List (String × Nat)} (hG : oG a0 Z EL) : ((Jvm.Cond.methodLink "java/util/Arrays" (339 : Nat) ({ cls := "java/util/Arrays", name := "copyOfRangeByte", desc := "([BII)[B" } : Jvm.MethodName))).before a0 Z = true := hG.1 _ (List.mem_of_getElem? (i := 173) rfl)
theorem w174 {a0 : Array Value} {Z : State} {EL : List (String × Nat)} (hG : oG a0 Z EL) : ((Jvm.Cond.static ({ cls := "java/util/Arrays", name := "copyOfRangeByte", desc := "([BII)[B" } : Jvm.MethodName))).before a0 Z = true := hG.1 _ (List.mem_of_getElem? (i := 174) rfl)
theorem w175 {a0 : Array Value} {Z : State} {EL : List (String × Nat)} (hG : oG a0 Z EL) : ((Jvm.Cond.code ({ cls := "java/util/Arrays", name := "copyOfRangeByte", desc := "([BII)[B" } : Jvm.MethodName) jdk_65_method_133_code (5 : Nat) (Option.some (Jvm.ClassFile.FieldType.array Jvm.ClassFile.FieldType.byte)))).before a0 Z = true := hG.1 _ (List.mem_of_getElem? (i := 175) rfl)
theorem w176 {a0 : Array Value} {Z : State} {EL : List (String × Nat)} (hG : oG a0 Z EL) : ((Jvm.Cond.methodLink "java/util/Arrays" (343 : Nat) ({ cls := "java/util/Arrays", name := "checkLength", desc := "(II)V" } : Jvm.MethodName))).before a0 Z = true := hG.1 _ (List.mem_of_getElem? (i := 176) rfl)
theorem w177 {a0 : Array Value} {Z : State} {EL : List (String × Nat)} (hG : oG a0 Z EL) : ((Jvm.Cond.static ({ cls := "java/util/Arrays", name := "checkLength", desc := "(II)V" } : Jvm.MethodName))).before a0 Z = true := hG.1 _ (List.mem_of_getElem? (i := 177) rfl)
theorem w178 {a0 : Array Value} {Z : State} {EL : List (String × Nat)} (hG : oG a0 Z EL) : ((Jvm.Cond.code ({ cls := "java/util/Arrays", name := "checkLength", desc := "(II)V" } : Jvm.MethodName) jdk_65_method_131_code (2 : Nat) (Option.none : Option Jvm.ClassFile.FieldType))).before a0 Z = true := hG.1 _ (List.mem_of_getElem? (i := 178) rfl)
theorem w179 {a0 : Array Value} {Z : State} {EL : List (String × Nat)} (hG : oG a0 Z EL) : ((Jvm.Cond.methodLink "java/util/Arrays" (304 : Nat) ({ cls := "java/lang/Math", name := "min", desc := "(II)I" } : Jvm.MethodName))).before a0 Z = true := hG.1 _ (List.mem_of_getElem? (i := 179) rfl)
theorem w180 {a0 : Array Value} {Z : State} {EL : List (String × Nat)} (hG : oG a0 Z EL) : ((Jvm.Cond.static ({ cls := "java/lang/Math", name := "min", desc := "(II)I" } : Jvm.MethodName))).before a0 Z = true := hG.1 _ (List.mem_of_getElem? (i := 180) rfl)
theorem w181 {a0 : Array Value} {Z : State} {EL : List (String × Nat)} (hG : oG a0 Z EL) : ((Jvm.Cond.initialized "java/lang/Math")).before a0 Z = true := hG.1 _ (List.mem_of_getElem? (i := 181) rfl)
theorem w182 {a0 : Array Value} {Z : State} {EL : List (String × Nat)} (hG : oG a0 Z EL) : ((Jvm.Cond.code ({ cls := "java/lang/Math", name := "min", desc := "(II)I" } : Jvm.MethodName) jdk_29_method_69_code (2 : Nat) (Option.some Jvm.ClassFile.FieldType.int))).before a0 Z = true := hG.1 _ (List.mem_of_getElem? (i := 182) rfl)
theorem w183 {a0 : Array Value} {Z : State} {EL : List (String × Nat)} (hG : oG a0 Z EL) : ((Jvm.Cond.methodLink "java/util/Arrays" (150 : Nat) ({ cls := "java/lang/System", name := "arraycopy", desc := "(Ljava/lang/Object;ILjava/lang/Object;II)V" } : Jvm.MethodName))).before a0 Z = true := hG.1 _ (List.mem_of_getElem? (i := 183) rfl)
theorem w184 {a0 : Array Value} {Z : State} {EL : List (String × Nat)} (hG : oG a0 Z EL) : ((Jvm.Cond.methodLink "com/example/meander/meander/cluster/WorkerAddressToStringPinLaw" (23 : Nat) ({ cls := "java/lang/String", name := "length", desc := "()I" } : Jvm.MethodName))).before a0 Z = true := hG.1 _ (List.mem_of_getElem? (i := 184) rfl)
theorem w185 {a0 : Array Value} {Z : State} {EL : List (String × Nat)} (hG : oG a0 Z EL) : ((Jvm.Cond.methodLink "com/example/meander/meander/cluster/WorkerAddressToStringPinLaw" (27 : Nat) ({ cls := "com/example/meander/meander/cluster/WorkerAddressToStringPinLaw", name := "at", desc := "(Ljava/lang/String;I[CIIII)Z" } : Jvm.MethodName))).before a0 Z = true := hG.1 _ (List.mem_of_getElem? (i := 185) rfl)
theorem w186 {a0 : Array Value} {Z : State} {EL : List (String × Nat)} (hG : oG a0 Z EL) : ((Jvm.Cond.static ({ cls := "com/example/meander/meander/cluster/WorkerAddressToStringPinLaw", name := "at", desc := "(Ljava/lang/String;I[CIIII)Z" } : Jvm.MethodName))).before a0 Z = true := hG.1 _ (List.mem_of_getElem? (i := 186) rfl)
theorem w187 {a0 : Array Value} {Z : State} {EL : List (String × Nat)} (hG : oG a0 Z EL) : ((Jvm.Cond.initialized "com/example/meander/meander/cluster/WorkerAddressToStringPinLaw")).before a0 Z = true := hG.1 _ (List.mem_of_getElem? (i := 187) rfl)
theorem w188 {a0 : Array Value} {Z : State} {EL : List (String × Nat)} (hG : oG a0 Z EL) : ((Jvm.Cond.code ({ cls := "com/example/meander/meander/cluster/WorkerAddressToStringPinLaw", name := "at", desc := "(Ljava/lang/String;I[CIIII)Z" } : Jvm.MethodName) method_4_code (9 : Nat) (Option.some Jvm.ClassFile.FieldType.boolean))).before a0 Z = true := hG.1 _ (List.mem_of_getElem? (i := 188) rfl)
theorem w189 {a0 : Array Value} {Z : State} {EL : List (String × Nat)} (hG : oG a0 Z EL) : ((Jvm.Cond.methodLink "com/example/meander/meander/cluster/WorkerAddressToStringPinLaw" (37 : Nat) ({ cls := "java/lang/String", name := "charAt", desc := "(I)C" } : Jvm.MethodName))).before a0 Z = true := hG.1 _ (List.mem_of_getElem? (i := 189) rfl)
theorem w190 {a0 : Array Value} {Z : State} {EL : List (String × Nat)} (hG : oG a0 Z EL) : ((Jvm.Cond.declares ({ cls := "java/lang/String", name := "charAt", desc := "(I)C" } : Jvm.MethodName))).before a0 Z = true := hG.1 _ (List.mem_of_getElem? (i := 190) rfl)
theorem w191 {a0 : Array Value} {Z : State} {EL : List (String × Nat)} (hG : oG a0 Z EL) : ((Jvm.Cond.instanceMethod ({ cls := "java/lang/String", name := "charAt", desc := "(I)C" } : Jvm.MethodName))).before a0 Z = true := hG.1 _ (List.mem_of_getElem? (i := 191) rfl)
theorem w192 {a0 : Array Value} {Z : State} {EL : List (String × Nat)} (hG : oG a0 Z EL) : ((Jvm.Cond.selects "java/lang/String" ({ cls := "java/lang/String", name := "charAt", desc := "(I)C" } : Jvm.MethodName) ({ cls := "java/lang/String", name := "charAt", desc := "(I)C" } : Jvm.MethodName))).before a0 Z = true := hG.1 _ (List.mem_of_getElem? (i := 192) rfl)
theorem w193 {a0 : Array Value} {Z : State} {EL : List (String × Nat)} (hG : oG a0 Z EL) : ((Jvm.Cond.code ({ cls := "java/lang/String", name := "charAt", desc := "(I)C" } : Jvm.MethodName) jdk_42_method_56_code (2 : Nat) (Option.some Jvm.ClassFile.FieldType.char))).before a0 Z = true := hG.1 _ (List.mem_of_getElem? (i := 193) rfl)
theorem w194 {a0 : Array Value} {Z : State} {EL : List (String × Nat)} (hG : oG a0 Z EL) : ((Jvm.Cond.methodLink "java/lang/String" (492 : Nat) ({ cls := "java/lang/String", name := "isLatin1", desc := "()Z" } : Jvm.MethodName))).before a0 Z = true := hG.1 _ (List.mem_of_getElem? (i := 194) rfl)
theorem w195 {a0 : Array Value} {Z : State} {EL : List (String × Nat)} (hG : oG a0 Z EL) : ((Jvm.Cond.declares ({ cls := "java/lang/String", name := "isLatin1", desc := "()Z" } : Jvm.MethodName))).before a0 Z = true := hG.1 _ (List.mem_of_getElem? (i := 195) rfl)
theorem w196 {a0 : Array Value} {Z : State} {EL : List (String × Nat)} (hG : oG a0 Z EL) : ((Jvm.Cond.instanceMethod ({ cls := "java/lang/String", name := "isLatin1", desc := "()Z" } : Jvm.MethodName))).before a0 Z = true := hG.1 _ (List.mem_of_getElem? (i := 196) rfl)
theorem w197 {a0 : Array Value} {Z : State} {EL : List (String × Nat)} (hG : oG a0 Z EL) : ((Jvm.Cond.selects "java/lang/String" ({ cls := "java/lang/String", name := "isLatin1", desc := "()Z" } : Jvm.MethodName) ({ cls := "java/lang/String", name := "isLatin1", desc := "()Z" } : Jvm.MethodName))).before a0 Z = true := hG.1 _ (List.mem_of_getElem? (i := 197) rfl)
theorem w198 {a0 : Array Value} {Z : State} {EL : List (String × Nat)} (hG : oG a0 Z EL) : ((Jvm.Cond.code ({ cls := "java/lang/String", name := "isLatin1", desc := "()Z" } : Jvm.MethodName) jdk_42_method_154_code (1 : Nat) (Option.some Jvm.ClassFile.FieldType.boolean))).before a0 Z = true := hG.1 _ (List.mem_of_getElem? (i := 198) rfl)
theorem w199 {a0 : Array Value} {Z : State} {EL : List (String × Nat)} (hG : oG a0 Z EL) : ((Jvm.Cond.methodLink "java/lang/String" (495 : Nat) ({ cls := "java/lang/StringLatin1", name := "charAt", desc := "([BI)C" } : Jvm.MethodName))).before a0 Z = true := hG.1 _ (List.mem_of_getElem? (i := 199) rfl)
theorem w200 {a0 : Array Value} {Z : State} {EL : List (String × Nat)} (hG : oG a0 Z EL) : ((Jvm.Cond.static ({ cls := "java/lang/StringLatin1", name := "charAt", desc := "([BI)C" } : Jvm.MethodName))).before a0 Z = true := hG.1 _ (List.mem_of_getElem? (i := 200) rfl)
theorem w201 {a0 : Array Value} {Z : State} {EL : List (String × Nat)} (hG : oG a0 Z EL) : ((Jvm.Cond.initialized "java/lang/StringLatin1")).before a0 Z = true := hG.1 _ (List.mem_of_getElem? (i := 201) rfl)
theorem w202 {a0 : Array Value} {Z : State} {EL : List (String × Nat)} (hG : oG a0 Z EL) : ((Jvm.Cond.code ({ cls := "java/lang/StringLatin1", name := "charAt", desc := "([BI)C" } : Jvm.MethodName) jdk_43_method_2_code (2 : Nat) (Option.some Jvm.ClassFile.FieldType.char))).before a0 Z = true := hG.1 _ (List.mem_of_getElem? (i := 202) rfl)
theorem w203 {a0 : Array Value} {Z : State} {EL : List (String × Nat)} (hG : oG a0 Z EL) : ((Jvm.Cond.methodLink "java/lang/StringLatin1" (9 : Nat) ({ cls := "java/lang/String", name := "checkIndex", desc := "(II)V" } : Jvm.MethodName))).before a0 Z = true := hG.1 _ (List.mem_of_getElem? (i := 203) rfl)
theorem w204 {a0 : Array Value} {Z : State} {EL : List (String × Nat)} (hG : oG a0 Z EL) : ((Jvm.Cond.static ({ cls := "java/lang/String", name := "checkIndex", desc := "(II)V" } : Jvm.MethodName))).before a0 Z = true := hG.1 _ (List.mem_of_getElem? (i := 204) rfl)
theorem w205 {a0 : Array Value} {Z : State} {EL : List (String × Nat)} (hG : oG a0 Z EL) : ((Jvm.Cond.code ({ cls := "java/lang/String", name := "checkIndex", desc := "(II)V" } : Jvm.MethodName) jdk_42_method_155_code (2 : Nat) (Option.none : Option Jvm.ClassFile.FieldType))).before a0 Z = true := hG.1 _ (List.mem_of_getElem? (i := 205) rfl)
theorem w206 {a0 : Array Value} {Z : State} {EL : List (String × Nat)} (hG : oG a0 Z EL) : ((Jvm.Cond.fieldLink "java/lang/String" (1053 : Nat) "jdk/internal/util/Preconditions" "SIOOBE_FORMATTER" "Ljava/util/function/BiFunction;")).before a0 Z = true := hG.1 _ (List.mem_of_getElem? (i := 206) rfl)
theorem w207 {a0 : Array Value} {Z : State} {EL : List (String × Nat)} (hG : oG a0 Z EL) : ((Jvm.Cond.initialized "jdk/internal/util/Preconditions")).before a0 Z = true := hG.1 _ (List.mem_of_getElem? (i := 207) rfl)
theorem w208 {a0 : Array Value} {Z : State} {EL : List (String × Nat)} (hG : oG a0 Z EL) : ((Jvm.Cond.methodLink "java/lang/String" (1059 : Nat) ({ cls := "jdk/internal/util/Preconditions", name := "checkIndex", desc := "(IILjava/util/function/BiFunction;)I" } : Jvm.MethodName))).before a0 Z = true := hG.1 _ (List.mem_of_getElem? (i := 208) rfl)
theorem w209 {a0 : Array Value} {Z : State} {EL : List (String × Nat)} (hG : oG a0 Z EL) : ((Jvm.Cond.static ({ cls := "jdk/internal/util/Preconditions", name := "checkIndex", desc := "(IILjava/util/function/BiFunction;)I" } : Jvm.MethodName))).before a0 Z = true := hG.1 _ (List.mem_of_getElem? (i := 209) rfl)
theorem w210 {a0 : Array Value} {Z : State} {EL : List (String × Nat)} (hG : oG a0 Z EL) : ((Jvm.Cond.code ({ cls := "jdk/internal/util/Preconditions", name := "checkIndex", desc := "(IILjava/util/function/BiFunction;)I" } : Jvm.MethodName) jdk_41_method_11_code (3 : Nat) (Option.some Jvm.ClassFile.FieldType.int))).before a0 Z = true := hG.1 _ (List.mem_of_getElem? (i := 210) rfl)
theorem w211 {a0 : Array Value} {Z : State} {EL : List (String × Nat)} (hG : oG a0 Z EL) : ((Jvm.Cond.methodLink "com/example/meander/meander/cluster/WorkerAddressToStringPinLaw" (33 : Nat) ({ cls := "com/example/meander/meander/cluster/WorkerAddressToStringPinLaw", name := "pow10", desc := "(I)I" } : Jvm.MethodName))).before a0 Z = true := hG.1 _ (List.mem_of_getElem? (i := 211) rfl)
theorem w212 {a0 : Array Value} {Z : State} {EL : List (String × Nat)} (hG : oG a0 Z EL) : ((Jvm.Cond.static ({ cls := "com/example/meander/meander/cluster/WorkerAddressToStringPinLaw", name := "pow10", desc := "(I)I" } : Jvm.MethodName))).before a0 Z = true := hG.1 _ (List.mem_of_getElem? (i := 212) rfl)
theorem w213 {a0 : Array Value} {Z : State} {EL : List (String × Nat)} (hG : oG a0 Z EL) : ((Jvm.Cond.code ({ cls := "com/example/meander/meander/cluster/WorkerAddressToStringPinLaw", name := "pow10", desc := "(I)I" } : Jvm.MethodName) method_3_code (1 : Nat) (Option.some Jvm.ClassFile.FieldType.int))).before a0 Z = true := hG.1 _ (List.mem_of_getElem? (i := 213) rfl)
theorem w214 {a0 : Array Value} {Z : State} {EL : List (String × Nat)} (hG : oG a0 Z EL) : ((Jvm.Cond.fieldLink "java/lang/Integer" (87 : Nat) "java/lang/Integer" "DigitTens" "[B")).before a0 Z = true := hG.1 _ (List.mem_of_getElem? (i := 214) rfl)
theorem w215 {a0 : Array Value} {Z : State} {EL : List (String × Nat)} (hG : oG a0 Z EL) : ((Jvm.Cond.stringLink "java/lang/String" (7 : Nat) "")).before a0 Z = true := hG.1 _ (List.mem_of_getElem? (i := 215) rfl)
theorem strAt {a0 : Array Value} {Z : State} {EL : List (String × Nat)} (hG : oG a0 Z EL) : ∀ a ∈ Bundle.stringAtoms, a.before a0 Z = true := by
  intro a ha
  simp only [Bundle.stringAtoms, Bundle.sN, List.mem_cons, List.not_mem_nil, or_false] at ha
  rcases ha with rfl | rfl | rfl | rfl | rfl | rfl | rfl
  · exact w5 hG
  · exact w4 hG
  · exact w21 hG
  · exact w31 hG
  · exact w29 hG
  · exact w119 hG
  · exact w120 hG
theorem own_len {args : Array Value} {Z : State} {t : Term} {a : Addr} {c : Cell} {ty : FieldType} {n : Nat} (hn : n < 2147483648) (A : Arr Z Z.heap a c ty) (ev : t.eval args Z none [] Z = some (.ref a)) (hl : (Term.length t).eval args Z none [] Z = some (.int (Int32.ofNat n))) : c.slots.size = n := by
  obtain ⟨sd, SA, hev, hat, -⟩ := Term.length_spec hl
  have e : (Term.length t).eval args Z none [] Z = some (.int SA.slots.size.toInt32) := by
    by_cases h31 : SA.slots.size < 2147483648
    · simp [Term.eval, hev, hat, h31]
    · simp [Term.eval, hev, hat, h31] at hl
  have h31 : SA.slots.size < 2147483648 := by
    by_cases h31 : SA.slots.size < 2147483648
    · exact h31
    · simp [Term.eval, hev, hat, h31] at hl
  have e1 : sd = a := by have := hev.symm.trans ev; injection this with q; injection q
  subst e1
  have e2 : SA = c := Option.some.inj ((State.arrayAt?_spec hat).1.symm.trans A.1)
  subst e2
  have e3 : Value.int SA.slots.size.toInt32 = Value.int (Int32.ofNat n) := Option.some.inj (e.symm.trans hl)
  injection e3 with e3
  have e4 := congrArg Int32.toNatClampNeg e3
  have e5 : SA.slots.size.toInt32 = Int32.ofNat SA.slots.size := rfl
  rw [e5, own_n32 h31, own_n32 hn] at e4
  exact e4
theorem own_neg {p : Nat} (h : p < 2147483648) : (-(Int32.ofNat p)).toInt = -(p : Int) := by
  rw [Int32.toInt_neg, own_i32 h]; exact Int.bmod_eq_of_le (by omega) (by omega)
theorem own_neglt {a b : Nat} (ha : a < 2147483648) (hb : b < 2147483648) : -(Int32.ofNat b) < -(Int32.ofNat a) ↔ a < b := by
  rw [Int32.lt_iff_toInt_lt, own_neg ha, own_neg hb]; omega
theorem own_ndiv {p : Nat} (hp : p < 1000000) : -(Int32.ofNat p) / 100 = -(Int32.ofNat (p / 100)) := by
  apply Int32.toInt_inj.mp
  rw [Int32.toInt_div_of_ne_right _ _ (by decide), own_neg (by omega), own_neg (by omega), show (100 : Int32).toInt = 100 from rfl, Int.neg_tdiv, Int.tdiv_eq_ediv_of_nonneg (by omega)]
  omega
theorem own_nrem {p : Nat} (hp : p < 1000000) : -(Int32.ofNat (p / 100)) * 100 - -(Int32.ofNat p) = Int32.ofNat (p % 100) := by
  have e1 : (-(Int32.ofNat (p / 100)) * 100).toInt = -((p / 100 : Nat) : Int) * 100 := by
    rw [Int32.toInt_mul, own_neg (by omega), show (100 : Int32).toInt = 100 from rfl]; exact Int.bmod_eq_of_le (by omega) (by omega)
  have e2 := own_neg (p := p) (by omega)
  apply Int32.toInt_inj.mp
  rw [own_sub (by omega) (by omega), e1, e2, own_i32 (by omega)]; omega
theorem own_decA (o k k' : Nat) (h : k = k' + 1) : Int32.ofNat (o + k) + (-1) = Int32.ofNat (o + k') := by
  subst h
  rw [← Nat.add_assoc, ← own_succ, Int32.add_assoc, show (1 : Int32) + (-1) = 0 from by decide, Int32.add_zero]
theorem own_setdown (vs xs : List Value) (j : Nat) (v : Value) (h : j < vs.length) : (vs.take (j + 1) ++ xs).set j v = vs.take j ++ v :: xs := by
  rw [List.set_append_left _ _ (by simp; omega), ← List.take_set, own_take_set _ _ _ h, List.append_assoc]; rfl
theorem own_nar8 : ∀ k : Nat, k < 128 → nar .byte (Int32.ofNat k) = Int32.ofNat k := by decide +kernel
theorem own_lo8s : ∀ k : Nat, k < 128 → lo8 (Int32.ofNat k) = Int32.ofNat k := own_nar8
def ndF (p : Nat) : Nat := if 10000 ≤ p then 5 else if 1000 ≤ p then 4 else if 100 ≤ p then 3 else if 10 ≤ p then 2 else 1
def dgl (p n : Nat) : List Int32 := (List.range n).map fun j => Int32.ofNat (48 + p / 10 ^ (n - 1 - j) % 10)
theorem nd_cases {p n : Nat} (hn : ndF p = n) (h0 : p < 100000) : (n = 1 ∧ p < 10) ∨ (n = 2 ∧ 10 ≤ p ∧ p < 100) ∨ (n = 3 ∧ 100 ≤ p ∧ p < 1000) ∨ (n = 4 ∧ 1000 ≤ p ∧ p < 10000) ∨ (n = 5 ∧ 10000 ≤ p) := by
  subst hn
  by_cases h4 : 10000 ≤ p
  · have e : ndF p = 5 := if_pos h4
    omega
  · by_cases h3 : 1000 ≤ p
    · have e : ndF p = 4 := by unfold ndF; rw [if_neg h4, if_pos h3]
      omega
    · by_cases h2 : 100 ≤ p
      · have e : ndF p = 3 := by unfold ndF; rw [if_neg h4, if_neg h3, if_pos h2]
        omega
      · by_cases h1 : 10 ≤ p
        · have e : ndF p = 2 := by unfold ndF; rw [if_neg h4, if_neg h3, if_neg h2, if_pos h1]
          omega
        · have e : ndF p = 1 := by unfold ndF; rw [if_neg h4, if_neg h3, if_neg h2, if_neg h1]
          omega
theorem dgl_len (p n : Nat) : (dgl p n).length = n := by simp [dgl]
theorem dgl_get (p n j : Nat) (h : j < n) : (dgl p n)[j]? = some (Int32.ofNat (48 + p / 10 ^ (n - 1 - j) % 10)) := by simp [dgl, List.getElem?_range h]
theorem dgl_bd (p n : Nat) : ∀ c ∈ dgl p n, ¬ c < 0 ∧ ¬ 255 < c := by
  intro c hc
  obtain ⟨j, -, rfl⟩ := List.mem_map.mp hc
  refine ⟨own_nn (by omega), ?_⟩
  rw [show (255 : Int32) = Int32.ofNat 255 from rfl, own_lt (by omega) (by omega)]; omega
theorem dgl1 (p : Nat) (h : p < 10) : (dgl p 1).map lo8 = [Int32.ofNat (48 + p % 10)] := by
  rw [show dgl p 1 = [Int32.ofNat (48 + p / 1 % 10)] from rfl, List.map_cons, List.map_nil, own_lo8s _ (by omega), Nat.div_one]
theorem dgl2 (p : Nat) (h : p < 100) : (dgl p 2).map lo8 = [Int32.ofNat (48 + p / 10), Int32.ofNat (48 + p % 10)] := by
  rw [show dgl p 2 = [Int32.ofNat (48 + p / 10 % 10), Int32.ofNat (48 + p / 1 % 10)] from rfl, List.map_cons, List.map_cons, List.map_nil, own_lo8s _ (by omega), own_lo8s _ (by omega), Nat.div_one, show p / 10 % 10 = p / 10 by omega]
theorem dgl3 (p : Nat) (h : p < 1000) : (dgl p 3).map lo8 = [Int32.ofNat (48 + p / 100 % 10), Int32.ofNat (48 + p % 100 / 10), Int32.ofNat (48 + p % 100 % 10)] := by
  rw [show dgl p 3 = [Int32.ofNat (48 + p / 100 % 10), Int32.ofNat (48 + p / 10 % 10), Int32.ofNat (48 + p / 1 % 10)] from rfl]
  simp only [List.map_cons, List.map_nil]
  rw [own_lo8s _ (by omega), own_lo8s _ (by omega), own_lo8s _ (by omega), show p / 10 % 10 = p % 100 / 10 by omega, show p / 1 % 10 = p % 100 % 10 by omega]
theorem dgl4 (p : Nat) (h : p < 10000) : (dgl p 4).map lo8 = [Int32.ofNat (48 + p / 100 / 10), Int32.ofNat (48 + p / 100 % 10), Int32.ofNat (48 + p % 100 / 10), Int32.ofNat (48 + p % 100 % 10)] := by
  rw [show dgl p 4 = [Int32.ofNat (48 + p / 1000 % 10), Int32.ofNat (48 + p / 100 % 10), Int32.ofNat (48 + p / 10 % 10), Int32.ofNat (48 + p / 1 % 10)] from rfl]
  simp only [List.map_cons, List.map_nil]
  rw [own_lo8s _ (by omega), own_lo8s _ (by omega), own_lo8s _ (by omega), own_lo8s _ (by omega), show p / 1000 % 10 = p / 100 / 10 by omega, show p / 10 % 10 = p % 100 / 10 by omega, show p / 1 % 10 = p % 100 % 10 by omega]
theorem dgl5 (p : Nat) (h : p < 100000) : (dgl p 5).map lo8 = [Int32.ofNat (48 + p / 100 / 100 % 10), Int32.ofNat (48 + p / 100 % 100 / 10), Int32.ofNat (48 + p / 100 % 100 % 10), Int32.ofNat (48 + p % 100 / 10), Int32.ofNat (48 + p % 100 % 10)] := by
  rw [show dgl p 5 = [Int32.ofNat (48 + p / 10000 % 10), Int32.ofNat (48 + p / 1000 % 10), Int32.ofNat (48 + p / 100 % 10), Int32.ofNat (48 + p / 10 % 10), Int32.ofNat (48 + p / 1 % 10)] from rfl]
  simp only [List.map_cons, List.map_nil]
  rw [own_lo8s _ (by omega), own_lo8s _ (by omega), own_lo8s _ (by omega), own_lo8s _ (by omega), own_lo8s _ (by omega), show p / 10000 % 10 = p / 100 / 100 % 10 by omega, show p / 1000 % 10 = p / 100 % 100 / 10 by omega, show p / 100 % 10 = p / 100 % 100 % 10 by omega, show p / 10 % 10 = p % 100 / 10 by omega, show p / 1 % 10 = p % 100 % 10 by omega]
abbrev oTab (f : Nat → Nat) : List Value := oI ((List.range 100).map fun j => Int32.ofNat (f j))
theorem oTab_get (f : Nat → Nat) (j : Nat) (h : j < 100) : (oTab f)[j]? = some (.int (Int32.ofNat (f j))) := by
  simp [oTab, List.getElem?_range h]
theorem own_tab {a0 : Array Value} {Z : State} {T F : Term} {f : Nat → Nat} (hev0 : ∀ idx, T.eval a0 Z none idx Z = T.eval a0 Z none [] Z) (he : (Cond.exactly T "[B").before a0 Z = true) (hl : (Cond.eq (Term.length T) (Term.int 100)).before a0 Z = true) (hA : (Cond.all T (Cond.eq (Term.elem T (Term.index 0)) F)).before a0 Z = true) (harr : (Cond.arrayClass .byte).before a0 Z = true)
    (hF : ∀ j : Nat, j < 100 → F.eval a0 Z none [j] Z = some (.int (Int32.ofNat (f j)))) (hf : ∀ j, j < 100 → f j < 128) : ∃ d : Nat, T.eval a0 Z none [] Z = some (.ref d) ∧ oArr Z Z.heap d .byte (oTab f) := by
  obtain ⟨d, cB, D, kB, hev, hfcB, hcellD, hkB, hstatD, hclsD, -⟩ := Cond.exactly_spec he
  have hl' := own_eqI (Cond.before_iff.mp hl)
  obtain ⟨d', D', hev', harrAt, hlen⟩ := Term.length_spec hl'
  cases hev.symm.trans hev'
  obtain ⟨hcellD', hknD, -, -⟩ := State.arrayAt?_spec harrAt
  cases hcellD.symm.trans hcellD'
  obtain ⟨cB', kB', comp, hnameB, hkB', hkindB⟩ := Cond.arrayClass_spec harr
  have eBA : ("[" ++ FieldType.toString .byte) = "[B" := by decide
  rw [eBA] at hnameB
  cases hfcB.symm.trans hnameB
  cases hkB.symm.trans hkB'
  have A : Arr Z Z.heap d D .byte := ⟨hcellD, ⟨(fun q h => by rw [h] at hstatD; cases hstatD), kB, (by rw [hclsD]; exact hkB), comp, hkindB⟩, hknD⟩
  have hsz : D.slots.size = 100 := own_len (n := 100) (by decide) A hev hl'
  have hat : ∀ j, j < 100 → D.slots[j]? = some (.int (Int32.ofNat (f j))) := fun j hj => by
    have h1 := Cond.all_elim hev harrAt (Cond.before_iff.mp hA) j (by omega)
    have h2 := eqv_i (hF j hj) h1
    rw [elem_f (j := Int32.ofNat j) ((hev0 [j]).trans hev) rfl harrAt (own_nn (by omega)), own_n32 (by omega)] at h2
    exact h2
  refine ⟨d, hev, D, A, ?_, by simp, ?_⟩
  · apply List.ext_getElem?
    intro j
    by_cases hj : j < 100
    · rw [Array.getElem?_toList, hat j hj, oTab_get f j hj]
    · rw [List.getElem?_eq_none (by simp; omega), List.getElem?_eq_none (by simp; omega)]
  · intro v hv
    obtain ⟨x, hx, rfl⟩ := List.mem_map.mp hv
    obtain ⟨j, hj, rfl⟩ := List.mem_map.mp hx
    rw [← own_nar8 _ (hf j (List.mem_range.mp hj))]; exact fits_nar_byte _
theorem sONES {a0 : Array Value} {Z : State} {EL : List (String × Nat)} (hG : oG a0 Z EL) : ∃ d : Nat, Sta Z Z.heap "java/lang/Integer" "DigitOnes" "[B" (.ref d) ∧ oArr Z Z.heap d .byte (oTab (fun j => 48 + j % 10)) := by
  obtain ⟨d, h1, h2⟩ := own_tab (f := fun j => 48 + j % 10) (fun idx => by simp only [Term.eval]) (hG.2.2.1 _ (List.mem_of_getElem? (i := 12) rfl)) (hG.2.2.1 _ (List.mem_of_getElem? (i := 13) rfl)) (hG.2.2.1 _ (List.mem_of_getElem? (i := 14) rfl)) (w21 hG) (fun j hj => by rw [← Jvm.Free.SBG.ones_num j hj]; rfl) (fun j hj => by omega)
  exact ⟨d, Sta.start h1 (Or.inl (hG.2.2.1 _ (List.mem_of_getElem? (i := 11) rfl))), h2⟩
theorem sTENS {a0 : Array Value} {Z : State} {EL : List (String × Nat)} (hG : oG a0 Z EL) : ∃ d : Nat, Sta Z Z.heap "java/lang/Integer" "DigitTens" "[B" (.ref d) ∧ oArr Z Z.heap d .byte (oTab (fun j => 48 + j / 10)) := by
  obtain ⟨d, h1, h2⟩ := own_tab (f := fun j => 48 + j / 10) (fun idx => by simp only [Term.eval]) (hG.2.2.1 _ (List.mem_of_getElem? (i := 17) rfl)) (hG.2.2.1 _ (List.mem_of_getElem? (i := 18) rfl)) (hG.2.2.1 _ (List.mem_of_getElem? (i := 19) rfl)) (w21 hG) (fun j hj => by rw [← Jvm.Free.SBG.tens_num j hj]; rfl) (fun j hj => by omega)
  exact ⟨d, Sta.start h1 (Or.inl (hG.2.2.1 _ (List.mem_of_getElem? (i := 16) rfl))), h2⟩
theorem d1_0 : decode jdk_42_method_3_code 0 = .ok (.aload_n 0, 1) := by decide +kernel
theorem d1_1 : decode jdk_42_method_3_code 1 = .ok (.aload_n 1, 1) := by decide +kernel
theorem d1_2 : decode jdk_42_method_3_code 2 = .ok (.iconst 0, 1) := by decide +kernel
theorem d1_3 : decode jdk_42_method_3_code 3 = .ok (.aload_n 1, 1) := by decide +kernel
theorem d1_4 : decode jdk_42_method_3_code 4 = .ok (.arraylength, 1) := by decide +kernel
theorem d1_5 : decode jdk_42_method_3_code 5 = .ok (.aconst_null, 1) := by decide +kernel
theorem d1_6 : decode jdk_42_method_3_code 6 = .ok (.invokespecial 27, 3) := by decide +kernel
theorem d1_9 : decode jdk_42_method_3_code 9 = .ok (.return_, 1) := by decide +kernel
theorem d2_0 : decode jdk_42_method_149_code 0 = .ok (.aload_n 0, 1) := by decide +kernel
theorem d2_1 : decode jdk_42_method_149_code 1 = .ok (.invokespecial 1, 3) := by decide +kernel
theorem d2_4 : decode jdk_42_method_149_code 4 = .ok (.iload_n 3, 1) := by decide +kernel
theorem d2_5 : decode jdk_42_method_149_code 5 = .ok (.ifCond .ne 22, 3) := by decide +kernel
theorem d2_8 : decode jdk_42_method_149_code 8 = .ok (.aload_n 0, 1) := by decide +kernel
theorem d2_9 : decode jdk_42_method_149_code 9 = .ok (.ldc 7, 2) := by decide +kernel
theorem d2_11 : decode jdk_42_method_149_code 11 = .ok (.getfield 9, 3) := by decide +kernel
theorem d2_14 : decode jdk_42_method_149_code 14 = .ok (.putfield 9, 3) := by decide +kernel
theorem d2_17 : decode jdk_42_method_149_code 17 = .ok (.aload_n 0, 1) := by decide +kernel
theorem d2_18 : decode jdk_42_method_149_code 18 = .ok (.ldc 7, 2) := by decide +kernel
theorem d2_20 : decode jdk_42_method_149_code 20 = .ok (.getfield 15, 3) := by decide +kernel
theorem d2_23 : decode jdk_42_method_149_code 23 = .ok (.putfield 15, 3) := by decide +kernel
theorem d2_26 : decode jdk_42_method_149_code 26 = .ok (.return_, 1) := by decide +kernel
theorem d2_27 : decode jdk_42_method_149_code 27 = .ok (.getstatic 38, 3) := by decide +kernel
theorem d2_30 : decode jdk_42_method_149_code 30 = .ok (.ifCond .eq 28, 3) := by decide +kernel
theorem d2_33 : decode jdk_42_method_149_code 33 = .ok (.aload_n 1, 1) := by decide +kernel
theorem d2_34 : decode jdk_42_method_149_code 34 = .ok (.iload_n 2, 1) := by decide +kernel
theorem d2_35 : decode jdk_42_method_149_code 35 = .ok (.iload_n 3, 1) := by decide +kernel
theorem d2_36 : decode jdk_42_method_149_code 36 = .ok (.invokestatic 177, 3) := by decide +kernel
theorem d2_39 : decode jdk_42_method_149_code 39 = .ok (.astore 5, 2) := by decide +kernel
theorem d2_41 : decode jdk_42_method_149_code 41 = .ok (.aload_n 0, 1) := by decide +kernel
theorem d2_42 : decode jdk_42_method_149_code 42 = .ok (.aload 5, 2) := by decide +kernel
theorem d2_44 : decode jdk_42_method_149_code 44 = .ok (.iload_n 3, 1) := by decide +kernel
theorem d2_45 : decode jdk_42_method_149_code 45 = .ok (.invokestatic 47, 3) := by decide +kernel
theorem d2_48 : decode jdk_42_method_149_code 48 = .ok (.putfield 15, 3) := by decide +kernel
theorem d2_51 : decode jdk_42_method_149_code 51 = .ok (.aload_n 0, 1) := by decide +kernel
theorem d2_52 : decode jdk_42_method_149_code 52 = .ok (.aload 5, 2) := by decide +kernel
theorem d2_54 : decode jdk_42_method_149_code 54 = .ok (.putfield 9, 3) := by decide +kernel
theorem d2_57 : decode jdk_42_method_149_code 57 = .ok (.return_, 1) := by decide +kernel
theorem d4_0 : decode jdk_52_method_16_code 0 = .ok (.iload_n 2, 1) := by decide +kernel
theorem d4_1 : decode jdk_52_method_16_code 1 = .ok (.newarray .byte, 2) := by decide +kernel
theorem d4_3 : decode jdk_52_method_16_code 3 = .ok (.astore_n 3, 1) := by decide +kernel
theorem d4_4 : decode jdk_52_method_16_code 4 = .ok (.aload_n 0, 1) := by decide +kernel
theorem d4_5 : decode jdk_52_method_16_code 5 = .ok (.iload_n 1, 1) := by decide +kernel
theorem d4_6 : decode jdk_52_method_16_code 6 = .ok (.aload_n 3, 1) := by decide +kernel
theorem d4_7 : decode jdk_52_method_16_code 7 = .ok (.iconst 0, 1) := by decide +kernel
theorem d4_8 : decode jdk_52_method_16_code 8 = .ok (.iload_n 2, 1) := by decide +kernel
theorem d4_9 : decode jdk_52_method_16_code 9 = .ok (.invokestatic 115, 3) := by decide +kernel
theorem d4_12 : decode jdk_52_method_16_code 12 = .ok (.istore 4, 2) := by decide +kernel
theorem d4_14 : decode jdk_52_method_16_code 14 = .ok (.iload 4, 2) := by decide +kernel
theorem d4_16 : decode jdk_52_method_16_code 16 = .ok (.iload_n 2, 1) := by decide +kernel
theorem d4_17 : decode jdk_52_method_16_code 17 = .ok (.if_icmp .eq 40, 3) := by decide +kernel
theorem d4_57 : decode jdk_52_method_16_code 57 = .ok (.aload_n 3, 1) := by decide +kernel
theorem d4_58 : decode jdk_52_method_16_code 58 = .ok (.areturn, 1) := by decide +kernel
theorem d5_0 : decode jdk_52_method_21_code 0 = .ok (.iconst 0, 1) := by decide +kernel
theorem d5_1 : decode jdk_52_method_21_code 1 = .ok (.istore 5, 2) := by decide +kernel
theorem d5_3 : decode jdk_52_method_21_code 3 = .ok (.iload 5, 2) := by decide +kernel
theorem d5_5 : decode jdk_52_method_21_code 5 = .ok (.iload 4, 2) := by decide +kernel
theorem d5_7 : decode jdk_52_method_21_code 7 = .ok (.if_icmp .ge 37, 3) := by decide +kernel
theorem d5_10 : decode jdk_52_method_21_code 10 = .ok (.aload_n 0, 1) := by decide +kernel
theorem d5_11 : decode jdk_52_method_21_code 11 = .ok (.iload_n 1, 1) := by decide +kernel
theorem d5_12 : decode jdk_52_method_21_code 12 = .ok (.caload, 1) := by decide +kernel
theorem d5_13 : decode jdk_52_method_21_code 13 = .ok (.istore 6, 2) := by decide +kernel
theorem d5_15 : decode jdk_52_method_21_code 15 = .ok (.iload 6, 2) := by decide +kernel
theorem d5_17 : decode jdk_52_method_21_code 17 = .ok (.sipush 255, 3) := by decide +kernel
theorem d5_20 : decode jdk_52_method_21_code 20 = .ok (.if_icmp .le 6, 3) := by decide +kernel
theorem d5_23 : decode jdk_52_method_21_code 23 = .ok (.iload 5, 2) := by decide +kernel
theorem d5_25 : decode jdk_52_method_21_code 25 = .ok (.ireturn, 1) := by decide +kernel
theorem d5_26 : decode jdk_52_method_21_code 26 = .ok (.aload_n 2, 1) := by decide +kernel
theorem d5_27 : decode jdk_52_method_21_code 27 = .ok (.iload_n 3, 1) := by decide +kernel
theorem d5_28 : decode jdk_52_method_21_code 28 = .ok (.iload 6, 2) := by decide +kernel
theorem d5_30 : decode jdk_52_method_21_code 30 = .ok (.i2b, 1) := by decide +kernel
theorem d5_31 : decode jdk_52_method_21_code 31 = .ok (.bastore, 1) := by decide +kernel
theorem d5_32 : decode jdk_52_method_21_code 32 = .ok (.iinc 1 1, 3) := by decide +kernel
theorem d5_35 : decode jdk_52_method_21_code 35 = .ok (.iinc 3 1, 3) := by decide +kernel
theorem d5_38 : decode jdk_52_method_21_code 38 = .ok (.iinc 5 1, 3) := by decide +kernel
theorem d5_41 : decode jdk_52_method_21_code 41 = .ok (.goto (-38), 3) := by decide +kernel
theorem d5_44 : decode jdk_52_method_21_code 44 = .ok (.iload 4, 2) := by decide +kernel
theorem d5_46 : decode jdk_52_method_21_code 46 = .ok (.ireturn, 1) := by decide +kernel
theorem d6_0 : decode jdk_52_method_15_code 0 = .ok (.iload_n 1, 1) := by decide +kernel
theorem d6_1 : decode jdk_52_method_15_code 1 = .ok (.aload_n 0, 1) := by decide +kernel
theorem d6_2 : decode jdk_52_method_15_code 2 = .ok (.arraylength, 1) := by decide +kernel
theorem d6_3 : decode jdk_52_method_15_code 3 = .ok (.isub, 1) := by decide +kernel
theorem d6_4 : decode jdk_52_method_15_code 4 = .ok (.bipush 31, 2) := by decide +kernel
theorem d6_6 : decode jdk_52_method_15_code 6 = .ok (.iushr, 1) := by decide +kernel
theorem d6_7 : decode jdk_52_method_15_code 7 = .ok (.i2b, 1) := by decide +kernel
theorem d6_8 : decode jdk_52_method_15_code 8 = .ok (.ireturn, 1) := by decide +kernel
theorem d7_0 : decode prog_5_method_1_code 0 = .ok (.aload_n 0, 1) := by decide +kernel
theorem d7_1 : decode prog_5_method_1_code 1 = .ok (.invokespecial 1, 3) := by decide +kernel
theorem d7_4 : decode prog_5_method_1_code 4 = .ok (.aload_n 0, 1) := by decide +kernel
theorem d7_5 : decode prog_5_method_1_code 5 = .ok (.aload_n 1, 1) := by decide +kernel
theorem d7_6 : decode prog_5_method_1_code 6 = .ok (.putfield 7, 3) := by decide +kernel
theorem d7_9 : decode prog_5_method_1_code 9 = .ok (.aload_n 0, 1) := by decide +kernel
theorem d7_10 : decode prog_5_method_1_code 10 = .ok (.iload_n 2, 1) := by decide +kernel
theorem d7_11 : decode prog_5_method_1_code 11 = .ok (.putfield 13, 3) := by decide +kernel
theorem d7_14 : decode prog_5_method_1_code 14 = .ok (.return_, 1) := by decide +kernel
theorem d8_0 : decode jdk_30_method_1_code 0 = .ok (.aload_n 0, 1) := by decide +kernel
theorem d8_1 : decode jdk_30_method_1_code 1 = .ok (.invokespecial 1, 3) := by decide +kernel
theorem d8_4 : decode jdk_30_method_1_code 4 = .ok (.return_, 1) := by decide +kernel
theorem d9_0 : decode prog_5_method_3_code 0 = .ok (.new 17, 3) := by decide +kernel
theorem d9_3 : decode prog_5_method_3_code 3 = .ok (.dup, 1) := by decide +kernel
theorem d9_4 : decode prog_5_method_3_code 4 = .ok (.invokespecial 19, 3) := by decide +kernel
theorem d9_7 : decode prog_5_method_3_code 7 = .ok (.aload_n 0, 1) := by decide +kernel
theorem d9_8 : decode prog_5_method_3_code 8 = .ok (.getfield 7, 3) := by decide +kernel
theorem d9_11 : decode prog_5_method_3_code 11 = .ok (.invokevirtual 22, 3) := by decide +kernel
theorem d9_14 : decode prog_5_method_3_code 14 = .ok (.ldc 76, 2) := by decide +kernel
theorem d9_16 : decode prog_5_method_3_code 16 = .ok (.invokevirtual 22, 3) := by decide +kernel
theorem d9_19 : decode prog_5_method_3_code 19 = .ok (.aload_n 0, 1) := by decide +kernel
theorem d9_20 : decode prog_5_method_3_code 20 = .ok (.getfield 13, 3) := by decide +kernel
theorem d9_23 : decode prog_5_method_3_code 23 = .ok (.invokevirtual 78, 3) := by decide +kernel
theorem d9_26 : decode prog_5_method_3_code 26 = .ok (.invokevirtual 28, 3) := by decide +kernel
theorem d9_29 : decode prog_5_method_3_code 29 = .ok (.areturn, 1) := by decide +kernel
theorem d10_0 : decode jdk_67_method_1_code 0 = .ok (.aload_n 0, 1) := by decide +kernel
theorem d10_1 : decode jdk_67_method_1_code 1 = .ok (.bipush 16, 2) := by decide +kernel
theorem d10_3 : decode jdk_67_method_1_code 3 = .ok (.invokespecial 1, 3) := by decide +kernel
theorem d10_6 : decode jdk_67_method_1_code 6 = .ok (.return_, 1) := by decide +kernel
theorem d11_0 : decode jdk_68_method_2_code 0 = .ok (.aload_n 0, 1) := by decide +kernel
theorem d11_1 : decode jdk_68_method_2_code 1 = .ok (.invokespecial 3, 3) := by decide +kernel
theorem d11_4 : decode jdk_68_method_2_code 4 = .ok (.getstatic 18, 3) := by decide +kernel
theorem d11_7 : decode jdk_68_method_2_code 7 = .ok (.ifCond .eq 18, 3) := by decide +kernel
theorem d11_10 : decode jdk_68_method_2_code 10 = .ok (.aload_n 0, 1) := by decide +kernel
theorem d11_11 : decode jdk_68_method_2_code 11 = .ok (.iload_n 1, 1) := by decide +kernel
theorem d11_12 : decode jdk_68_method_2_code 12 = .ok (.newarray .byte, 2) := by decide +kernel
theorem d11_14 : decode jdk_68_method_2_code 14 = .ok (.putfield 15, 3) := by decide +kernel
theorem d11_17 : decode jdk_68_method_2_code 17 = .ok (.aload_n 0, 1) := by decide +kernel
theorem d11_18 : decode jdk_68_method_2_code 18 = .ok (.iconst 0, 1) := by decide +kernel
theorem d11_19 : decode jdk_68_method_2_code 19 = .ok (.putfield 22, 3) := by decide +kernel
theorem d11_22 : decode jdk_68_method_2_code 22 = .ok (.goto 16, 3) := by decide +kernel
theorem d11_38 : decode jdk_68_method_2_code 38 = .ok (.return_, 1) := by decide +kernel
theorem d12_0 : decode jdk_67_method_7_code 0 = .ok (.aload_n 0, 1) := by decide +kernel
theorem d12_1 : decode jdk_67_method_7_code 1 = .ok (.aload_n 1, 1) := by decide +kernel
theorem d12_2 : decode jdk_67_method_7_code 2 = .ok (.invokespecial 29, 3) := by decide +kernel
theorem d12_5 : decode jdk_67_method_7_code 5 = .ok (.pop, 1) := by decide +kernel
theorem d12_6 : decode jdk_67_method_7_code 6 = .ok (.aload_n 0, 1) := by decide +kernel
theorem d12_7 : decode jdk_67_method_7_code 7 = .ok (.areturn, 1) := by decide +kernel
theorem d13_0 : decode jdk_68_method_22_code 0 = .ok (.aload_n 1, 1) := by decide +kernel
theorem d13_1 : decode jdk_68_method_22_code 1 = .ok (.ifnonnull 8, 3) := by decide +kernel
theorem d13_9 : decode jdk_68_method_22_code 9 = .ok (.aload_n 1, 1) := by decide +kernel
theorem d13_10 : decode jdk_68_method_22_code 10 = .ok (.invokevirtual 32, 3) := by decide +kernel
theorem d13_13 : decode jdk_68_method_22_code 13 = .ok (.istore_n 2, 1) := by decide +kernel
theorem d13_14 : decode jdk_68_method_22_code 14 = .ok (.aload_n 0, 1) := by decide +kernel
theorem d13_15 : decode jdk_68_method_22_code 15 = .ok (.aload_n 0, 1) := by decide +kernel
theorem d13_16 : decode jdk_68_method_22_code 16 = .ok (.getfield 79, 3) := by decide +kernel
theorem d13_19 : decode jdk_68_method_22_code 19 = .ok (.iload_n 2, 1) := by decide +kernel
theorem d13_20 : decode jdk_68_method_22_code 20 = .ok (.iadd, 1) := by decide +kernel
theorem d13_21 : decode jdk_68_method_22_code 21 = .ok (.invokevirtual 100, 3) := by decide +kernel
theorem d13_24 : decode jdk_68_method_22_code 24 = .ok (.aload_n 0, 1) := by decide +kernel
theorem d13_25 : decode jdk_68_method_22_code 25 = .ok (.aload_n 0, 1) := by decide +kernel
theorem d13_26 : decode jdk_68_method_22_code 26 = .ok (.getfield 79, 3) := by decide +kernel
theorem d13_29 : decode jdk_68_method_22_code 29 = .ok (.aload_n 1, 1) := by decide +kernel
theorem d13_30 : decode jdk_68_method_22_code 30 = .ok (.invokevirtual 208, 3) := by decide +kernel
theorem d13_33 : decode jdk_68_method_22_code 33 = .ok (.aload_n 0, 1) := by decide +kernel
theorem d13_34 : decode jdk_68_method_22_code 34 = .ok (.dup, 1) := by decide +kernel
theorem d13_35 : decode jdk_68_method_22_code 35 = .ok (.getfield 79, 3) := by decide +kernel
theorem d13_38 : decode jdk_68_method_22_code 38 = .ok (.iload_n 2, 1) := by decide +kernel
theorem d13_39 : decode jdk_68_method_22_code 39 = .ok (.iadd, 1) := by decide +kernel
theorem d13_40 : decode jdk_68_method_22_code 40 = .ok (.putfield 79, 3) := by decide +kernel
theorem d13_43 : decode jdk_68_method_22_code 43 = .ok (.aload_n 0, 1) := by decide +kernel
theorem d13_44 : decode jdk_68_method_22_code 44 = .ok (.areturn, 1) := by decide +kernel
theorem d14_0 : decode jdk_42_method_54_code 0 = .ok (.aload_n 0, 1) := by decide +kernel
theorem d14_1 : decode jdk_42_method_54_code 1 = .ok (.getfield 9, 3) := by decide +kernel
theorem d14_4 : decode jdk_42_method_54_code 4 = .ok (.arraylength, 1) := by decide +kernel
theorem d14_5 : decode jdk_42_method_54_code 5 = .ok (.aload_n 0, 1) := by decide +kernel
theorem d14_6 : decode jdk_42_method_54_code 6 = .ok (.invokevirtual 335, 3) := by decide +kernel
theorem d14_9 : decode jdk_42_method_54_code 9 = .ok (.ishr, 1) := by decide +kernel
theorem d14_10 : decode jdk_42_method_54_code 10 = .ok (.ireturn, 1) := by decide +kernel
theorem d15_0 : decode jdk_42_method_152_code 0 = .ok (.getstatic 38, 3) := by decide +kernel
theorem d15_3 : decode jdk_42_method_152_code 3 = .ok (.ifCond .eq 10, 3) := by decide +kernel
theorem d15_6 : decode jdk_42_method_152_code 6 = .ok (.aload_n 0, 1) := by decide +kernel
theorem d15_7 : decode jdk_42_method_152_code 7 = .ok (.getfield 15, 3) := by decide +kernel
theorem d15_10 : decode jdk_42_method_152_code 10 = .ok (.goto 4, 3) := by decide +kernel
theorem d15_14 : decode jdk_42_method_152_code 14 = .ok (.ireturn, 1) := by decide +kernel
theorem d16_0 : decode jdk_68_method_9_code 0 = .ok (.aload_n 0, 1) := by decide +kernel
theorem d16_1 : decode jdk_68_method_9_code 1 = .ok (.getfield 15, 3) := by decide +kernel
theorem d16_4 : decode jdk_68_method_9_code 4 = .ok (.arraylength, 1) := by decide +kernel
theorem d16_5 : decode jdk_68_method_9_code 5 = .ok (.aload_n 0, 1) := by decide +kernel
theorem d16_6 : decode jdk_68_method_9_code 6 = .ok (.getfield 22, 3) := by decide +kernel
theorem d16_9 : decode jdk_68_method_9_code 9 = .ok (.ishr, 1) := by decide +kernel
theorem d16_10 : decode jdk_68_method_9_code 10 = .ok (.istore_n 2, 1) := by decide +kernel
theorem d16_11 : decode jdk_68_method_9_code 11 = .ok (.iload_n 1, 1) := by decide +kernel
theorem d16_12 : decode jdk_68_method_9_code 12 = .ok (.iload_n 2, 1) := by decide +kernel
theorem d16_13 : decode jdk_68_method_9_code 13 = .ok (.isub, 1) := by decide +kernel
theorem d16_14 : decode jdk_68_method_9_code 14 = .ok (.ifCond .le 24, 3) := by decide +kernel
theorem d16_38 : decode jdk_68_method_9_code 38 = .ok (.return_, 1) := by decide +kernel
theorem d17_0 : decode jdk_68_method_73_code 0 = .ok (.aload_n 0, 1) := by decide +kernel
theorem d17_1 : decode jdk_68_method_73_code 1 = .ok (.aload_n 2, 1) := by decide +kernel
theorem d17_2 : decode jdk_68_method_73_code 2 = .ok (.invokevirtual 397, 3) := by decide +kernel
theorem d17_5 : decode jdk_68_method_73_code 5 = .ok (.aload_n 2, 1) := by decide +kernel
theorem d17_6 : decode jdk_68_method_73_code 6 = .ok (.aload_n 0, 1) := by decide +kernel
theorem d17_7 : decode jdk_68_method_73_code 7 = .ok (.getfield 15, 3) := by decide +kernel
theorem d17_10 : decode jdk_68_method_73_code 10 = .ok (.iload_n 1, 1) := by decide +kernel
theorem d17_11 : decode jdk_68_method_73_code 11 = .ok (.aload_n 0, 1) := by decide +kernel
theorem d17_12 : decode jdk_68_method_73_code 12 = .ok (.getfield 22, 3) := by decide +kernel
theorem d17_15 : decode jdk_68_method_73_code 15 = .ok (.invokevirtual 399, 3) := by decide +kernel
theorem d17_18 : decode jdk_68_method_73_code 18 = .ok (.return_, 1) := by decide +kernel
theorem d18_0 : decode jdk_68_method_71_code 0 = .ok (.getstatic 18, 3) := by decide +kernel
theorem d18_3 : decode jdk_68_method_71_code 3 = .ok (.ifCond .eq 18, 3) := by decide +kernel
theorem d18_6 : decode jdk_68_method_71_code 6 = .ok (.aload_n 0, 1) := by decide +kernel
theorem d18_7 : decode jdk_68_method_71_code 7 = .ok (.getfield 22, 3) := by decide +kernel
theorem d18_10 : decode jdk_68_method_71_code 10 = .ok (.aload_n 1, 1) := by decide +kernel
theorem d18_11 : decode jdk_68_method_71_code 11 = .ok (.invokevirtual 40, 3) := by decide +kernel
theorem d18_14 : decode jdk_68_method_71_code 14 = .ok (.if_icmp .eq 7, 3) := by decide +kernel
theorem d18_21 : decode jdk_68_method_71_code 21 = .ok (.return_, 1) := by decide +kernel
theorem d19_0 : decode jdk_42_method_147_code 0 = .ok (.aload_n 0, 1) := by decide +kernel
theorem d19_1 : decode jdk_42_method_147_code 1 = .ok (.invokevirtual 335, 3) := by decide +kernel
theorem d19_4 : decode jdk_42_method_147_code 4 = .ok (.iload_n 3, 1) := by decide +kernel
theorem d19_5 : decode jdk_42_method_147_code 5 = .ok (.if_icmp .ne 23, 3) := by decide +kernel
theorem d19_8 : decode jdk_42_method_147_code 8 = .ok (.aload_n 0, 1) := by decide +kernel
theorem d19_9 : decode jdk_42_method_147_code 9 = .ok (.getfield 9, 3) := by decide +kernel
theorem d19_12 : decode jdk_42_method_147_code 12 = .ok (.iconst 0, 1) := by decide +kernel
theorem d19_13 : decode jdk_42_method_147_code 13 = .ok (.aload_n 1, 1) := by decide +kernel
theorem d19_14 : decode jdk_42_method_147_code 14 = .ok (.iload_n 2, 1) := by decide +kernel
theorem d19_15 : decode jdk_42_method_147_code 15 = .ok (.iload_n 3, 1) := by decide +kernel
theorem d19_16 : decode jdk_42_method_147_code 16 = .ok (.ishl, 1) := by decide +kernel
theorem d19_17 : decode jdk_42_method_147_code 17 = .ok (.aload_n 0, 1) := by decide +kernel
theorem d19_18 : decode jdk_42_method_147_code 18 = .ok (.getfield 9, 3) := by decide +kernel
theorem d19_21 : decode jdk_42_method_147_code 21 = .ok (.arraylength, 1) := by decide +kernel
theorem d19_22 : decode jdk_42_method_147_code 22 = .ok (.invokestatic 212, 3) := by decide +kernel
theorem d19_25 : decode jdk_42_method_147_code 25 = .ok (.goto 18, 3) := by decide +kernel
theorem d19_43 : decode jdk_42_method_147_code 43 = .ok (.return_, 1) := by decide +kernel
theorem d20_0 : decode jdk_67_method_15_code 0 = .ok (.aload_n 0, 1) := by decide +kernel
theorem d20_1 : decode jdk_67_method_15_code 1 = .ok (.iload_n 1, 1) := by decide +kernel
theorem d20_2 : decode jdk_67_method_15_code 2 = .ok (.invokespecial 53, 3) := by decide +kernel
theorem d20_5 : decode jdk_67_method_15_code 5 = .ok (.pop, 1) := by decide +kernel
theorem d20_6 : decode jdk_67_method_15_code 6 = .ok (.aload_n 0, 1) := by decide +kernel
theorem d20_7 : decode jdk_67_method_15_code 7 = .ok (.areturn, 1) := by decide +kernel
theorem d21_0 : decode jdk_68_method_32_code 0 = .ok (.aload_n 0, 1) := by decide +kernel
theorem d21_1 : decode jdk_68_method_32_code 1 = .ok (.getfield 79, 3) := by decide +kernel
theorem d21_4 : decode jdk_68_method_32_code 4 = .ok (.istore_n 2, 1) := by decide +kernel
theorem d21_5 : decode jdk_68_method_32_code 5 = .ok (.iload_n 2, 1) := by decide +kernel
theorem d21_6 : decode jdk_68_method_32_code 6 = .ok (.iload_n 1, 1) := by decide +kernel
theorem d21_7 : decode jdk_68_method_32_code 7 = .ok (.invokestatic 245, 3) := by decide +kernel
theorem d21_10 : decode jdk_68_method_32_code 10 = .ok (.iadd, 1) := by decide +kernel
theorem d21_11 : decode jdk_68_method_32_code 11 = .ok (.istore_n 3, 1) := by decide +kernel
theorem d21_12 : decode jdk_68_method_32_code 12 = .ok (.aload_n 0, 1) := by decide +kernel
theorem d21_13 : decode jdk_68_method_32_code 13 = .ok (.iload_n 3, 1) := by decide +kernel
theorem d21_14 : decode jdk_68_method_32_code 14 = .ok (.invokevirtual 100, 3) := by decide +kernel
theorem d21_17 : decode jdk_68_method_32_code 17 = .ok (.aload_n 0, 1) := by decide +kernel
theorem d21_18 : decode jdk_68_method_32_code 18 = .ok (.invokevirtual 83, 3) := by decide +kernel
theorem d21_21 : decode jdk_68_method_32_code 21 = .ok (.ifCond .eq 16, 3) := by decide +kernel
theorem d21_24 : decode jdk_68_method_32_code 24 = .ok (.iload_n 1, 1) := by decide +kernel
theorem d21_25 : decode jdk_68_method_32_code 25 = .ok (.iload_n 3, 1) := by decide +kernel
theorem d21_26 : decode jdk_68_method_32_code 26 = .ok (.aload_n 0, 1) := by decide +kernel
theorem d21_27 : decode jdk_68_method_32_code 27 = .ok (.getfield 15, 3) := by decide +kernel
theorem d21_30 : decode jdk_68_method_32_code 30 = .ok (.invokestatic 248, 3) := by decide +kernel
theorem d21_33 : decode jdk_68_method_32_code 33 = .ok (.pop, 1) := by decide +kernel
theorem d21_34 : decode jdk_68_method_32_code 34 = .ok (.goto 14, 3) := by decide +kernel
theorem d21_48 : decode jdk_68_method_32_code 48 = .ok (.aload_n 0, 1) := by decide +kernel
theorem d21_49 : decode jdk_68_method_32_code 49 = .ok (.iload_n 3, 1) := by decide +kernel
theorem d21_50 : decode jdk_68_method_32_code 50 = .ok (.putfield 79, 3) := by decide +kernel
theorem d21_53 : decode jdk_68_method_32_code 53 = .ok (.aload_n 0, 1) := by decide +kernel
theorem d21_54 : decode jdk_68_method_32_code 54 = .ok (.areturn, 1) := by decide +kernel
theorem d22_0 : decode jdk_33_method_13_code 0 = .ok (.iconst 1, 1) := by decide +kernel
theorem d22_1 : decode jdk_33_method_13_code 1 = .ok (.istore_n 1, 1) := by decide +kernel
theorem d22_2 : decode jdk_33_method_13_code 2 = .ok (.iload_n 0, 1) := by decide +kernel
theorem d22_3 : decode jdk_33_method_13_code 3 = .ok (.ifCond .lt 8, 3) := by decide +kernel
theorem d22_6 : decode jdk_33_method_13_code 6 = .ok (.iconst 0, 1) := by decide +kernel
theorem d22_7 : decode jdk_33_method_13_code 7 = .ok (.istore_n 1, 1) := by decide +kernel
theorem d22_8 : decode jdk_33_method_13_code 8 = .ok (.iload_n 0, 1) := by decide +kernel
theorem d22_9 : decode jdk_33_method_13_code 9 = .ok (.ineg, 1) := by decide +kernel
theorem d22_10 : decode jdk_33_method_13_code 10 = .ok (.istore_n 0, 1) := by decide +kernel
theorem d22_11 : decode jdk_33_method_13_code 11 = .ok (.bipush (-10), 2) := by decide +kernel
theorem d22_13 : decode jdk_33_method_13_code 13 = .ok (.istore_n 2, 1) := by decide +kernel
theorem d22_14 : decode jdk_33_method_13_code 14 = .ok (.iconst 1, 1) := by decide +kernel
theorem d22_15 : decode jdk_33_method_13_code 15 = .ok (.istore_n 3, 1) := by decide +kernel
theorem d22_16 : decode jdk_33_method_13_code 16 = .ok (.iload_n 3, 1) := by decide +kernel
theorem d22_17 : decode jdk_33_method_13_code 17 = .ok (.bipush 10, 2) := by decide +kernel
theorem d22_19 : decode jdk_33_method_13_code 19 = .ok (.if_icmp .ge 23, 3) := by decide +kernel
theorem d22_22 : decode jdk_33_method_13_code 22 = .ok (.iload_n 0, 1) := by decide +kernel
theorem d22_23 : decode jdk_33_method_13_code 23 = .ok (.iload_n 2, 1) := by decide +kernel
theorem d22_24 : decode jdk_33_method_13_code 24 = .ok (.if_icmp .le 7, 3) := by decide +kernel
theorem d22_27 : decode jdk_33_method_13_code 27 = .ok (.iload_n 3, 1) := by decide +kernel
theorem d22_28 : decode jdk_33_method_13_code 28 = .ok (.iload_n 1, 1) := by decide +kernel
theorem d22_29 : decode jdk_33_method_13_code 29 = .ok (.iadd, 1) := by decide +kernel
theorem d22_30 : decode jdk_33_method_13_code 30 = .ok (.ireturn, 1) := by decide +kernel
theorem d22_31 : decode jdk_33_method_13_code 31 = .ok (.bipush 10, 2) := by decide +kernel
theorem d22_33 : decode jdk_33_method_13_code 33 = .ok (.iload_n 2, 1) := by decide +kernel
theorem d22_34 : decode jdk_33_method_13_code 34 = .ok (.imul, 1) := by decide +kernel
theorem d22_35 : decode jdk_33_method_13_code 35 = .ok (.istore_n 2, 1) := by decide +kernel
theorem d22_36 : decode jdk_33_method_13_code 36 = .ok (.iinc 3 1, 3) := by decide +kernel
theorem d22_39 : decode jdk_33_method_13_code 39 = .ok (.goto (-23), 3) := by decide +kernel
theorem d23_0 : decode jdk_68_method_68_code 0 = .ok (.getstatic 18, 3) := by decide +kernel
theorem d23_3 : decode jdk_68_method_68_code 3 = .ok (.ifCond .eq 14, 3) := by decide +kernel
theorem d23_6 : decode jdk_68_method_68_code 6 = .ok (.aload_n 0, 1) := by decide +kernel
theorem d23_7 : decode jdk_68_method_68_code 7 = .ok (.getfield 22, 3) := by decide +kernel
theorem d23_10 : decode jdk_68_method_68_code 10 = .ok (.ifCond .ne 7, 3) := by decide +kernel
theorem d23_13 : decode jdk_68_method_68_code 13 = .ok (.iconst 1, 1) := by decide +kernel
theorem d23_14 : decode jdk_68_method_68_code 14 = .ok (.goto 4, 3) := by decide +kernel
theorem d23_18 : decode jdk_68_method_68_code 18 = .ok (.ireturn, 1) := by decide +kernel
theorem d24_0 : decode jdk_33_method_12_code 0 = .ok (.iload_n 1, 1) := by decide +kernel
theorem d24_1 : decode jdk_33_method_12_code 1 = .ok (.istore 5, 2) := by decide +kernel
theorem d24_3 : decode jdk_33_method_12_code 3 = .ok (.iload_n 0, 1) := by decide +kernel
theorem d24_4 : decode jdk_33_method_12_code 4 = .ok (.ifCond .ge 7, 3) := by decide +kernel
theorem d24_11 : decode jdk_33_method_12_code 11 = .ok (.iconst 0, 1) := by decide +kernel
theorem d24_12 : decode jdk_33_method_12_code 12 = .ok (.istore 6, 2) := by decide +kernel
theorem d24_14 : decode jdk_33_method_12_code 14 = .ok (.iload 6, 2) := by decide +kernel
theorem d24_16 : decode jdk_33_method_12_code 16 = .ok (.ifCond .ne 6, 3) := by decide +kernel
theorem d24_19 : decode jdk_33_method_12_code 19 = .ok (.iload_n 0, 1) := by decide +kernel
theorem d24_20 : decode jdk_33_method_12_code 20 = .ok (.ineg, 1) := by decide +kernel
theorem d24_21 : decode jdk_33_method_12_code 21 = .ok (.istore_n 0, 1) := by decide +kernel
theorem d24_22 : decode jdk_33_method_12_code 22 = .ok (.iload_n 0, 1) := by decide +kernel
theorem d24_23 : decode jdk_33_method_12_code 23 = .ok (.bipush (-100), 2) := by decide +kernel
theorem d24_25 : decode jdk_33_method_12_code 25 = .ok (.if_icmp .gt 47, 3) := by decide +kernel
theorem d24_28 : decode jdk_33_method_12_code 28 = .ok (.iload_n 0, 1) := by decide +kernel
theorem d24_29 : decode jdk_33_method_12_code 29 = .ok (.bipush 100, 2) := by decide +kernel
theorem d24_31 : decode jdk_33_method_12_code 31 = .ok (.idiv, 1) := by decide +kernel
theorem d24_32 : decode jdk_33_method_12_code 32 = .ok (.istore_n 3, 1) := by decide +kernel
theorem d24_33 : decode jdk_33_method_12_code 33 = .ok (.iload_n 3, 1) := by decide +kernel
theorem d24_34 : decode jdk_33_method_12_code 34 = .ok (.bipush 100, 2) := by decide +kernel
theorem d24_36 : decode jdk_33_method_12_code 36 = .ok (.imul, 1) := by decide +kernel
theorem d24_37 : decode jdk_33_method_12_code 37 = .ok (.iload_n 0, 1) := by decide +kernel
theorem d24_38 : decode jdk_33_method_12_code 38 = .ok (.isub, 1) := by decide +kernel
theorem d24_39 : decode jdk_33_method_12_code 39 = .ok (.istore 4, 2) := by decide +kernel
theorem d24_41 : decode jdk_33_method_12_code 41 = .ok (.iload_n 3, 1) := by decide +kernel
theorem d24_42 : decode jdk_33_method_12_code 42 = .ok (.istore_n 0, 1) := by decide +kernel
theorem d24_43 : decode jdk_33_method_12_code 43 = .ok (.aload_n 2, 1) := by decide +kernel
theorem d24_44 : decode jdk_33_method_12_code 44 = .ok (.iinc 5 (-1), 3) := by decide +kernel
theorem d24_47 : decode jdk_33_method_12_code 47 = .ok (.iload 5, 2) := by decide +kernel
theorem d24_49 : decode jdk_33_method_12_code 49 = .ok (.getstatic 83, 3) := by decide +kernel
theorem d24_52 : decode jdk_33_method_12_code 52 = .ok (.iload 4, 2) := by decide +kernel
theorem d24_54 : decode jdk_33_method_12_code 54 = .ok (.baload, 1) := by decide +kernel
theorem d24_55 : decode jdk_33_method_12_code 55 = .ok (.bastore, 1) := by decide +kernel
theorem d24_56 : decode jdk_33_method_12_code 56 = .ok (.aload_n 2, 1) := by decide +kernel
theorem d24_57 : decode jdk_33_method_12_code 57 = .ok (.iinc 5 (-1), 3) := by decide +kernel
theorem d24_60 : decode jdk_33_method_12_code 60 = .ok (.iload 5, 2) := by decide +kernel
theorem d24_62 : decode jdk_33_method_12_code 62 = .ok (.getstatic 87, 3) := by decide +kernel
theorem d24_65 : decode jdk_33_method_12_code 65 = .ok (.iload 4, 2) := by decide +kernel
theorem d24_67 : decode jdk_33_method_12_code 67 = .ok (.baload, 1) := by decide +kernel
theorem d24_68 : decode jdk_33_method_12_code 68 = .ok (.bastore, 1) := by decide +kernel
theorem d24_69 : decode jdk_33_method_12_code 69 = .ok (.goto (-47), 3) := by decide +kernel
theorem d24_72 : decode jdk_33_method_12_code 72 = .ok (.aload_n 2, 1) := by decide +kernel
theorem d24_73 : decode jdk_33_method_12_code 73 = .ok (.iinc 5 (-1), 3) := by decide +kernel
theorem d24_76 : decode jdk_33_method_12_code 76 = .ok (.iload 5, 2) := by decide +kernel
theorem d24_78 : decode jdk_33_method_12_code 78 = .ok (.getstatic 83, 3) := by decide +kernel
theorem d24_81 : decode jdk_33_method_12_code 81 = .ok (.iload_n 0, 1) := by decide +kernel
theorem d24_82 : decode jdk_33_method_12_code 82 = .ok (.ineg, 1) := by decide +kernel
theorem d24_83 : decode jdk_33_method_12_code 83 = .ok (.baload, 1) := by decide +kernel
theorem d24_84 : decode jdk_33_method_12_code 84 = .ok (.bastore, 1) := by decide +kernel
theorem d24_85 : decode jdk_33_method_12_code 85 = .ok (.iload_n 0, 1) := by decide +kernel
theorem d24_86 : decode jdk_33_method_12_code 86 = .ok (.bipush (-9), 2) := by decide +kernel
theorem d24_88 : decode jdk_33_method_12_code 88 = .ok (.if_icmp .ge 16, 3) := by decide +kernel
theorem d24_91 : decode jdk_33_method_12_code 91 = .ok (.aload_n 2, 1) := by decide +kernel
theorem d24_92 : decode jdk_33_method_12_code 92 = .ok (.iinc 5 (-1), 3) := by decide +kernel
theorem d24_95 : decode jdk_33_method_12_code 95 = .ok (.iload 5, 2) := by decide +kernel
theorem d24_97 : decode jdk_33_method_12_code 97 = .ok (.getstatic 87, 3) := by decide +kernel
theorem d24_100 : decode jdk_33_method_12_code 100 = .ok (.iload_n 0, 1) := by decide +kernel
theorem d24_101 : decode jdk_33_method_12_code 101 = .ok (.ineg, 1) := by decide +kernel
theorem d24_102 : decode jdk_33_method_12_code 102 = .ok (.baload, 1) := by decide +kernel
theorem d24_103 : decode jdk_33_method_12_code 103 = .ok (.bastore, 1) := by decide +kernel
theorem d24_104 : decode jdk_33_method_12_code 104 = .ok (.iload 6, 2) := by decide +kernel
theorem d24_106 : decode jdk_33_method_12_code 106 = .ok (.ifCond .eq 12, 3) := by decide +kernel
theorem d24_118 : decode jdk_33_method_12_code 118 = .ok (.iload 5, 2) := by decide +kernel
theorem d24_120 : decode jdk_33_method_12_code 120 = .ok (.ireturn, 1) := by decide +kernel
theorem d25_0 : decode jdk_67_method_42_code 0 = .ok (.new 18, 3) := by decide +kernel
theorem d25_3 : decode jdk_67_method_42_code 3 = .ok (.dup, 1) := by decide +kernel
theorem d25_4 : decode jdk_67_method_42_code 4 = .ok (.aload_n 0, 1) := by decide +kernel
theorem d25_5 : decode jdk_67_method_42_code 5 = .ok (.invokespecial 137, 3) := by decide +kernel
theorem d25_8 : decode jdk_67_method_42_code 8 = .ok (.areturn, 1) := by decide +kernel
theorem d26_0 : decode jdk_42_method_53_code 0 = .ok (.aload_n 0, 1) := by decide +kernel
theorem d26_1 : decode jdk_42_method_53_code 1 = .ok (.aload_n 1, 1) := by decide +kernel
theorem d26_2 : decode jdk_42_method_53_code 2 = .ok (.aconst_null, 1) := by decide +kernel
theorem d26_3 : decode jdk_42_method_53_code 3 = .ok (.invokespecial 489, 3) := by decide +kernel
theorem d26_6 : decode jdk_42_method_53_code 6 = .ok (.return_, 1) := by decide +kernel
theorem d27_0 : decode jdk_42_method_150_code 0 = .ok (.aload_n 0, 1) := by decide +kernel
theorem d27_1 : decode jdk_42_method_150_code 1 = .ok (.invokespecial 1, 3) := by decide +kernel
theorem d27_4 : decode jdk_42_method_150_code 4 = .ok (.aload_n 1, 1) := by decide +kernel
theorem d27_5 : decode jdk_42_method_150_code 5 = .ok (.invokevirtual 552, 3) := by decide +kernel
theorem d27_8 : decode jdk_42_method_150_code 8 = .ok (.astore_n 3, 1) := by decide +kernel
theorem d27_9 : decode jdk_42_method_150_code 9 = .ok (.aload_n 1, 1) := by decide +kernel
theorem d27_10 : decode jdk_42_method_150_code 10 = .ok (.invokevirtual 549, 3) := by decide +kernel
theorem d27_13 : decode jdk_42_method_150_code 13 = .ok (.istore 4, 2) := by decide +kernel
theorem d27_15 : decode jdk_42_method_150_code 15 = .ok (.aload_n 1, 1) := by decide +kernel
theorem d27_16 : decode jdk_42_method_150_code 16 = .ok (.invokevirtual 1047, 3) := by decide +kernel
theorem d27_19 : decode jdk_42_method_150_code 19 = .ok (.ifCond .eq 22, 3) := by decide +kernel
theorem d27_22 : decode jdk_42_method_150_code 22 = .ok (.aload_n 0, 1) := by decide +kernel
theorem d27_23 : decode jdk_42_method_150_code 23 = .ok (.iconst 0, 1) := by decide +kernel
theorem d27_24 : decode jdk_42_method_150_code 24 = .ok (.putfield 15, 3) := by decide +kernel
theorem d27_27 : decode jdk_42_method_150_code 27 = .ok (.aload_n 0, 1) := by decide +kernel
theorem d27_28 : decode jdk_42_method_150_code 28 = .ok (.aload_n 3, 1) := by decide +kernel
theorem d27_29 : decode jdk_42_method_150_code 29 = .ok (.iconst 0, 1) := by decide +kernel
theorem d27_30 : decode jdk_42_method_150_code 30 = .ok (.iload 4, 2) := by decide +kernel
theorem d27_32 : decode jdk_42_method_150_code 32 = .ok (.invokestatic 54, 3) := by decide +kernel
theorem d27_35 : decode jdk_42_method_150_code 35 = .ok (.putfield 9, 3) := by decide +kernel
theorem d27_38 : decode jdk_42_method_150_code 38 = .ok (.goto 59, 3) := by decide +kernel
theorem d27_97 : decode jdk_42_method_150_code 97 = .ok (.return_, 1) := by decide +kernel
theorem d28_0 : decode jdk_68_method_64_code 0 = .ok (.aload_n 0, 1) := by decide +kernel
theorem d28_1 : decode jdk_68_method_64_code 1 = .ok (.getfield 15, 3) := by decide +kernel
theorem d28_4 : decode jdk_68_method_64_code 4 = .ok (.areturn, 1) := by decide +kernel
theorem d29_0 : decode jdk_67_method_93_code 0 = .ok (.aload_n 0, 1) := by decide +kernel
theorem d29_1 : decode jdk_67_method_93_code 1 = .ok (.invokespecial 343, 3) := by decide +kernel
theorem d29_4 : decode jdk_67_method_93_code 4 = .ok (.ireturn, 1) := by decide +kernel
theorem d30_0 : decode jdk_68_method_6_code 0 = .ok (.aload_n 0, 1) := by decide +kernel
theorem d30_1 : decode jdk_68_method_6_code 1 = .ok (.getfield 79, 3) := by decide +kernel
theorem d30_4 : decode jdk_68_method_6_code 4 = .ok (.ireturn, 1) := by decide +kernel
theorem d31_0 : decode jdk_65_method_132_code 0 = .ok (.iload_n 1, 1) := by decide +kernel
theorem d31_1 : decode jdk_65_method_132_code 1 = .ok (.ifCond .ne 9, 3) := by decide +kernel
theorem d31_4 : decode jdk_65_method_132_code 4 = .ok (.iload_n 2, 1) := by decide +kernel
theorem d31_5 : decode jdk_65_method_132_code 5 = .ok (.aload_n 0, 1) := by decide +kernel
theorem d31_6 : decode jdk_65_method_132_code 6 = .ok (.arraylength, 1) := by decide +kernel
theorem d31_7 : decode jdk_65_method_132_code 7 = .ok (.if_icmp .eq 10, 3) := by decide +kernel
theorem d31_10 : decode jdk_65_method_132_code 10 = .ok (.aload_n 0, 1) := by decide +kernel
theorem d31_11 : decode jdk_65_method_132_code 11 = .ok (.iload_n 1, 1) := by decide +kernel
theorem d31_12 : decode jdk_65_method_132_code 12 = .ok (.iload_n 2, 1) := by decide +kernel
theorem d31_13 : decode jdk_65_method_132_code 13 = .ok (.invokestatic 339, 3) := by decide +kernel
theorem d31_16 : decode jdk_65_method_132_code 16 = .ok (.areturn, 1) := by decide +kernel
theorem d32_0 : decode jdk_65_method_133_code 0 = .ok (.iload_n 1, 1) := by decide +kernel
theorem d32_1 : decode jdk_65_method_133_code 1 = .ok (.iload_n 2, 1) := by decide +kernel
theorem d32_2 : decode jdk_65_method_133_code 2 = .ok (.invokestatic 343, 3) := by decide +kernel
theorem d32_5 : decode jdk_65_method_133_code 5 = .ok (.iload_n 2, 1) := by decide +kernel
theorem d32_6 : decode jdk_65_method_133_code 6 = .ok (.iload_n 1, 1) := by decide +kernel
theorem d32_7 : decode jdk_65_method_133_code 7 = .ok (.isub, 1) := by decide +kernel
theorem d32_8 : decode jdk_65_method_133_code 8 = .ok (.istore_n 3, 1) := by decide +kernel
theorem d32_9 : decode jdk_65_method_133_code 9 = .ok (.iload_n 3, 1) := by decide +kernel
theorem d32_10 : decode jdk_65_method_133_code 10 = .ok (.newarray .byte, 2) := by decide +kernel
theorem d32_12 : decode jdk_65_method_133_code 12 = .ok (.astore 4, 2) := by decide +kernel
theorem d32_14 : decode jdk_65_method_133_code 14 = .ok (.aload_n 0, 1) := by decide +kernel
theorem d32_15 : decode jdk_65_method_133_code 15 = .ok (.iload_n 1, 1) := by decide +kernel
theorem d32_16 : decode jdk_65_method_133_code 16 = .ok (.aload 4, 2) := by decide +kernel
theorem d32_18 : decode jdk_65_method_133_code 18 = .ok (.iconst 0, 1) := by decide +kernel
theorem d32_19 : decode jdk_65_method_133_code 19 = .ok (.aload_n 0, 1) := by decide +kernel
theorem d32_20 : decode jdk_65_method_133_code 20 = .ok (.arraylength, 1) := by decide +kernel
theorem d32_21 : decode jdk_65_method_133_code 21 = .ok (.iload_n 1, 1) := by decide +kernel
theorem d32_22 : decode jdk_65_method_133_code 22 = .ok (.isub, 1) := by decide +kernel
theorem d32_23 : decode jdk_65_method_133_code 23 = .ok (.iload_n 3, 1) := by decide +kernel
theorem d32_24 : decode jdk_65_method_133_code 24 = .ok (.invokestatic 304, 3) := by decide +kernel
theorem d32_27 : decode jdk_65_method_133_code 27 = .ok (.invokestatic 150, 3) := by decide +kernel
theorem d32_30 : decode jdk_65_method_133_code 30 = .ok (.aload 4, 2) := by decide +kernel
theorem d32_32 : decode jdk_65_method_133_code 32 = .ok (.areturn, 1) := by decide +kernel
theorem d33_0 : decode jdk_65_method_131_code 0 = .ok (.iload_n 1, 1) := by decide +kernel
theorem d33_1 : decode jdk_65_method_131_code 1 = .ok (.iload_n 0, 1) := by decide +kernel
theorem d33_2 : decode jdk_65_method_131_code 2 = .ok (.if_icmp .ge 35, 3) := by decide +kernel
theorem d33_37 : decode jdk_65_method_131_code 37 = .ok (.return_, 1) := by decide +kernel
theorem d34_0 : decode jdk_29_method_69_code 0 = .ok (.iload_n 0, 1) := by decide +kernel
theorem d34_1 : decode jdk_29_method_69_code 1 = .ok (.iload_n 1, 1) := by decide +kernel
theorem d34_2 : decode jdk_29_method_69_code 2 = .ok (.if_icmp .gt 7, 3) := by decide +kernel
theorem d34_5 : decode jdk_29_method_69_code 5 = .ok (.iload_n 0, 1) := by decide +kernel
theorem d34_6 : decode jdk_29_method_69_code 6 = .ok (.goto 4, 3) := by decide +kernel
theorem d34_9 : decode jdk_29_method_69_code 9 = .ok (.iload_n 1, 1) := by decide +kernel
theorem d34_10 : decode jdk_29_method_69_code 10 = .ok (.ireturn, 1) := by decide +kernel
theorem d35_0 : decode method_4_code 0 = .ok (.iload_n 1, 1) := by decide +kernel
theorem d35_1 : decode method_4_code 1 = .ok (.iload 6, 2) := by decide +kernel
theorem d35_3 : decode method_4_code 3 = .ok (.if_icmp .lt 5, 3) := by decide +kernel
theorem d35_6 : decode method_4_code 6 = .ok (.iconst 1, 1) := by decide +kernel
theorem d35_7 : decode method_4_code 7 = .ok (.ireturn, 1) := by decide +kernel
theorem d35_8 : decode method_4_code 8 = .ok (.iload_n 1, 1) := by decide +kernel
theorem d35_9 : decode method_4_code 9 = .ok (.iload_n 3, 1) := by decide +kernel
theorem d35_10 : decode method_4_code 10 = .ok (.if_icmp .ge 11, 3) := by decide +kernel
theorem d35_13 : decode method_4_code 13 = .ok (.aload_n 2, 1) := by decide +kernel
theorem d35_14 : decode method_4_code 14 = .ok (.iload_n 1, 1) := by decide +kernel
theorem d35_15 : decode method_4_code 15 = .ok (.caload, 1) := by decide +kernel
theorem d35_16 : decode method_4_code 16 = .ok (.istore 7, 2) := by decide +kernel
theorem d35_18 : decode method_4_code 18 = .ok (.goto 44, 3) := by decide +kernel
theorem d35_21 : decode method_4_code 21 = .ok (.iload_n 1, 1) := by decide +kernel
theorem d35_22 : decode method_4_code 22 = .ok (.iload_n 3, 1) := by decide +kernel
theorem d35_23 : decode method_4_code 23 = .ok (.if_icmp .ne 10, 3) := by decide +kernel
theorem d35_26 : decode method_4_code 26 = .ok (.bipush 58, 2) := by decide +kernel
theorem d35_28 : decode method_4_code 28 = .ok (.istore 7, 2) := by decide +kernel
theorem d35_30 : decode method_4_code 30 = .ok (.goto 32, 3) := by decide +kernel
theorem d35_33 : decode method_4_code 33 = .ok (.iload_n 1, 1) := by decide +kernel
theorem d35_34 : decode method_4_code 34 = .ok (.iload_n 3, 1) := by decide +kernel
theorem d35_35 : decode method_4_code 35 = .ok (.isub, 1) := by decide +kernel
theorem d35_36 : decode method_4_code 36 = .ok (.iconst 1, 1) := by decide +kernel
theorem d35_37 : decode method_4_code 37 = .ok (.isub, 1) := by decide +kernel
theorem d35_38 : decode method_4_code 38 = .ok (.istore 8, 2) := by decide +kernel
theorem d35_40 : decode method_4_code 40 = .ok (.bipush 48, 2) := by decide +kernel
theorem d35_42 : decode method_4_code 42 = .ok (.iload 4, 2) := by decide +kernel
theorem d35_44 : decode method_4_code 44 = .ok (.iload 5, 2) := by decide +kernel
theorem d35_46 : decode method_4_code 46 = .ok (.iconst 1, 1) := by decide +kernel
theorem d35_47 : decode method_4_code 47 = .ok (.isub, 1) := by decide +kernel
theorem d35_48 : decode method_4_code 48 = .ok (.iload 8, 2) := by decide +kernel
theorem d35_50 : decode method_4_code 50 = .ok (.isub, 1) := by decide +kernel
theorem d35_51 : decode method_4_code 51 = .ok (.invokestatic 33, 3) := by decide +kernel
theorem d35_54 : decode method_4_code 54 = .ok (.idiv, 1) := by decide +kernel
theorem d35_55 : decode method_4_code 55 = .ok (.bipush 10, 2) := by decide +kernel
theorem d35_57 : decode method_4_code 57 = .ok (.irem, 1) := by decide +kernel
theorem d35_58 : decode method_4_code 58 = .ok (.iadd, 1) := by decide +kernel
theorem d35_59 : decode method_4_code 59 = .ok (.i2c, 1) := by decide +kernel
theorem d35_60 : decode method_4_code 60 = .ok (.istore 7, 2) := by decide +kernel
theorem d35_62 : decode method_4_code 62 = .ok (.aload_n 0, 1) := by decide +kernel
theorem d35_63 : decode method_4_code 63 = .ok (.iload_n 1, 1) := by decide +kernel
theorem d35_64 : decode method_4_code 64 = .ok (.invokevirtual 37, 3) := by decide +kernel
theorem d35_67 : decode method_4_code 67 = .ok (.iload 7, 2) := by decide +kernel
theorem d35_69 : decode method_4_code 69 = .ok (.if_icmp .ne 7, 3) := by decide +kernel
theorem d35_72 : decode method_4_code 72 = .ok (.iconst 1, 1) := by decide +kernel
theorem d35_73 : decode method_4_code 73 = .ok (.goto 4, 3) := by decide +kernel
theorem d35_77 : decode method_4_code 77 = .ok (.ireturn, 1) := by decide +kernel
theorem d36_0 : decode jdk_42_method_56_code 0 = .ok (.aload_n 0, 1) := by decide +kernel
theorem d36_1 : decode jdk_42_method_56_code 1 = .ok (.invokevirtual 492, 3) := by decide +kernel
theorem d36_4 : decode jdk_42_method_56_code 4 = .ok (.ifCond .eq 12, 3) := by decide +kernel
theorem d36_7 : decode jdk_42_method_56_code 7 = .ok (.aload_n 0, 1) := by decide +kernel
theorem d36_8 : decode jdk_42_method_56_code 8 = .ok (.getfield 9, 3) := by decide +kernel
theorem d36_11 : decode jdk_42_method_56_code 11 = .ok (.iload_n 1, 1) := by decide +kernel
theorem d36_12 : decode jdk_42_method_56_code 12 = .ok (.invokestatic 495, 3) := by decide +kernel
theorem d36_15 : decode jdk_42_method_56_code 15 = .ok (.ireturn, 1) := by decide +kernel
theorem d37_0 : decode jdk_42_method_154_code 0 = .ok (.getstatic 38, 3) := by decide +kernel
theorem d37_3 : decode jdk_42_method_154_code 3 = .ok (.ifCond .eq 14, 3) := by decide +kernel
theorem d37_6 : decode jdk_42_method_154_code 6 = .ok (.aload_n 0, 1) := by decide +kernel
theorem d37_7 : decode jdk_42_method_154_code 7 = .ok (.getfield 15, 3) := by decide +kernel
theorem d37_10 : decode jdk_42_method_154_code 10 = .ok (.ifCond .ne 7, 3) := by decide +kernel
theorem d37_13 : decode jdk_42_method_154_code 13 = .ok (.iconst 1, 1) := by decide +kernel
theorem d37_14 : decode jdk_42_method_154_code 14 = .ok (.goto 4, 3) := by decide +kernel
theorem d37_17 : decode jdk_42_method_154_code 17 = .ok (.iconst 0, 1) := by decide +kernel
theorem d37_18 : decode jdk_42_method_154_code 18 = .ok (.ireturn, 1) := by decide +kernel
theorem d38_0 : decode jdk_43_method_2_code 0 = .ok (.iload_n 1, 1) := by decide +kernel
theorem d38_1 : decode jdk_43_method_2_code 1 = .ok (.aload_n 0, 1) := by decide +kernel
theorem d38_2 : decode jdk_43_method_2_code 2 = .ok (.arraylength, 1) := by decide +kernel
theorem d38_3 : decode jdk_43_method_2_code 3 = .ok (.invokestatic 9, 3) := by decide +kernel
theorem d38_6 : decode jdk_43_method_2_code 6 = .ok (.aload_n 0, 1) := by decide +kernel
theorem d38_7 : decode jdk_43_method_2_code 7 = .ok (.iload_n 1, 1) := by decide +kernel
theorem d38_8 : decode jdk_43_method_2_code 8 = .ok (.baload, 1) := by decide +kernel
theorem d38_9 : decode jdk_43_method_2_code 9 = .ok (.sipush 255, 3) := by decide +kernel
theorem d38_12 : decode jdk_43_method_2_code 12 = .ok (.iand, 1) := by decide +kernel
theorem d38_13 : decode jdk_43_method_2_code 13 = .ok (.i2c, 1) := by decide +kernel
theorem d38_14 : decode jdk_43_method_2_code 14 = .ok (.ireturn, 1) := by decide +kernel
theorem d39_0 : decode jdk_42_method_155_code 0 = .ok (.iload_n 0, 1) := by decide +kernel
theorem d39_1 : decode jdk_42_method_155_code 1 = .ok (.iload_n 1, 1) := by decide +kernel
theorem d39_2 : decode jdk_42_method_155_code 2 = .ok (.getstatic 1053, 3) := by decide +kernel
theorem d39_5 : decode jdk_42_method_155_code 5 = .ok (.invokestatic 1059, 3) := by decide +kernel
theorem d39_8 : decode jdk_42_method_155_code 8 = .ok (.pop, 1) := by decide +kernel
theorem d39_9 : decode jdk_42_method_155_code 9 = .ok (.return_, 1) := by decide +kernel
theorem d40_0 : decode jdk_41_method_11_code 0 = .ok (.iload_n 0, 1) := by decide +kernel
theorem d40_1 : decode jdk_41_method_11_code 1 = .ok (.ifCond .lt 8, 3) := by decide +kernel
theorem d40_4 : decode jdk_41_method_11_code 4 = .ok (.iload_n 0, 1) := by decide +kernel
theorem d40_5 : decode jdk_41_method_11_code 5 = .ok (.iload_n 1, 1) := by decide +kernel
theorem d40_6 : decode jdk_41_method_11_code 6 = .ok (.if_icmp .lt 10, 3) := by decide +kernel
theorem d40_16 : decode jdk_41_method_11_code 16 = .ok (.iload_n 0, 1) := by decide +kernel
theorem d40_17 : decode jdk_41_method_11_code 17 = .ok (.ireturn, 1) := by decide +kernel
theorem d41_0 : decode method_3_code 0 = .ok (.iload_n 0, 1) := by decide +kernel
theorem d41_1 : decode method_3_code 1 = .ok (.ifCond .gt 5, 3) := by decide +kernel
theorem d41_4 : decode method_3_code 4 = .ok (.iconst 1, 1) := by decide +kernel
theorem d41_5 : decode method_3_code 5 = .ok (.ireturn, 1) := by decide +kernel
theorem d41_6 : decode method_3_code 6 = .ok (.iload_n 0, 1) := by decide +kernel
theorem d41_7 : decode method_3_code 7 = .ok (.iconst 1, 1) := by decide +kernel
theorem d41_8 : decode method_3_code 8 = .ok (.if_icmp .ne 6, 3) := by decide +kernel
theorem d41_11 : decode method_3_code 11 = .ok (.bipush 10, 2) := by decide +kernel
theorem d41_13 : decode method_3_code 13 = .ok (.ireturn, 1) := by decide +kernel
theorem d41_14 : decode method_3_code 14 = .ok (.iload_n 0, 1) := by decide +kernel
theorem d41_15 : decode method_3_code 15 = .ok (.iconst 2, 1) := by decide +kernel
theorem d41_16 : decode method_3_code 16 = .ok (.if_icmp .ne 6, 3) := by decide +kernel
theorem d41_19 : decode method_3_code 19 = .ok (.bipush 100, 2) := by decide +kernel
theorem d41_21 : decode method_3_code 21 = .ok (.ireturn, 1) := by decide +kernel
theorem d41_22 : decode method_3_code 22 = .ok (.iload_n 0, 1) := by decide +kernel
theorem d41_23 : decode method_3_code 23 = .ok (.iconst 3, 1) := by decide +kernel
theorem d41_24 : decode method_3_code 24 = .ok (.if_icmp .ne 7, 3) := by decide +kernel
theorem d41_27 : decode method_3_code 27 = .ok (.sipush 1000, 3) := by decide +kernel
theorem d41_30 : decode method_3_code 30 = .ok (.ireturn, 1) := by decide +kernel
theorem d41_31 : decode method_3_code 31 = .ok (.sipush 10000, 3) := by decide +kernel
theorem d41_34 : decode method_3_code 34 = .ok (.ireturn, 1) := by decide +kernel
theorem pd0 : parseMethodDescriptor "([CI[BII)I" = some ⟨[(.array .char), .int, (.array .byte), .int, .int], some .int⟩ := by decide +kernel
theorem pd1 : parseMethodDescriptor "([CII)[B" = some ⟨[(.array .char), .int, .int], some (.array .byte)⟩ := by decide +kernel
theorem pd2 : parseMethodDescriptor "([BI)B" = some ⟨[(.array .byte), .int], some .byte⟩ := by decide +kernel
theorem pd3 : parseMethodDescriptor "([CIILjava/lang/Void;)V" = some ⟨[(.array .char), .int, .int, (.object "java/lang/Void")], none⟩ := by decide +kernel
theorem pd4 : parseMethodDescriptor "()B" = some ⟨[], some .byte⟩ := by decide +kernel
theorem pd5 : parseMethodDescriptor "(II)V" = some ⟨[.int, .int], none⟩ := by decide +kernel
theorem pd6 : parseMethodDescriptor "(II)I" = some ⟨[.int, .int], some .int⟩ := by decide +kernel
theorem pd7 : parseMethodDescriptor "([BII)[B" = some ⟨[(.array .byte), .int, .int], some (.array .byte)⟩ := by decide +kernel
theorem pd8 : parseMethodDescriptor "(I)V" = some ⟨[.int], none⟩ := by decide +kernel
theorem pd9 : parseMethodDescriptor "(Ljava/lang/String;)V" = some ⟨[(.object "java/lang/String")], none⟩ := by decide +kernel
theorem pd10 : parseMethodDescriptor "([BIB)V" = some ⟨[(.array .byte), .int, .byte], none⟩ := by decide +kernel
theorem pd11 : parseMethodDescriptor "()I" = some ⟨[], some .int⟩ := by decide +kernel
theorem pd12 : parseMethodDescriptor "(ILjava/lang/String;)V" = some ⟨[.int, (.object "java/lang/String")], none⟩ := by decide +kernel
theorem pd13 : parseMethodDescriptor "(Ljava/lang/String;)Ljava/lang/AbstractStringBuilder;" = some ⟨[(.object "java/lang/String")], some (.object "java/lang/AbstractStringBuilder")⟩ := by decide +kernel
theorem pd14 : parseMethodDescriptor "(I)I" = some ⟨[.int], some .int⟩ := by decide +kernel
theorem pd15 : parseMethodDescriptor "()Z" = some ⟨[], some .boolean⟩ := by decide +kernel
theorem pd16 : parseMethodDescriptor "(II[B)I" = some ⟨[.int, .int, (.array .byte)], some .int⟩ := by decide +kernel
theorem pd17 : parseMethodDescriptor "(I)Ljava/lang/AbstractStringBuilder;" = some ⟨[.int], some (.object "java/lang/AbstractStringBuilder")⟩ := by decide +kernel
theorem pd18 : parseMethodDescriptor "()[B" = some ⟨[], some (.array .byte)⟩ := by decide +kernel
theorem pd19 : parseMethodDescriptor "(Ljava/lang/AbstractStringBuilder;Ljava/lang/Void;)V" = some ⟨[(.object "java/lang/AbstractStringBuilder"), (.object "java/lang/Void")], none⟩ := by decide +kernel
theorem pd20 : parseMethodDescriptor "(Ljava/lang/StringBuilder;)V" = some ⟨[(.object "java/lang/StringBuilder")], none⟩ := by decide +kernel
theorem pd21 : parseMethodDescriptor "(IILjava/util/function/BiFunction;)I" = some ⟨[.int, .int, (.object "java/util/function/BiFunction")], some .int⟩ := by decide +kernel
theorem pd22 : parseMethodDescriptor "([BI)C" = some ⟨[(.array .byte), .int], some .char⟩ := by decide +kernel
theorem pd23 : parseMethodDescriptor "()V" = some ⟨[], none⟩ := by decide +kernel
theorem pd24 : parseMethodDescriptor "(Ljava/lang/String;)Ljava/lang/StringBuilder;" = some ⟨[(.object "java/lang/String")], some (.object "java/lang/StringBuilder")⟩ := by decide +kernel
theorem pd25 : parseMethodDescriptor "(I)Ljava/lang/StringBuilder;" = some ⟨[.int], some (.object "java/lang/StringBuilder")⟩ := by decide +kernel
theorem pd26 : parseMethodDescriptor "()Ljava/lang/String;" = some ⟨[], some (.object "java/lang/String")⟩ := by decide +kernel
theorem pd27 : parseMethodDescriptor "(I)C" = some ⟨[.int], some .char⟩ := by decide +kernel
theorem pd28 : parseMethodDescriptor "([C)V" = some ⟨[(.array .char)], none⟩ := by decide +kernel
theorem pd29 : parseMethodDescriptor "(Ljava/lang/String;I)V" = some ⟨[(.object "java/lang/String"), .int], none⟩ := by decide +kernel
theorem pd30 : parseMethodDescriptor "(Ljava/lang/String;I[CIIII)Z" = some ⟨[(.object "java/lang/String"), .int, (.array .char), .int, .int, .int, .int], some .boolean⟩ := by decide +kernel
theorem pn0 : plainName "java/lang/StringUTF16" = true := by first | (simp [plainName, overriddenIn]; done) | decide +kernel
theorem pn1 : plainName "java/lang/String" = true := by first | (simp [plainName, overriddenIn]; done) | decide +kernel
theorem pn2 : plainName "java/util/Arrays" = true := by first | (simp [plainName, overriddenIn]; done) | decide +kernel
theorem pn3 : plainName "java/lang/AbstractStringBuilder" = true := by first | (simp [plainName, overriddenIn]; done) | decide +kernel
theorem pn4 : plainName "java/lang/StringBuilder" = true := by first | (simp [plainName, overriddenIn]; done) | decide +kernel
theorem pn5 : plainName "java/lang/Integer" = true := by first | (simp [plainName, overriddenIn]; done) | decide +kernel
theorem pn6 : plainName "jdk/internal/util/Preconditions" = true := by first | (simp [plainName, overriddenIn]; done) | decide +kernel
theorem pn7 : plainName "java/lang/StringLatin1" = true := by first | (simp [plainName, overriddenIn]; done) | decide +kernel
theorem pn8 : plainName "java/lang/Record" = true := by first | (simp [plainName, overriddenIn]; done) | decide +kernel
theorem pn9 : plainName "com/example/meander/meander/cluster/WorkerAddress" = true := by first | (simp [plainName, overriddenIn]; done) | decide +kernel
theorem pn10 : plainName "com/example/meander/meander/cluster/WorkerAddressToStringPinLaw" = true := by first | (simp [plainName, overriddenIn]; done) | decide +kernel
def codF (z : Int32) (n : Nat) : Int32 := nar .byte (lo8 (XT.ushr (z - Int32.ofNat n) 31))
set_option maxRecDepth 65536 in
set_option maxHeartbeats 4000000 in
theorem c_coderLen {l : Launch} {Z : State} {a0 : Array Value} {EL : List (String × Nat)} (hG : oG a0 Z EL) (d : Nat) (ws : List Value) (z : Int32) (h : Heap) (B : oArr Z h d .byte ws) :
    oCtr [] l Z a0 EL True (⟨"java/lang/StringUTF16", "coderFromArrayLen", "([BI)B"⟩ : MethodName) jdk_52_method_15_code 2 (some .byte) ({ frames := 0, cells := 0, slots := 0, locals := 0 } : Room) #[.ref d, .int z] [] h (fun v h' => v = some (.int (codF z ws.length)) ∧ h' = h) oNo := by
  refine oCtr.enter (Ls := #[.val (.ref d), .val (.int z)]) (plainFor_of_name pn0) hG.2.1 (fun m => by first | (simp [entryFrame, mkF, argsToLocals, Value.category]; done) | rfl) ?_
  intro pP eE sS mM bB tT cC
  refine oGo.iload_n (pc' := 1) d6_0 rfl rfl ?_
  refine oGo.aload_n (pc' := 2) d6_1 rfl rfl rfl ?_
  refine oGo.arraylength (pc' := 3) (z := (Int32.ofNat ws.length)) d6_2 rfl B rfl ?_
  refine oGo.isub (pc' := 4) d6_3 rfl ?_
  refine oGo.bipush (pc' := 6) (v := 31) d6_4 rfl (by decide) ?_
  refine oGo.iushr (pc' := 7) d6_6 rfl ?_
  refine oGo.i2b (pc' := 8) d6_7 rfl ?_
  exact oGo.nreturn d6_8 rfl (by simp) rfl (by decide) (by decide) ⟨rfl, rfl⟩ (fun _ q => q.elim)
theorem codF0 (n : Nat) : codF (Int32.ofNat n) n = 0 := by
  unfold codF; rw [show Int32.ofNat n - Int32.ofNat n = 0 from by simp]; decide
set_option maxRecDepth 65536 in
set_option maxHeartbeats 4000000 in
theorem c_coder {l : Launch} {Z : State} {a0 : Array Value} {EL : List (String × Nat)} (hG : oG a0 Z EL) (x : Nat) (cd : Int32) (hc : cd = 0 ∨ cd = 1) (h : Heap) (F : Fld Z h x "java/lang/String" "coder" "B" (.int cd)) :
    oCtr [] l Z a0 EL True (⟨"java/lang/String", "coder", "()B"⟩ : MethodName) jdk_42_method_152_code 1 (some .byte) ({ frames := 0, cells := 0, slots := 0, locals := 0 } : Room) #[.ref x] [] h (fun v h' => v = some (.int cd) ∧ h' = h) oNo := by
  obtain ⟨z, hzs, hz⟩ := sCOMPACT hG
  refine oCtr.enter (Ls := #[.val (.ref x)]) (plainFor_of_name pn1) hG.2.1 (fun m => by first | (simp [entryFrame, mkF, argsToLocals, Value.category]; done) | rfl) ?_
  intro pP eE sS mM bB tT cC
  refine oGo.getstatic (pc' := 3) d15_0 rfl (w16 hG) Via.refl hzs ?_
  refine oGo.if_eq (pc1 := 6) (pc2 := 13) d15_3 rfl (by decide) (fun q => absurd q hz) (fun q1 => ?_)
  refine oGo.aload_n (pc' := 7) d15_6 rfl rfl rfl ?_
  refine oGo.getfield (pc' := 10) d15_7 rfl (w28 hG) Via.refl F ?_
  refine oGo.goto (pc' := 14) d15_10 (by decide) ?_
  exact oGo.nreturn d15_14 rfl (by simp) (by rcases hc with rfl | rfl <;> decide) (by decide) (by decide) ⟨rfl, rfl⟩ (fun _ q => q.elim)
abbrev q_cmp5 (Z : State) (h : Heap) (d : Nat) (cs : List Int32) : Option Value → Heap → Prop := fun v h' => Keep h h' [d] ∧ ∃ r : Nat, v = some (.int (Int32.ofNat r)) ∧ ((r = cs.length ∧ oArr Z h' d .byte (oI (cs.map lo8)) ∧ ∀ c ∈ cs, ¬ 255 < c) ∨ (r < cs.length ∧ ∃ c, cs[r]? = some c ∧ 255 < c))
set_option maxRecDepth 65536 in
set_option maxHeartbeats 4000000 in
theorem c_cmp5 {l : Launch} {Z : State} {a0 : Array Value} {EL : List (String × Nat)} (hG : oG a0 Z EL) (b d : Nat) (cs : List Int32) (ws : List Value) (h : Heap) (A : oArr Z h b .char (oI cs)) (B : oArr Z h d .byte ws) (hl : ws.length = cs.length) (hne : b ≠ d) :
    oCtr [] l Z a0 EL True (⟨"java/lang/StringUTF16", "compress", "([CI[BII)I"⟩ : MethodName) jdk_52_method_21_code 7 (some .int) ({ frames := 0, cells := 0, slots := 0, locals := 0 } : Room) #[.ref b, .int (0 : Int32), .ref d, .int (0 : Int32), .int (Int32.ofNat cs.length)] [d] h ((q_cmp5 Z h d cs)) oNo := by
  refine oCtr.enter (Ls := #[.val (.ref b), .val (.int (0 : Int32)), .val (.ref d), .val (.int (0 : Int32)), .val (.int (Int32.ofNat cs.length)), .unset, .unset]) (plainFor_of_name pn0) hG.2.1 (fun m => by first | (simp [entryFrame, mkF, argsToLocals, Value.category]; done) | rfl) ?_
  intro pP eE sS mM bB tT cC
  have hb31 : cs.length < 2147483648 := by obtain ⟨_, _, _, q, _⟩ := A; simpa using q
  refine oGo.iconst (pc' := 1) (v := 0) d5_0 rfl (by decide) ?_
  refine oGo.istore (pc' := 3) (Ls' := #[.val (.ref b), .val (.int (0 : Int32)), .val (.ref d), .val (.int (0 : Int32)), .val (.int (Int32.ofNat cs.length)), .val (.int (0 : Int32)), .unset]) d5_1 rfl rfl ?_
  have loop : ∀ (r i : Nat) (h1 : Heap) (vs : List Value) (s6 : Slot), r + i = cs.length → Keep h h1 [d] → oArr Z h1 d .byte vs → vs.length = cs.length → vs.take i = (oI (cs.map lo8)).take i → (∀ c ∈ cs.take i, ¬ 255 < c) → oSl s6 → oGo l Z a0 EL True pP eE sS mM #[.ref b, .int (0 : Int32), .ref d, .int (0 : Int32), .int (Int32.ofNat cs.length)] bB tT cC ({ frames := 0, cells := 0, slots := 0, locals := 0 } : Room) "java/lang/StringUTF16" jdk_52_method_21_code 7 (some .int) "compress" (q_cmp5 Z h d cs) oNo [d] h1 0 0 3 #[.val (.ref b), .val (.int (Int32.ofNat i)), .val (.ref d), .val (.int (Int32.ofNat i)), .val (.int (Int32.ofNat cs.length)), .val (.int (Int32.ofNat i)), s6] [] := by
    intro r
    induction r with
    | zero =>
      intro i h1 vs s6 hr K B1 hv ht hc hs6
      obtain rfl : i = cs.length := by omega
      refine oGo.iload (pc' := 5) d5_3 rfl rfl ?_
      refine oGo.iload (pc' := 7) d5_5 rfl rfl ?_
      refine oGo.icmp_ge (pc1 := 10) (pc2 := 44) d5_7 rfl (by decide) (fun q1 => ?_) (fun q => absurd q (by rw [own_lt hb31 hb31]; omega))
      refine oGo.iload (pc' := 46) d5_44 rfl rfl ?_
      exact oGo.ireturn d5_46 rfl (by decide) (by decide) ⟨K, cs.length, rfl, Or.inl ⟨rfl, by rw [List.take_of_length_le (by omega), List.take_of_length_le (by simp)] at ht; rw [← ht]; exact B1, by simpa using hc⟩⟩ (fun _ q => q.elim)
    | succ r ih =>
      intro i h1 vs s6 hr K B1 hv ht hc hs6
      have hi : i < cs.length := by omega
      obtain ⟨c, hci⟩ : ∃ c, cs[i]? = some c := ⟨_, List.getElem?_eq_getElem hi⟩
      have A1 := oArr.keep A K (own_nin1 hne)
      refine oGo.iload (pc' := 5) d5_3 rfl rfl ?_
      refine oGo.iload (pc' := 7) d5_5 rfl rfl ?_
      refine oGo.icmp_ge (pc1 := 10) (pc2 := 44) d5_7 rfl (by decide) (fun q => absurd ((own_lt (by omega) hb31).mpr hi) q) (fun q2 => ?_)
      refine oGo.aload_n (pc' := 11) d5_10 rfl rfl rfl ?_
      refine oGo.iload_n (pc' := 12) d5_11 rfl rfl ?_
      refine oGo.caload (pc' := 13) (i := i) d5_12 rfl A1 rfl (by rw [List.getElem?_map, hci]; rfl) ?_
      refine oGo.istoreS (pc' := 15) (Ls' := #[.val (.ref b), .val (.int (Int32.ofNat i)), .val (.ref d), .val (.int (Int32.ofNat i)), .val (.int (Int32.ofNat cs.length)), .val (.int (Int32.ofNat i)), .val (.int c)]) d5_13 rfl hs6 rfl rfl ?_
      refine oGo.iload (pc' := 17) d5_15 rfl rfl ?_
      refine oGo.sipush (pc' := 20) (v := 255) d5_17 rfl (by decide) ?_
      refine oGo.icmp_le (pc1 := 23) (pc2 := 26) d5_20 rfl (by decide) (fun q => ?_) (fun q => ?_)
      · refine oGo.aload_n (pc' := 27) d5_26 rfl rfl rfl ?_
        refine oGo.iload_n (pc' := 28) d5_27 rfl rfl ?_
        refine oGo.iload (pc' := 30) d5_28 rfl rfl ?_
        refine oGo.i2b (pc' := 31) d5_30 rfl ?_
        refine oGo.bastore (pc' := 32) (i := i) (w := lo8 c) d5_31 rfl B1 rfl (by omega) (lo8_idem c) (by simp) ?_
        intro h2 W sh2 B2
        refine oGo.iinc (pc' := 35) (y := 1) (Ls' := #[.val (.ref b), .val (.int ((Int32.ofNat i) + (1 : Int32))), .val (.ref d), .val (.int (Int32.ofNat i)), .val (.int (Int32.ofNat cs.length)), .val (.int (Int32.ofNat i)), .val (.int c)]) d5_32 rfl rfl (by decide) rfl ?_
        refine oGo.iinc (pc' := 38) (y := 1) (Ls' := #[.val (.ref b), .val (.int ((Int32.ofNat i) + (1 : Int32))), .val (.ref d), .val (.int ((Int32.ofNat i) + (1 : Int32))), .val (.int (Int32.ofNat cs.length)), .val (.int (Int32.ofNat i)), .val (.int c)]) d5_35 rfl rfl (by decide) rfl ?_
        refine oGo.iinc (pc' := 41) (y := 1) (Ls' := #[.val (.ref b), .val (.int ((Int32.ofNat i) + (1 : Int32))), .val (.ref d), .val (.int ((Int32.ofNat i) + (1 : Int32))), .val (.int (Int32.ofNat cs.length)), .val (.int ((Int32.ofNat i) + (1 : Int32))), .val (.int c)]) d5_38 rfl rfl (by decide) rfl ?_
        refine oGo.goto (pc' := 3) d5_41 (by decide) ?_
        rw [own_succ]
        refine ih (i + 1) h2 _ _ (by omega) (K.wr W (Or.inl (by simp))) B2 (by simpa using hv) ?_ ?_ (Or.inr ⟨_, rfl, rfl⟩)
        · rw [own_take_set _ _ _ (by omega), ht, own_take_succ (oI (cs.map lo8)) i (.int (lo8 c)) (by simp [hci])]
        · intro c' hc'
          rw [own_take_succ cs i c hci] at hc'
          rcases List.mem_append.mp hc' with q' | q'
          · exact hc c' q'
          · rw [List.mem_singleton.mp q']; exact q
      · refine oGo.iload (pc' := 25) d5_23 rfl rfl ?_
        exact oGo.ireturn d5_25 rfl (by decide) (by decide) ⟨K, i, rfl, Or.inr ⟨hi, c, hci, q⟩⟩ (fun _ q => q.elim)
  exact loop cs.length 0 h ws _ rfl (Keep.refl _ _) B hl rfl (by simp) (Or.inl rfl)
abbrev q_cmp3 (Z : State) (h : Heap) (cs : List Int32) : Option Value → Heap → Prop := fun v h' => Keep h h' [] ∧ ∃ t : Nat, v = some (.ref t) ∧ h.size ≤ t ∧ oArr Z h' t .byte (oI (cs.map lo8))
set_option maxRecDepth 65536 in
set_option maxHeartbeats 4000000 in
theorem c_cmp3 {l : Launch} {Z : State} {a0 : Array Value} {EL : List (String × Nat)} (hG : oG a0 Z EL) (b : Nat) (cs : List Int32) (hn : cs.length ≤ 3) (hcs : ∀ c ∈ cs, ¬ c < 0 ∧ ¬ 255 < c) (h : Heap) (A : oArr Z h b .char (oI cs)) :
    oCtr [] l Z a0 EL True (⟨"java/lang/StringUTF16", "compress", "([CII)[B"⟩ : MethodName) jdk_52_method_16_code 6 (some (.array .byte)) ({ frames := 1, cells := 1, slots := 3, locals := 18 } : Room) #[.ref b, .int (0 : Int32), .int (Int32.ofNat cs.length)] [] h ((q_cmp3 Z h cs)) oNo := by
  refine oCtr.enter (Ls := #[.val (.ref b), .val (.int (0 : Int32)), .val (.int (Int32.ofNat cs.length)), .unset, .unset, .unset]) (plainFor_of_name pn0) hG.2.1 (fun m => by first | (simp [entryFrame, mkF, argsToLocals, Value.category]; done) | rfl) ?_
  intro pP eE sS mM bB tT cC
  have hb31 : cs.length < 2147483648 := by omega
  have hbl : b < h.size := A.lt
  refine oGo.iload_n (pc' := 1) d4_0 rfl rfl ?_
  refine oGo.newarray (pc' := 3) (k' := 1) (n' := 3) (i := cs.length) d4_1 rfl (w21 hG) rfl 3 (hn) (by decide) rfl rfl (by decide) (by decide) (by decide) ?_
  intro h1 a2 qa2 la2 E3 A4'
  have A4 : oArr Z h1 a2 .byte (List.replicate (cs.length) (.int 0)) := A4'
  refine oGo.astore_n (pc' := 4) (Ls' := #[.val (.ref b), .val (.int (0 : Int32)), .val (.int (Int32.ofNat cs.length)), .val (.ref a2), .unset, .unset]) d4_3 rfl rfl rfl ?_
  refine oGo.aload_n (pc' := 5) d4_4 rfl rfl rfl ?_
  refine oGo.iload_n (pc' := 6) d4_5 rfl rfl ?_
  refine oGo.aload_n (pc' := 7) d4_6 rfl rfl rfl ?_
  refine oGo.iconst (pc' := 8) (v := 0) d4_7 rfl (by decide) ?_
  refine oGo.iload_n (pc' := 9) d4_8 rfl rfl ?_
  have f5 := oArr.ext E3 A
  refine oGo.invokestatic (pc' := 12) (k' := 1) (n' := 3) (argsL := [.ref b, .int (0 : Int32), .ref a2, .int (0 : Int32), .int (Int32.ofNat cs.length)]) (rest := []) d4_9 rfl (w22 hG) (w23 hG) (w19 hG) (w24 hG) (by decide) pd0 rfl rfl rfl (c_cmp5 hG b a2 cs _ _ f5 A4 (by simp) (by omega)) (by simp) (by decide) (Nat.le_of_ble_eq_true rfl) rfl rfl (by decide) (by decide) ?_
  intro v6 h7 sh7 q8
  obtain ⟨K3, r, rfl, hr⟩ := q8
  obtain ⟨rfl, B3⟩ : r = cs.length ∧ oArr Z h7 a2 .byte (oI (cs.map lo8)) := by
    rcases hr with ⟨h1, h2, -⟩ | ⟨-, c, h2, h3⟩
    · exact ⟨h1, h2⟩
    · exact absurd h3 (hcs c (List.mem_of_getElem? h2)).2
  refine ⟨_, fun _ hx => Or.inl hx, ?_⟩
  show oGo l Z a0 EL True pP eE sS mM _ bB tT cC _ _ _ _ _ _ _ _ [a2] h7 1 3 12 #[.val (.ref b), .val (.int (0 : Int32)), .val (.int (Int32.ofNat cs.length)), .val (.ref a2), .unset, .unset] [.int (Int32.ofNat cs.length)]
  refine oGo.istore (pc' := 14) (Ls' := #[.val (.ref b), .val (.int (0 : Int32)), .val (.int (Int32.ofNat cs.length)), .val (.ref a2), .val (.int (Int32.ofNat cs.length)), .unset]) d4_12 rfl rfl ?_
  refine oGo.iload (pc' := 16) d4_14 rfl rfl ?_
  refine oGo.iload_n (pc' := 17) d4_16 rfl rfl ?_
  refine oGo.icmp_eq (pc1 := 20) (pc2 := 57) d4_17 rfl (by decide) (fun q9 => ?_) (fun q => absurd rfl q)
  refine oGo.aload_n (pc' := 58) d4_57 rfl rfl rfl ?_
  exact oGo.areturn d4_58 rfl rfl rfl rfl (by decide) (by decide) ⟨(((Keep.refl h []).ext E3).trans K3 (own_new1 (by omega))), a2, rfl, by omega, B3⟩ (fun _ q => q.elim)
abbrev q_strI (Z : State) (h : Heap) (x : Nat) (cs : List Int32) : Option Value → Heap → Prop := fun v h' => v = none ∧ Keep h h' [x] ∧ ∃ t : Nat, oS Z h' x t cs
set_option maxRecDepth 65536 in
set_option maxHeartbeats 4000000 in
theorem c_strI4 {l : Launch} {Z : State} {a0 : Array Value} {EL : List (String × Nat)} (hG : oG a0 Z EL) (x b : Nat) (cs : List Int32) (hn : cs.length ≤ 3) (hcs : ∀ c ∈ cs, ¬ c < 0 ∧ ¬ 255 < c) (u w0 : Value) (h : Heap) (A : oArr Z h b .char (oI cs)) (E : Exa Z h x "java/lang/String") (F1 : Fld Z h x "java/lang/String" "value" "[B" u) (F2 : Fld Z h x "java/lang/String" "coder" "B" w0) :
    oCtr [] l Z a0 EL True (⟨"java/lang/String", "<init>", "([CIILjava/lang/Void;)V"⟩ : MethodName) jdk_42_method_149_code 6 none ({ frames := 2, cells := 4, slots := 8, locals := 35 } : Room) #[.ref x, .ref b, .int (0 : Int32), .int (Int32.ofNat cs.length), .null] [x] h ((q_strI Z h x cs)) oNo := by
  obtain ⟨z, hzs, hz⟩ := sCOMPACT hG
  have hb31 : cs.length < 2147483648 := by omega
  have hxl : x < h.size := E.lt
  refine oCtr.enter (Ls := #[.val (.ref x), .val (.ref b), .val (.int (0 : Int32)), .val (.int (Int32.ofNat cs.length)), .val .null, .unset]) (plainFor_of_name pn1) hG.2.1 (fun m => by first | (simp [entryFrame, mkF, argsToLocals, Value.category]; done) | rfl) ?_
  intro pP eE sS mM bB tT cC
  refine oGo.aload_n (pc' := 1) d2_0 rfl rfl rfl ?_
  refine oGo.objinit (pc' := 4) d2_1 rfl (w13 hG) (w14 hG) (w15 hG) rfl (by decide) (Nat.le_of_ble_eq_true rfl) ?_
  refine oGo.iload_n (pc' := 5) d2_4 rfl rfl ?_
  refine oGo.if_ne (pc1 := 8) (pc2 := 27) d2_5 rfl (by decide) (fun q => ?_) (fun q => ?_)
  · refine oGo.getstatic (pc' := 30) d2_27 rfl (w16 hG) Via.refl hzs ?_
    refine oGo.if_eq (pc1 := 33) (pc2 := 58) d2_30 rfl (by decide) (fun q => absurd q hz) (fun q1 => ?_)
    refine oGo.aload_n (pc' := 34) d2_33 rfl rfl rfl ?_
    refine oGo.iload_n (pc' := 35) d2_34 rfl rfl ?_
    refine oGo.iload_n (pc' := 36) d2_35 rfl rfl ?_
    refine oGo.invokestatic (pc' := 39) (k' := 1) (n' := 3) (argsL := [.ref b, .int (0 : Int32), .int (Int32.ofNat cs.length)]) (rest := []) d2_36 rfl (w17 hG) (w18 hG) (w19 hG) (w20 hG) (by decide) pd1 rfl rfl rfl (c_cmp3 hG b cs hn hcs h A) (by simp) (by decide) (Nat.le_of_ble_eq_true rfl) rfl rfl (by decide) (by decide) ?_
    intro v2 h3 sh3 q4
    obtain ⟨K2, t, rfl, ht, B2⟩ := q4
    refine ⟨_, fun _ hx => Or.inl hx, ?_⟩
    show oGo l Z a0 EL True pP eE sS mM _ bB tT cC _ _ _ _ _ _ _ _ [x] h3 1 3 39 #[.val (.ref x), .val (.ref b), .val (.int (0 : Int32)), .val (.int (Int32.ofNat cs.length)), .val .null, .unset] [.ref t]
    refine oGo.astore (pc' := 41) (Ls' := #[.val (.ref x), .val (.ref b), .val (.int (0 : Int32)), .val (.int (Int32.ofNat cs.length)), .val .null, .val (.ref t)]) d2_39 rfl rfl rfl ?_
    refine oGo.aload_n (pc' := 42) d2_41 rfl rfl rfl ?_
    refine oGo.aload (pc' := 44) d2_42 rfl rfl rfl ?_
    refine oGo.iload_n (pc' := 45) d2_44 rfl rfl ?_
    refine oGo.invokestatic (pc' := 48) (k' := 1) (n' := 3) (argsL := [.ref t, .int (Int32.ofNat cs.length)]) (rest := [.ref x]) d2_45 rfl (w25 hG) (w26 hG) (w19 hG) (w27 hG) (by decide) pd2 rfl rfl rfl (c_coderLen hG t _ (Int32.ofNat cs.length) _ B2) (by simp) (by decide) (Nat.le_of_ble_eq_true rfl) rfl rfl (by decide) (by decide) ?_
    intro v5 h6 sh6 q7
    obtain ⟨rfl, ee⟩ := q7
    obtain rfl := ee.symm
    refine ⟨_, fun _ hx => Or.inl hx, ?_⟩
    show oGo l Z a0 EL True pP eE sS mM _ bB tT cC _ _ _ _ _ _ _ _ [x] h3 1 3 48 #[.val (.ref x), .val (.ref b), .val (.int (0 : Int32)), .val (.int (Int32.ofNat cs.length)), .val .null, .val (.ref t)] [.int (codF (Int32.ofNat cs.length) (oI (cs.map lo8)).length), .ref x]
    rw [List.length_map, List.length_map, codF0]
    have f8 := Fld.keep F2 K2 nin0
    have f9 := Exa.keep E K2
    refine oGo.putfield (pc' := 51) (ty := .byte) d2_48 rfl (w28 hG) Via.refl f8 f9 (Or.inr ⟨(w29 hG), rfl, rfl⟩) (w4 hG) (by decide) (by decide) (by decide) (by simp) ?_
    intro h10 W11 sh10
    have f12 := Fld.same W11 f8
    refine oGo.aload_n (pc' := 52) d2_51 rfl rfl rfl ?_
    refine oGo.aload (pc' := 54) d2_52 rfl rfl rfl ?_
    have f13 := Fld.keep F1 K2 nin0
    have f14 := Fld.other W11 f13 (Or.inr (slot_ne (C := "java/lang/String") (Or.inr (w31 hG)) (Or.inr (w29 hG)) (by decide) (t := (.array .byte)) (t' := .byte) (by decide) (by decide)))
    have f15 := Exa.wr W11 f9
    refine oGo.putfield (pc' := 57) (ty := (.array .byte)) d2_54 rfl (w30 hG) Via.refl f14 f15 (Or.inr ⟨(w31 hG), rfl, rfl⟩) (w4 hG) (by decide) rfl rfl (by simp) ?_
    intro h16 W17 sh16
    have f18 := Fld.same W17 f14
    have f19 := Fld.other W17 f12 (Or.inr (slot_ne (C := "java/lang/String") (Or.inr (w29 hG)) (Or.inr (w31 hG)) (by decide) (t := .byte) (t' := (.array .byte)) (by decide) (by decide)))
    have f20 := Exa.wr W17 f15
    have f21 := oArr.other W11 B2 (own_ne (by omega))
    have f22 := oArr.other W17 f21 (own_ne (by omega))
    exact oGo.return_ d2_57 rfl (by decide) (by decide) ⟨rfl, (((Keep.refl h [x]).trans K2 (by simp)).wr W11 (Or.inl (by simp))).wr W17 (Or.inl (by simp)), t, f20, f18, f19, f22, hcs⟩ (fun _ q => q.elim)
  · obtain rfl : cs = [] := List.length_eq_zero_iff.mp ((own_eq (b := 0) hb31 (by omega)).mp q)
    refine oGo.aload_n (pc' := 9) d2_8 rfl rfl rfl ?_
    refine oGo.ldc_str (pc' := 11) (k' := 2) (n' := 4) (vs := oI (([] : List Int32).map lo8)) d2_9 rfl trivial (w215 hG) (strAt hG) (hG.2.2.2 _ (by decide)) (by decide) (by decide) rfl rfl (by decide) (by decide) ?_
    intro h23 a24 b25 E26 Xa24 Ca24 Va24 Ba24 la24 lb25 na24
    have S27 : oS Z h23 a24 b25 [] := ⟨Xa24, Va24, Ca24, Ba24, by decide⟩
    refine oGo.getfield (pc' := 14) d2_11 rfl (w30 hG) Via.refl Va24 ?_
    have f28 := Fld.ext E26 F1
    have f29 := Exa.ext E26 E
    refine oGo.putfield (pc' := 17) (ty := (.array .byte)) d2_14 rfl (w30 hG) Via.refl f28 f29 (Or.inr ⟨(w31 hG), rfl, rfl⟩) (w4 hG) (by decide) rfl rfl (by simp) ?_
    intro h30 W31 sh30
    have f32 := Fld.same W31 f28
    refine oGo.aload_n (pc' := 18) d2_17 rfl rfl rfl ?_
    refine oGo.ldc_str (pc' := 20) (k' := 4) (n' := 8) (vs := oI (([] : List Int32).map lo8)) d2_18 rfl trivial (w215 hG) (strAt hG) (hG.2.2.2 _ (by decide)) (by decide) (by decide) rfl rfl (by decide) (by decide) ?_
    intro h33 a34 b35 E36 Xa34 Ca34 Va34 Ba34 la34 lb35 na34
    have S37 : oS Z h33 a34 b35 [] := ⟨Xa34, Va34, Ca34, Ba34, by decide⟩
    refine oGo.getfield (pc' := 23) d2_20 rfl (w28 hG) Via.refl Ca34 ?_
    have f38 := Fld.ext E26 F2
    have f39 := Fld.other W31 f38 (Or.inr (slot_ne (C := "java/lang/String") (Or.inr (w29 hG)) (Or.inr (w31 hG)) (by decide) (t := .byte) (t' := (.array .byte)) (by decide) (by decide)))
    have f40 := Fld.ext E36 f39
    have f41 := Exa.wr W31 f29
    have f42 := Exa.ext E36 f41
    refine oGo.putfield (pc' := 26) (ty := .byte) d2_23 rfl (w28 hG) Via.refl f40 f42 (Or.inr ⟨(w29 hG), rfl, rfl⟩) (w4 hG) (by decide) (by decide) (by decide) (by simp) ?_
    intro h43 W44 sh43
    have f45 := Fld.same W44 f40
    have f46 := Fld.ext E36 f32
    have f47 := Fld.other W44 f46 (Or.inr (slot_ne (C := "java/lang/String") (Or.inr (w31 hG)) (Or.inr (w29 hG)) (by decide) (t := (.array .byte)) (t' := .byte) (by decide) (by decide)))
    have f48 := Exa.wr W44 f42
    have f49 := oArr.other W31 Ba24 (Ne.symm (na24 x (by simp)).2)
    have f50 := oArr.ext E36 f49
    have f51 := oArr.other W44 f50 (Ne.symm (na24 x (by simp)).2)
    exact oGo.return_ d2_26 rfl (by decide) (by decide) ⟨rfl, (((((Keep.refl h [x]).ext E26).wr W31 (Or.inl (by simp))).ext E36).wr W44 (Or.inl (by simp))), b25, f48, f47, f45, f51, by simp⟩ (fun _ q => q.elim)
set_option maxRecDepth 65536 in
set_option maxHeartbeats 4000000 in
theorem c_strI1 {l : Launch} {Z : State} {a0 : Array Value} {EL : List (String × Nat)} (hG : oG a0 Z EL) (x b : Nat) (cs : List Int32) (hn : cs.length ≤ 3) (hcs : ∀ c ∈ cs, ¬ c < 0 ∧ ¬ 255 < c) (u w0 : Value) (h : Heap) (A : oArr Z h b .char (oI cs)) (E : Exa Z h x "java/lang/String") (F1 : Fld Z h x "java/lang/String" "value" "[B" u) (F2 : Fld Z h x "java/lang/String" "coder" "B" w0) :
    oCtr [] l Z a0 EL True (⟨"java/lang/String", "<init>", "([C)V"⟩ : MethodName) jdk_42_method_3_code 2 none ({ frames := 3, cells := 4, slots := 8, locals := 52 } : Room) #[.ref x, .ref b] [x] h ((q_strI Z h x cs)) oNo := by
  refine oCtr.enter (Ls := #[.val (.ref x), .val (.ref b)]) (plainFor_of_name pn1) hG.2.1 (fun m => by first | (simp [entryFrame, mkF, argsToLocals, Value.category]; done) | rfl) ?_
  intro pP eE sS mM bB tT cC
  refine oGo.aload_n (pc' := 1) d1_0 rfl rfl rfl ?_
  refine oGo.aload_n (pc' := 2) d1_1 rfl rfl rfl ?_
  refine oGo.iconst (pc' := 3) (v := 0) d1_2 rfl (by decide) ?_
  refine oGo.aload_n (pc' := 4) d1_3 rfl rfl rfl ?_
  refine oGo.arraylength (pc' := 5) (z := (Int32.ofNat cs.length)) d1_4 rfl A (by rw [List.length_map]) ?_
  refine oGo.aconst_null (pc' := 6) d1_5 rfl ?_
  refine oGo.invokespecial (pc' := 9) (k' := 4) (n' := 8) (a := x) (argsL := [.ref b, .int (0 : Int32), .int (Int32.ofNat cs.length), .null]) (rest := []) d1_6 rfl rfl (w9 hG) (w10 hG) (w5 hG) (w12 hG) (by decide) pd3 rfl rfl rfl (c_strI4 hG x b cs hn hcs u w0 h A E F1 F2) (by simp) (by decide) (Nat.le_of_ble_eq_true rfl) rfl rfl (by decide) (by decide) ?_
  intro v1 h2 sh2 q3
  obtain ⟨rfl, hq⟩ := q3
  refine ⟨_, fun _ hx => Or.inl hx, ?_⟩
  show oGo l Z a0 EL True pP eE sS mM _ bB tT cC _ _ _ _ _ _ _ _ [x] h2 4 8 9 #[.val (.ref x), .val (.ref b)] []
  exact oGo.return_ d1_9 rfl (by decide) (by decide) ⟨rfl, hq⟩ (fun _ q => q.elim)
set_option maxRecDepth 65536 in
set_option maxHeartbeats 4000000 in
theorem c_length {l : Launch} {Z : State} {a0 : Array Value} {EL : List (String × Nat)} (hG : oG a0 Z EL) (x t : Nat) (cs : List Int32) (h : Heap) (Sx : oS Z h x t cs) :
    oCtr [] l Z a0 EL True (⟨"java/lang/String", "length", "()I"⟩ : MethodName) jdk_42_method_54_code 1 (some .int) ({ frames := 1, cells := 0, slots := 0, locals := 13 } : Room) #[.ref x] [] h (fun v h' => v = some (.int (Int32.ofNat cs.length)) ∧ h' = h) oNo := by
  refine oCtr.enter (Ls := #[.val (.ref x)]) (plainFor_of_name pn1) hG.2.1 (fun m => by first | (simp [entryFrame, mkF, argsToLocals, Value.category]; done) | rfl) ?_
  intro pP eE sS mM bB tT cC
  refine oGo.aload_n (pc' := 1) d14_0 rfl rfl rfl ?_
  refine oGo.getfield (pc' := 4) d14_1 rfl (w30 hG) Via.refl Sx.2.1 ?_
  refine oGo.arraylength (pc' := 5) (z := (Int32.ofNat cs.length)) d14_4 rfl Sx.2.2.2.1 (by rw [List.length_map, List.length_map]) ?_
  refine oGo.aload_n (pc' := 6) d14_5 rfl rfl rfl ?_
  refine oGo.invokevirtual (pc' := 9) (k' := 0) (n' := 0) (a := x) (argsL := []) (rest := [.int (Int32.ofNat cs.length)]) d14_6 rfl (w86 hG) (w87 hG) (w89 hG) (w89 hG) rfl (w88 hG) (w5 hG) (w90 hG) (by decide) pd4 rfl rfl rfl Sx.1 (c_coder hG x 0 (Or.inl rfl) h Sx.2.2.1) (by simp) (by decide) (Nat.le_of_ble_eq_true rfl) rfl rfl (by decide) (by decide) ?_
  intro v1 h2 sh2 q3
  obtain ⟨rfl, ee⟩ := q3
  obtain rfl := ee.symm
  refine ⟨_, fun _ hx => Or.inl hx, ?_⟩
  show oGo l Z a0 EL True pP eE sS mM _ bB tT cC _ _ _ _ _ _ _ _ [] h 0 0 9 #[.val (.ref x)] [.int (0 : Int32), .int (Int32.ofNat cs.length)]
  refine oGo.ishr (pc' := 10) d14_9 rfl ?_
  exact oGo.ireturn d14_10 rfl (by decide) (by decide) ⟨by rw [shr0], rfl⟩ (fun _ q => q.elim)
def oSB (Z : State) (h : Heap) (sb b : Nat) (cs : List Int32) (cap : Nat) : Prop := Exa Z h sb "java/lang/StringBuilder" ∧ Fld Z h sb "java/lang/AbstractStringBuilder" "value" "[B" (.ref b) ∧ Fld Z h sb "java/lang/AbstractStringBuilder" "coder" "B" (.int 0) ∧ Fld Z h sb "java/lang/AbstractStringBuilder" "count" "I" (.int (Int32.ofNat cs.length)) ∧
  ∃ vs, oArr Z h b .byte vs ∧ vs.length = cap ∧ vs.take cs.length = oI (cs.map lo8) ∧ cs.length ≤ cap
abbrev oBuf (Z : State) (sb : Nat) : Option Value → Heap → Addr → Prop := fun _ h' x => Fld Z h' sb "java/lang/AbstractStringBuilder" "value" "[B" (.ref x)
def capF (cap m : Nat) : Nat := if m ≤ cap then cap else max m (2 * cap + 2)
section SB
variable {Z : State} {h h' : Heap} {sb b a : Addr} {cs : List Int32} {cap : Nat} {ws : List Addr}
theorem oSB.ext (S : oSB Z h sb b cs cap) (E : Ext h h') : oSB Z h' sb b cs cap := by
  obtain ⟨h1, h2, h3, h4, vs, h5, h6⟩ := S; exact ⟨h1.ext E, h2.ext E, h3.ext E, h4.ext E, vs, h5.ext E, h6⟩
theorem oSB.keep (S : oSB Z h sb b cs cap) (K : Keep h h' ws) (q : sb ∉ ws) (r : b ∉ ws) : oSB Z h' sb b cs cap := by
  obtain ⟨h1, h2, h3, h4, vs, h5, h6⟩ := S; exact ⟨h1.keep K, h2.keep K q, h3.keep K q, h4.keep K q, vs, h5.keep K r, h6⟩
theorem oFld_det {C n d : String} {v w : Value} (F : Fld Z h a C n d v) (G : Fld Z h a C n d w) : v = w := Classical.byContradiction fun q => absurd rfl (Fld.ne F G q)
end SB
theorem oSB_ne {a0 : Array Value} {Z : State} {EL : List (String × Nat)} (hG : oG a0 Z EL) {h : Heap} {sb b : Addr} {cs : List Int32} {cap : Nat} (S : oSB Z h sb b cs cap) : sb ≠ b := by
  obtain ⟨h1, -, -, -, vs, ⟨cl, h2, -⟩, -⟩ := S
  exact ne_arr h1 (w54 hG) h2
set_option maxRecDepth 65536 in
set_option maxHeartbeats 4000000 in
theorem c_min {l : Launch} {Z : State} {a0 : Array Value} {EL : List (String × Nat)} (hG : oG a0 Z EL) (i j : Nat) (hi : i < 2147483648) (hj : j < 2147483648) (h : Heap)  :
    oCtr [] l Z a0 EL True (⟨"java/lang/Math", "min", "(II)I"⟩ : MethodName) jdk_29_method_69_code 2 (some .int) ({ frames := 0, cells := 0, slots := 0, locals := 0 } : Room) #[.int (Int32.ofNat i), .int (Int32.ofNat j)] [] h (fun v h' => v = some (.int (Int32.ofNat (min i j))) ∧ h' = h) oNo := by
  refine oCtr.enter (Ls := #[.val (.int (Int32.ofNat i)), .val (.int (Int32.ofNat j))]) (Jvm.Free.JP.mathPlain rfl (by decide +kernel)) hG.2.1 (fun m => by first | (simp [entryFrame, mkF, argsToLocals, Value.category]; done) | rfl) ?_
  intro pP eE sS mM bB tT cC
  refine oGo.iload_n (pc' := 1) d34_0 rfl rfl ?_
  refine oGo.iload_n (pc' := 2) d34_1 rfl rfl ?_
  refine oGo.icmp_gt (pc1 := 5) (pc2 := 9) d34_2 rfl (by decide) (fun q => ?_) (fun q => ?_)
  · refine oGo.iload_n (pc' := 10) d34_9 rfl rfl ?_
    exact oGo.ireturn d34_10 rfl (by decide) (by decide) ⟨by rw [Nat.min_eq_right (by rw [own_lt hj hi] at q; omega)], rfl⟩ (fun _ q => q.elim)
  · refine oGo.iload_n (pc' := 6) d34_5 rfl rfl ?_
    refine oGo.goto (pc' := 10) d34_6 (by decide) ?_
    exact oGo.ireturn d34_10 rfl (by decide) (by decide) ⟨by rw [Nat.min_eq_left (by rw [own_lt hj hi] at q; omega)], rfl⟩ (fun _ q => q.elim)
set_option maxRecDepth 65536 in
set_option maxHeartbeats 4000000 in
theorem c_checkLength {l : Launch} {Z : State} {a0 : Array Value} {EL : List (String × Nat)} (hG : oG a0 Z EL) (i j : Nat) (hij : i ≤ j) (hj : j < 2147483648) (h : Heap)  :
    oCtr [] l Z a0 EL True (⟨"java/util/Arrays", "checkLength", "(II)V"⟩ : MethodName) jdk_65_method_131_code 2 none ({ frames := 0, cells := 0, slots := 0, locals := 0 } : Room) #[.int (Int32.ofNat i), .int (Int32.ofNat j)] [] h (fun v h' => v = none ∧ h' = h) oNo := by
  refine oCtr.enter (Ls := #[.val (.int (Int32.ofNat i)), .val (.int (Int32.ofNat j))]) (plainFor_of_name pn2) hG.2.1 (fun m => by first | (simp [entryFrame, mkF, argsToLocals, Value.category]; done) | rfl) ?_
  intro pP eE sS mM bB tT cC
  refine oGo.iload_n (pc' := 1) d33_0 rfl rfl ?_
  refine oGo.iload_n (pc' := 2) d33_1 rfl rfl ?_
  refine oGo.icmp_ge (pc1 := 5) (pc2 := 37) d33_2 rfl (by decide) (fun q1 => ?_) (fun q => absurd q (by rw [own_lt hj (by omega)]; omega))
  exact oGo.return_ d33_37 rfl (by decide) (by decide) ⟨rfl, rfl⟩ (fun _ q => q.elim)
abbrev q_cor (Z : State) (h : Heap) (vs : List Value) (i j : Nat) : Option Value → Heap → Prop := fun v h' => Keep h h' [] ∧ ∃ t : Nat, v = some (.ref t) ∧ h.size ≤ t ∧ oArr Z h' t .byte ((vs.drop i).take (j - i))
set_option maxRecDepth 65536 in
set_option maxHeartbeats 4000000 in
theorem c_corb {l : Launch} {Z : State} {a0 : Array Value} {EL : List (String × Nat)} (hG : oG a0 Z EL) (a : Nat) (vs : List Value) (i j : Nat) (hij : i ≤ j) (hj : j ≤ vs.length) (hN : j - i ≤ 9) (h : Heap) (A : oArr Z h a .byte vs) :
    oCtr [] l Z a0 EL True (⟨"java/util/Arrays", "copyOfRangeByte", "([BII)[B"⟩ : MethodName) jdk_65_method_133_code 5 (some (.array .byte)) ({ frames := 1, cells := 1, slots := 9, locals := 18 } : Room) #[.ref a, .int (Int32.ofNat i), .int (Int32.ofNat j)] [] h ((q_cor Z h vs i j)) oRet := by
  have hb31 : vs.length < 2147483648 := by obtain ⟨_, _, _, q, _⟩ := A; exact q
  have hal := own_ltN A.lt
  refine oCtr.enter (Ls := #[.val (.ref a), .val (.int (Int32.ofNat i)), .val (.int (Int32.ofNat j)), .unset, .unset]) (plainFor_of_name pn2) hG.2.1 (fun m => by first | (simp [entryFrame, mkF, argsToLocals, Value.category]; done) | rfl) ?_
  intro pP eE sS mM bB tT cC
  refine oGo.iload_n (pc' := 1) d32_0 rfl rfl ?_
  refine oGo.iload_n (pc' := 2) d32_1 rfl rfl ?_
  refine oGo.invokestatic (pc' := 5) (k' := 0) (n' := 0) (argsL := [.int (Int32.ofNat i), .int (Int32.ofNat j)]) (rest := []) d32_2 rfl (w176 hG) (w177 hG) (w171 hG) (w178 hG) (by decide) pd5 rfl rfl rfl (c_checkLength hG i j hij (by omega) h) (by simp) (by decide) (Nat.le_of_ble_eq_true rfl) rfl rfl (by decide) (by decide) ?_
  intro v1 h2 sh2 q3
  obtain ⟨rfl, ee⟩ := q3
  obtain rfl := ee.symm
  refine ⟨_, fun _ hx => Or.inl hx, ?_⟩
  show oGo l Z a0 EL True pP eE sS mM _ bB tT cC _ _ _ _ _ _ _ _ [] h 0 0 5 #[.val (.ref a), .val (.int (Int32.ofNat i)), .val (.int (Int32.ofNat j)), .unset, .unset] []
  refine oGo.iload_n (pc' := 6) d32_5 rfl rfl ?_
  refine oGo.iload_n (pc' := 7) d32_6 rfl rfl ?_
  refine oGo.isub (pc' := 8) d32_7 rfl ?_
  rw [own_subN hij (by omega)]
  refine oGo.istore_n (pc' := 9) (Ls' := #[.val (.ref a), .val (.int (Int32.ofNat i)), .val (.int (Int32.ofNat j)), .val (.int (Int32.ofNat (j - i))), .unset]) d32_8 rfl rfl ?_
  refine oGo.iload_n (pc' := 10) d32_9 rfl rfl ?_
  refine oGo.newarray (pc' := 12) (k' := 1) (n' := 9) (i := (j - i)) d32_10 rfl (w21 hG) rfl 9 (hN) (by decide) rfl rfl (by decide) (by decide) (by decide) ?_
  intro h4 a5 qa5 la5 E6 A7'
  have A7 : oArr Z h4 a5 .byte (List.replicate ((j - i)) (.int 0)) := A7'
  refine oGo.astore (pc' := 14) (Ls' := #[.val (.ref a), .val (.int (Int32.ofNat i)), .val (.int (Int32.ofNat j)), .val (.int (Int32.ofNat (j - i))), .val (.ref a5)]) d32_12 rfl rfl rfl ?_
  refine oGo.aload_n (pc' := 15) d32_14 rfl rfl rfl ?_
  refine oGo.iload_n (pc' := 16) d32_15 rfl rfl ?_
  refine oGo.aload (pc' := 18) d32_16 rfl rfl rfl ?_
  refine oGo.iconst (pc' := 19) (v := 0) d32_18 rfl (by decide) ?_
  refine oGo.aload_n (pc' := 20) d32_19 rfl rfl rfl ?_
  have f8 := oArr.ext E6 A
  refine oGo.arraylength (pc' := 21) (z := (Int32.ofNat vs.length)) d32_20 rfl f8 rfl ?_
  refine oGo.iload_n (pc' := 22) d32_21 rfl rfl ?_
  refine oGo.isub (pc' := 23) d32_22 rfl ?_
  rw [own_subN (i := i) (j := vs.length) (by omega) hb31]
  refine oGo.iload_n (pc' := 24) d32_23 rfl rfl ?_
  refine oGo.invokestatic (pc' := 27) (k' := 1) (n' := 9) (argsL := [.int (Int32.ofNat (vs.length - i)), .int (Int32.ofNat (j - i))]) (rest := [.int (0 : Int32), .ref a5, .int (Int32.ofNat i), .ref a]) d32_24 rfl (w179 hG) (w180 hG) (w181 hG) (w182 hG) (by decide) pd6 rfl rfl rfl (c_min hG (vs.length - i) (j - i) (by omega) (by omega) _) (by simp) (by decide) (Nat.le_of_ble_eq_true rfl) rfl rfl (by decide) (by decide) ?_
  intro v9 h10 sh10 q11
  obtain ⟨rfl, ee⟩ := q11
  obtain rfl := ee.symm
  refine ⟨_, fun _ hx => Or.inl hx, ?_⟩
  show oGo l Z a0 EL True pP eE sS mM _ bB tT cC _ _ _ _ _ _ _ _ [a5] h4 1 9 27 #[.val (.ref a), .val (.int (Int32.ofNat i)), .val (.int (Int32.ofNat j)), .val (.int (Int32.ofNat (j - i))), .val (.ref a5)] [.int (Int32.ofNat (min (vs.length - i) (j - i))), .int (0 : Int32), .ref a5, .int (Int32.ofNat i), .ref a]
  rw [Nat.min_eq_right (by omega : j - i ≤ vs.length - i)]
  refine oGo.arraycopy (pc' := 30) (i := i) (j := 0) (q := (j - i)) d32_27 rfl (w183 hG) (w117 hG) (w115 hG) (w116 hG) f8 A7 (by omega) (by simp) rfl (by decide) (Nat.le_of_ble_eq_true rfl) (by simp) ?_
  intro h12 K13 sh12 A14
  refine oGo.aload (pc' := 32) d32_30 rfl rfl rfl ?_
  exact oGo.areturn d32_32 rfl rfl rfl rfl (by decide) (by decide) ⟨((Keep.refl h []).ext E6).trans K13 (own_new1 (by omega)), a5, rfl, by omega, by simpa using A14⟩ (fun x q => by cases q; simp)
set_option maxRecDepth 65536 in
set_option maxHeartbeats 4000000 in
theorem c_cor {l : Launch} {Z : State} {a0 : Array Value} {EL : List (String × Nat)} (hG : oG a0 Z EL) (a : Nat) (vs : List Value) (i j : Nat) (hij : i ≤ j) (hj : j ≤ vs.length) (hN : j - i ≤ 9) (hne : ¬ (i = 0 ∧ j = vs.length)) (h : Heap) (A : oArr Z h a .byte vs) :
    oCtr [] l Z a0 EL True (⟨"java/util/Arrays", "copyOfRange", "([BII)[B"⟩ : MethodName) jdk_65_method_132_code 3 (some (.array .byte)) ({ frames := 2, cells := 1, slots := 9, locals := 34 } : Room) #[.ref a, .int (Int32.ofNat i), .int (Int32.ofNat j)] [] h ((q_cor Z h vs i j)) oRet := by
  have hb31 : vs.length < 2147483648 := by obtain ⟨_, _, _, q, _⟩ := A; exact q
  refine oCtr.enter (Ls := #[.val (.ref a), .val (.int (Int32.ofNat i)), .val (.int (Int32.ofNat j))]) (plainFor_of_name pn2) hG.2.1 (fun m => by first | (simp [entryFrame, mkF, argsToLocals, Value.category]; done) | rfl) ?_
  intro pP eE sS mM bB tT cC
  refine oGo.iload_n (pc' := 1) d31_0 rfl rfl ?_
  refine oGo.if_ne (pc1 := 4) (pc2 := 10) d31_1 rfl (by decide) (fun q => ?_) (fun q => ?_)
  · refine oGo.aload_n (pc' := 11) d31_10 rfl rfl rfl ?_
    refine oGo.iload_n (pc' := 12) d31_11 rfl rfl ?_
    refine oGo.iload_n (pc' := 13) d31_12 rfl rfl ?_
    refine oGo.invokestatic (pc' := 16) (k' := 1) (n' := 9) (argsL := [.ref a, .int (Int32.ofNat i), .int (Int32.ofNat j)]) (rest := []) d31_13 rfl (w173 hG) (w174 hG) (w171 hG) (w175 hG) (by decide) pd7 rfl rfl rfl (c_corb hG a vs i j hij hj hN h A) (by simp) (by decide) (Nat.le_of_ble_eq_true rfl) rfl rfl (by decide) (by decide) ?_
    intro v1 h2 sh2 q3
    obtain ⟨K2, t, rfl, ht, B⟩ := q3
    refine ⟨[t], own_D1 (rfl), ?_⟩
    show oGo l Z a0 EL True pP eE sS mM _ bB tT cC _ _ _ _ _ _ _ _ [t] h2 1 9 16 #[.val (.ref a), .val (.int (Int32.ofNat i)), .val (.int (Int32.ofNat j))] [.ref t]
    exact oGo.areturn d31_16 rfl rfl rfl rfl (by decide) (by decide) ⟨K2, t, rfl, ht, B⟩ (fun x q => by cases q; simp)
  · have hi0 : i = 0 := (own_eq (b := 0) (by omega) (by omega)).mp q
    refine oGo.iload_n (pc' := 5) d31_4 rfl rfl ?_
    refine oGo.aload_n (pc' := 6) d31_5 rfl rfl rfl ?_
    refine oGo.arraylength (pc' := 7) (z := (Int32.ofNat vs.length)) d31_6 rfl A rfl ?_
    refine oGo.icmp_eq (pc1 := 10) (pc2 := 17) d31_7 rfl (by decide) (fun q => absurd ⟨hi0, (own_eq (by omega) hb31).mp q⟩ hne) (fun q4 => ?_)
    refine oGo.aload_n (pc' := 11) d31_10 rfl rfl rfl ?_
    refine oGo.iload_n (pc' := 12) d31_11 rfl rfl ?_
    refine oGo.iload_n (pc' := 13) d31_12 rfl rfl ?_
    refine oGo.invokestatic (pc' := 16) (k' := 1) (n' := 9) (argsL := [.ref a, .int (Int32.ofNat i), .int (Int32.ofNat j)]) (rest := []) d31_13 rfl (w173 hG) (w174 hG) (w171 hG) (w175 hG) (by decide) pd7 rfl rfl rfl (c_corb hG a vs i j hij hj hN h A) (by simp) (by decide) (Nat.le_of_ble_eq_true rfl) rfl rfl (by decide) (by decide) ?_
    intro v5 h6 sh6 q7
    obtain ⟨K2, t, rfl, ht, B⟩ := q7
    refine ⟨[t], own_D1 (rfl), ?_⟩
    show oGo l Z a0 EL True pP eE sS mM _ bB tT cC _ _ _ _ _ _ _ _ [t] h6 1 9 16 #[.val (.ref a), .val (.int (Int32.ofNat i)), .val (.int (Int32.ofNat j))] [.ref t]
    exact oGo.areturn d31_16 rfl rfl rfl rfl (by decide) (by decide) ⟨K2, t, rfl, ht, B⟩ (fun x q => by cases q; simp)
abbrev q_sbInit (Z : State) (h : Heap) (sb : Nat) (cap : Nat) : Option Value → Heap → Prop := fun v h' => v = none ∧ Keep h h' [sb] ∧ ∃ b : Nat, h.size ≤ b ∧ oSB Z h' sb b [] cap
set_option maxRecDepth 65536 in
set_option maxHeartbeats 4000000 in
theorem c_asbInit {l : Launch} {Z : State} {a0 : Array Value} {EL : List (String × Nat)} (hG : oG a0 Z EL) (sb : Nat) (q : Nat) (hq : q ≤ 16) (u : Value) (h : Heap) (E : Exa Z h sb "java/lang/StringBuilder") (F1 : Fld Z h sb "java/lang/AbstractStringBuilder" "value" "[B" u) (F2 : Fld Z h sb "java/lang/AbstractStringBuilder" "coder" "B" (.int 0)) (F3 : Fld Z h sb "java/lang/AbstractStringBuilder" "count" "I" (.int 0)) :
    oCtr [] l Z a0 EL True (⟨"java/lang/AbstractStringBuilder", "<init>", "(I)V"⟩ : MethodName) jdk_68_method_2_code 2 none ({ frames := 1, cells := 1, slots := 16, locals := 12 } : Room) #[.ref sb, .int (Int32.ofNat q)] [sb] h ((q_sbInit Z h sb q)) (oBuf Z sb) := by
  obtain ⟨z, hzs, hz⟩ := sCOMPACT hG
  have hsl := own_ltN E.lt
  refine oCtr.enter (Ls := #[.val (.ref sb), .val (.int (Int32.ofNat q))]) (plainFor_of_name pn3) hG.2.1 (fun m => by first | (simp [entryFrame, mkF, argsToLocals, Value.category]; done) | rfl) ?_
  intro pP eE sS mM bB tT cC
  refine oGo.aload_n (pc' := 1) d11_0 rfl rfl rfl ?_
  refine oGo.objinit (pc' := 4) d11_1 rfl (w65 hG) (w14 hG) (w15 hG) rfl (by decide) (Nat.le_of_ble_eq_true rfl) ?_
  refine oGo.getstatic (pc' := 7) d11_4 rfl (w66 hG) Via.refl hzs ?_
  refine oGo.if_eq (pc1 := 10) (pc2 := 25) d11_7 rfl (by decide) (fun q => absurd q hz) (fun q1 => ?_)
  refine oGo.aload_n (pc' := 11) d11_10 rfl rfl rfl ?_
  refine oGo.iload_n (pc' := 12) d11_11 rfl rfl ?_
  refine oGo.newarray (pc' := 14) (k' := 1) (n' := 16) (i := q) d11_12 rfl (w21 hG) rfl 16 (hq) (by decide) rfl rfl (by decide) (by decide) (by decide) ?_
  intro h2 a3 qa3 la3 E4 A5'
  have A5 : oArr Z h2 a3 .byte (List.replicate (q) (.int 0)) := A5'
  have f6 := Fld.ext E4 F1
  have f7 := Exa.ext E4 E
  refine oGo.putfield (pc' := 17) (ty := (.array .byte)) d11_14 rfl (w67 hG) Via.refl f6 f7 (Or.inl (w68 hG)) (w54 hG) (by decide) rfl rfl (by simp) ?_
  intro h8 W9 sh8
  have f10 := Fld.same W9 f6
  refine oGo.aload_n (pc' := 18) d11_17 rfl rfl rfl ?_
  refine oGo.iconst (pc' := 19) (v := 0) d11_18 rfl (by decide) ?_
  have f11 := Fld.ext E4 F2
  have f12 := Fld.other W9 f11 (Or.inr (slot_ne (C := "java/lang/StringBuilder") (Or.inl (w70 hG)) (Or.inl (w68 hG)) (by decide) (t := .byte) (t' := (.array .byte)) (by decide) (by decide)))
  have f13 := Exa.wr W9 f7
  refine oGo.putfield (pc' := 22) (ty := .byte) d11_19 rfl (w69 hG) Via.refl f12 f13 (Or.inl (w70 hG)) (w54 hG) (by decide) (by decide) (by decide) (by simp) ?_
  intro h14 W15 sh14
  have f16 := Fld.same W15 f12
  refine oGo.goto (pc' := 38) d11_22 (by decide) ?_
  have f17 := Exa.wr W15 f13
  have f18 := Fld.other W15 f10 (Or.inr (slot_ne (C := "java/lang/StringBuilder") (Or.inl (w68 hG)) (Or.inl (w70 hG)) (by decide) (t := (.array .byte)) (t' := .byte) (by decide) (by decide)))
  have f19 := Fld.ext E4 F3
  have f20 := Fld.other W9 f19 (Or.inr (slot_ne (C := "java/lang/StringBuilder") (Or.inl (w92 hG)) (Or.inl (w68 hG)) (by decide) (t := .int) (t' := (.array .byte)) (by decide) (by decide)))
  have f21 := Fld.other W15 f20 (Or.inr (slot_ne (C := "java/lang/StringBuilder") (Or.inl (w92 hG)) (Or.inl (w70 hG)) (by decide) (t := .int) (t' := .byte) (by decide) (by decide)))
  have f22 := oArr.other W9 A5 (own_ne (by omega))
  have f23 := oArr.other W15 f22 (own_ne (by omega))
  exact oGo.return_ d11_38 rfl (by decide) (by decide) ⟨rfl, ((((Keep.refl h [sb]).ext E4).wr W9 (Or.inl (by simp))).wr W15 (Or.inl (by simp))), a3, by omega, f17, f18, f16, f21, _, f23, by simp, by simp, by simp⟩ (fun x q => by cases oFld_det f18 q; simp)
set_option maxRecDepth 65536 in
set_option maxHeartbeats 4000000 in
theorem c_sbInit {l : Launch} {Z : State} {a0 : Array Value} {EL : List (String × Nat)} (hG : oG a0 Z EL) (sb : Nat) (u : Value) (h : Heap) (E : Exa Z h sb "java/lang/StringBuilder") (F1 : Fld Z h sb "java/lang/AbstractStringBuilder" "value" "[B" u) (F2 : Fld Z h sb "java/lang/AbstractStringBuilder" "coder" "B" (.int 0)) (F3 : Fld Z h sb "java/lang/AbstractStringBuilder" "count" "I" (.int 0)) :
    oCtr [] l Z a0 EL True (⟨"java/lang/StringBuilder", "<init>", "()V"⟩ : MethodName) jdk_67_method_1_code 1 none ({ frames := 2, cells := 1, slots := 16, locals := 25 } : Room) #[.ref sb] [sb] h ((q_sbInit Z h sb 16)) (oBuf Z sb) := by
  refine oCtr.enter (Ls := #[.val (.ref sb)]) (plainFor_of_name pn4) hG.2.1 (fun m => by first | (simp [entryFrame, mkF, argsToLocals, Value.category]; done) | rfl) ?_
  intro pP eE sS mM bB tT cC
  refine oGo.aload_n (pc' := 1) d10_0 rfl rfl rfl ?_
  refine oGo.bipush (pc' := 3) (v := 16) d10_1 rfl (by decide) ?_
  refine oGo.invokespecial (pc' := 6) (k' := 1) (n' := 16) (a := sb) (argsL := [.int (16 : Int32)]) (rest := []) d10_3 rfl rfl (w59 hG) (w60 hG) (w63 hG) (w64 hG) (by decide) pd8 rfl rfl rfl (c_asbInit hG sb 16 (by decide) u h E F1 F2 F3) (by simp) (by decide) (Nat.le_of_ble_eq_true rfl) rfl rfl (by decide) (by decide) ?_
  intro v1 h2 sh2 q3
  obtain ⟨rfl, K2, b, hb, S2⟩ := q3
  refine ⟨[b, sb], own_D1 (S2.2.1), ?_⟩
  show oGo l Z a0 EL True pP eE sS mM _ bB tT cC _ _ _ _ _ _ _ _ [b, sb] h2 1 16 6 #[.val (.ref sb)] []
  exact oGo.return_ d10_6 rfl (by decide) (by decide) ⟨rfl, K2, b, hb, S2⟩ (fun x q => by cases oFld_det S2.2.1 q; simp)
set_option maxRecDepth 65536 in
set_option maxHeartbeats 4000000 in
theorem c_ensureN {l : Launch} {Z : State} {a0 : Array Value} {EL : List (String × Nat)} (hG : oG a0 Z EL) (sb b : Nat) (cs : List Int32) (cap q : Nat) (hq : q ≤ cap) (hc : cap < 10000) (h : Heap) (SB : oSB Z h sb b cs cap) :
    oCtr [] l Z a0 EL True (⟨"java/lang/AbstractStringBuilder", "ensureCapacityInternal", "(I)V"⟩ : MethodName) jdk_68_method_9_code 3 none ({ frames := 0, cells := 0, slots := 0, locals := 0 } : Room) #[.ref sb, .int (Int32.ofNat q)] [] h (fun v h' => v = none ∧ h' = h) oNo := by
  refine oCtr.enter (Ls := #[.val (.ref sb), .val (.int (Int32.ofNat q)), .unset]) (plainFor_of_name pn3) hG.2.1 (fun m => by first | (simp [entryFrame, mkF, argsToLocals, Value.category]; done) | rfl) ?_
  intro pP eE sS mM bB tT cC
  obtain ⟨E, F1, F2, F3, vs, B, hcap, hvs, hle⟩ := SB
  have hsl := own_ltN E.lt
  have hbl := own_ltN B.lt
  refine oGo.aload_n (pc' := 1) d16_0 rfl rfl rfl ?_
  refine oGo.getfield (pc' := 4) d16_1 rfl (w67 hG) Via.refl F1 ?_
  refine oGo.arraylength (pc' := 5) (z := (Int32.ofNat cap)) d16_4 rfl B (by rw [hcap]) ?_
  refine oGo.aload_n (pc' := 6) d16_5 rfl rfl rfl ?_
  refine oGo.getfield (pc' := 9) d16_6 rfl (w69 hG) Via.refl F2 ?_
  refine oGo.ishr (pc' := 10) d16_9 rfl ?_
  rw [shr0]
  refine oGo.istore_n (pc' := 11) (Ls' := #[.val (.ref sb), .val (.int (Int32.ofNat q)), .val (.int (Int32.ofNat cap))]) d16_10 rfl rfl ?_
  refine oGo.iload_n (pc' := 12) d16_11 rfl rfl ?_
  refine oGo.iload_n (pc' := 13) d16_12 rfl rfl ?_
  refine oGo.isub (pc' := 14) d16_13 rfl ?_
  have hsu := own_subI (i := cap) (j := q) (by omega) (by omega)
  refine oGo.if_le (pc1 := 17) (pc2 := 38) d16_14 rfl (by decide) (fun q1 => ?_) (fun q => by exfalso; rw [Int32.lt_iff_toInt_lt] at q; have e0 : (0 : Int32).toInt = 0 := rfl; omega)
  exact oGo.return_ d16_38 rfl (by decide) (by decide) ⟨rfl, rfl⟩ (fun _ q => q.elim)
set_option maxRecDepth 65536 in
set_option maxHeartbeats 4000000 in
theorem c_inflate {l : Launch} {Z : State} {a0 : Array Value} {EL : List (String × Nat)} (hG : oG a0 Z EL) (sb x t : Nat) (ds : List Int32) (h : Heap) (F2 : Fld Z h sb "java/lang/AbstractStringBuilder" "coder" "B" (.int 0)) (Sx : oS Z h x t ds) :
    oCtr [] l Z a0 EL True (⟨"java/lang/AbstractStringBuilder", "inflateIfNeededFor", "(Ljava/lang/String;)V"⟩ : MethodName) jdk_68_method_71_code 2 none ({ frames := 1, cells := 0, slots := 0, locals := 13 } : Room) #[.ref sb, .ref x] [] h (fun v h' => v = none ∧ h' = h) oNo := by
  obtain ⟨z, hzs, hz⟩ := sCOMPACT hG
  refine oCtr.enter (Ls := #[.val (.ref sb), .val (.ref x)]) (plainFor_of_name pn3) hG.2.1 (fun m => by first | (simp [entryFrame, mkF, argsToLocals, Value.category]; done) | rfl) ?_
  intro pP eE sS mM bB tT cC
  refine oGo.getstatic (pc' := 3) d18_0 rfl (w66 hG) Via.refl hzs ?_
  refine oGo.if_eq (pc1 := 6) (pc2 := 21) d18_3 rfl (by decide) (fun q => absurd q hz) (fun q1 => ?_)
  refine oGo.aload_n (pc' := 7) d18_6 rfl rfl rfl ?_
  refine oGo.getfield (pc' := 10) d18_7 rfl (w69 hG) Via.refl F2 ?_
  refine oGo.aload_n (pc' := 11) d18_10 rfl rfl rfl ?_
  refine oGo.invokevirtual (pc' := 14) (k' := 0) (n' := 0) (a := x) (argsL := []) (rest := [.int (0 : Int32)]) d18_11 rfl (w108 hG) (w87 hG) (w89 hG) (w89 hG) rfl (w88 hG) (w5 hG) (w90 hG) (by decide) pd4 rfl rfl rfl Sx.1 (c_coder hG x 0 (Or.inl rfl) h Sx.2.2.1) (by simp) (by decide) (Nat.le_of_ble_eq_true rfl) rfl rfl (by decide) (by decide) ?_
  intro v2 h3 sh3 q4
  obtain ⟨rfl, ee⟩ := q4
  obtain rfl := ee.symm
  refine ⟨_, fun _ hx => Or.inl hx, ?_⟩
  show oGo l Z a0 EL True pP eE sS mM _ bB tT cC _ _ _ _ _ _ _ _ [] h 0 0 14 #[.val (.ref sb), .val (.ref x)] [.int (0 : Int32), .int (0 : Int32)]
  refine oGo.icmp_eq (pc1 := 17) (pc2 := 21) d18_14 rfl (by decide) (fun q5 => ?_) (fun q => absurd rfl q)
  exact oGo.return_ d18_21 rfl (by decide) (by decide) ⟨rfl, rfl⟩ (fun _ q => q.elim)
set_option maxRecDepth 65536 in
set_option maxHeartbeats 4000000 in
theorem c_getBytes {l : Launch} {Z : State} {a0 : Array Value} {EL : List (String × Nat)} (hG : oG a0 Z EL) (x t b : Nat) (ds : List Int32) (ws : List Value) (i : Nat) (hi : i + ds.length ≤ ws.length) (hne : t ≠ b) (h : Heap) (B : oArr Z h b .byte ws) (Sx : oS Z h x t ds) :
    oCtr [] l Z a0 EL True (⟨"java/lang/String", "getBytes", "([BIB)V"⟩ : MethodName) jdk_42_method_147_code 4 none ({ frames := 1, cells := 0, slots := 0, locals := 18 } : Room) #[.ref x, .ref b, .int (Int32.ofNat i), .int (0 : Int32)] [b] h (fun v h' => v = none ∧ Keep h h' [b] ∧ oArr Z h' b .byte (ws.take i ++ oI (ds.map lo8) ++ ws.drop (i + ds.length))) oNo := by
  refine oCtr.enter (Ls := #[.val (.ref x), .val (.ref b), .val (.int (Int32.ofNat i)), .val (.int (0 : Int32))]) (plainFor_of_name pn1) hG.2.1 (fun m => by first | (simp [entryFrame, mkF, argsToLocals, Value.category]; done) | rfl) ?_
  intro pP eE sS mM bB tT cC
  refine oGo.aload_n (pc' := 1) d19_0 rfl rfl rfl ?_
  refine oGo.invokevirtual (pc' := 4) (k' := 0) (n' := 0) (a := x) (argsL := []) (rest := []) d19_1 rfl (w86 hG) (w87 hG) (w89 hG) (w89 hG) rfl (w88 hG) (w5 hG) (w90 hG) (by decide) pd4 rfl rfl rfl Sx.1 (c_coder hG x 0 (Or.inl rfl) h Sx.2.2.1) (by simp) (by decide) (Nat.le_of_ble_eq_true rfl) rfl rfl (by decide) (by decide) ?_
  intro v1 h2 sh2 q3
  obtain ⟨rfl, ee⟩ := q3
  obtain rfl := ee.symm
  refine ⟨_, fun _ hx => Or.inl hx, ?_⟩
  show oGo l Z a0 EL True pP eE sS mM _ bB tT cC _ _ _ _ _ _ _ _ [b] h 0 0 4 #[.val (.ref x), .val (.ref b), .val (.int (Int32.ofNat i)), .val (.int (0 : Int32))] [.int (0 : Int32)]
  refine oGo.iload_n (pc' := 5) d19_4 rfl rfl ?_
  refine oGo.icmp_ne (pc1 := 8) (pc2 := 28) d19_5 rfl (by decide) (fun q => absurd rfl q) (fun q4 => ?_)
  refine oGo.aload_n (pc' := 9) d19_8 rfl rfl rfl ?_
  refine oGo.getfield (pc' := 12) d19_9 rfl (w30 hG) Via.refl Sx.2.1 ?_
  refine oGo.iconst (pc' := 13) (v := 0) d19_12 rfl (by decide) ?_
  refine oGo.aload_n (pc' := 14) d19_13 rfl rfl rfl ?_
  refine oGo.iload_n (pc' := 15) d19_14 rfl rfl ?_
  refine oGo.iload_n (pc' := 16) d19_15 rfl rfl ?_
  refine oGo.ishl (pc' := 17) d19_16 rfl ?_
  rw [shl0]
  refine oGo.aload_n (pc' := 18) d19_17 rfl rfl rfl ?_
  refine oGo.getfield (pc' := 21) d19_18 rfl (w30 hG) Via.refl Sx.2.1 ?_
  refine oGo.arraylength (pc' := 22) (z := (Int32.ofNat ds.length)) d19_21 rfl Sx.2.2.2.1 (by rw [List.length_map, List.length_map]) ?_
  refine oGo.arraycopy (pc' := 25) (i := 0) (j := i) (q := ds.length) d19_22 rfl (w114 hG) (w117 hG) (w115 hG) (w116 hG) Sx.2.2.2.1 B (by simp) (hi) rfl (by decide) (Nat.le_of_ble_eq_true rfl) (by simp) ?_
  intro h5 K6 sh5 A7
  rw [show ((oI (ds.map lo8)).drop 0).take ds.length = oI (ds.map lo8) from by rw [List.drop_zero]; exact List.take_of_length_le (by simp)] at A7
  refine oGo.goto (pc' := 43) d19_25 (by decide) ?_
  exact oGo.return_ d19_43 rfl (by decide) (by decide) ⟨rfl, K6, A7⟩ (fun _ q => q.elim)
set_option maxRecDepth 65536 in
set_option maxHeartbeats 4000000 in
theorem c_putStr {l : Launch} {Z : State} {a0 : Array Value} {EL : List (String × Nat)} (hG : oG a0 Z EL) (sb x t b : Nat) (ds : List Int32) (ws : List Value) (i : Nat) (hi : i + ds.length ≤ ws.length) (hne : t ≠ b) (h : Heap) (E : Exa Z h sb "java/lang/StringBuilder") (F1 : Fld Z h sb "java/lang/AbstractStringBuilder" "value" "[B" (.ref b)) (F2 : Fld Z h sb "java/lang/AbstractStringBuilder" "coder" "B" (.int 0)) (B : oArr Z h b .byte ws) (Sx : oS Z h x t ds) :
    oCtr [] l Z a0 EL True (⟨"java/lang/AbstractStringBuilder", "putStringAt", "(ILjava/lang/String;)V"⟩ : MethodName) jdk_68_method_73_code 3 none ({ frames := 2, cells := 0, slots := 0, locals := 33 } : Room) #[.ref sb, .int (Int32.ofNat i), .ref x] [b] h (fun v h' => v = none ∧ Keep h h' [b] ∧ oArr Z h' b .byte (ws.take i ++ oI (ds.map lo8) ++ ws.drop (i + ds.length))) oNo := by
  refine oCtr.enter (Ls := #[.val (.ref sb), .val (.int (Int32.ofNat i)), .val (.ref x)]) (plainFor_of_name pn3) hG.2.1 (fun m => by first | (simp [entryFrame, mkF, argsToLocals, Value.category]; done) | rfl) ?_
  intro pP eE sS mM bB tT cC
  refine oGo.aload_n (pc' := 1) d17_0 rfl rfl rfl ?_
  refine oGo.aload_n (pc' := 2) d17_1 rfl rfl rfl ?_
  refine oGo.invokeprivate (pc' := 5) (k' := 0) (n' := 0) (a := sb) (argsL := [.ref x]) (rest := []) d17_2 rfl (w103 hG) (w105 hG) (w106 hG) (w104 hG) (w63 hG) (w107 hG) (by decide) pd9 rfl rfl rfl E (c_inflate hG sb x t ds h F2 Sx) (by simp) (by decide) (Nat.le_of_ble_eq_true rfl) rfl rfl (by decide) (by decide) ?_
  intro v1 h2 sh2 q3
  obtain ⟨rfl, ee⟩ := q3
  obtain rfl := ee.symm
  refine ⟨_, fun _ hx => Or.inl hx, ?_⟩
  show oGo l Z a0 EL True pP eE sS mM _ bB tT cC _ _ _ _ _ _ _ _ [b] h 0 0 5 #[.val (.ref sb), .val (.int (Int32.ofNat i)), .val (.ref x)] []
  refine oGo.aload_n (pc' := 6) d17_5 rfl rfl rfl ?_
  refine oGo.aload_n (pc' := 7) d17_6 rfl rfl rfl ?_
  refine oGo.getfield (pc' := 10) d17_7 rfl (w67 hG) Via.refl F1 ?_
  refine oGo.iload_n (pc' := 11) d17_10 rfl rfl ?_
  refine oGo.aload_n (pc' := 12) d17_11 rfl rfl rfl ?_
  refine oGo.getfield (pc' := 15) d17_12 rfl (w69 hG) Via.refl F2 ?_
  refine oGo.invokevirtual (pc' := 18) (k' := 0) (n' := 0) (a := x) (argsL := [.ref b, .int (Int32.ofNat i), .int (0 : Int32)]) (rest := []) d17_15 rfl (w109 hG) (w110 hG) (w112 hG) (w112 hG) rfl (w111 hG) (w5 hG) (w113 hG) (by decide) pd10 rfl rfl rfl Sx.1 (c_getBytes hG x t b ds ws i hi hne h B Sx) (by simp) (by decide) (Nat.le_of_ble_eq_true rfl) rfl rfl (by decide) (by decide) ?_
  intro v4 h5 sh5 q6
  obtain ⟨rfl, K2, B2⟩ := q6
  refine ⟨_, fun _ hx => Or.inl hx, ?_⟩
  show oGo l Z a0 EL True pP eE sS mM _ bB tT cC _ _ _ _ _ _ _ _ [b] h5 0 0 18 #[.val (.ref sb), .val (.int (Int32.ofNat i)), .val (.ref x)] []
  exact oGo.return_ d17_18 rfl (by decide) (by decide) ⟨rfl, K2, B2⟩ (fun _ q => q.elim)
abbrev q_append (Z : State) (h : Heap) (sb b : Nat) (cs ds : List Int32) (cap : Nat) : Option Value → Heap → Prop := fun v h' => v = some (.ref sb) ∧ Keep h h' [sb, b] ∧ oSB Z h' sb b (cs ++ ds) cap
set_option maxRecDepth 65536 in
set_option maxHeartbeats 4000000 in
theorem c_asbAppend {l : Launch} {Z : State} {a0 : Array Value} {EL : List (String × Nat)} (hG : oG a0 Z EL) (sb b x t : Nat) (cs ds : List Int32) (cap : Nat) (hM : cs.length + ds.length ≤ cap) (hc : cap < 5000) (hne : x ≠ sb ∧ x ≠ b ∧ t ≠ sb ∧ t ≠ b) (h : Heap) (SB : oSB Z h sb b cs cap) (Sx : oS Z h x t ds) :
    oCtr [] l Z a0 EL True (⟨"java/lang/AbstractStringBuilder", "append", "(Ljava/lang/String;)Ljava/lang/AbstractStringBuilder;"⟩ : MethodName) jdk_68_method_22_code 3 (some (.object "java/lang/AbstractStringBuilder")) ({ frames := 3, cells := 0, slots := 0, locals := 47 } : Room) #[.ref sb, .ref x] [sb, b] h ((q_append Z h sb b cs ds cap)) oNo := by
  refine oCtr.enter (Ls := #[.val (.ref sb), .val (.ref x), .unset]) (plainFor_of_name pn3) hG.2.1 (fun m => by first | (simp [entryFrame, mkF, argsToLocals, Value.category]; done) | rfl) ?_
  intro pP eE sS mM bB tT cC
  have SB0 := SB
  obtain ⟨E, F1, F2, F3, vs, B, hcap, hvs, hle⟩ := SB
  have hsl := own_ltN E.lt
  have hbl := own_ltN B.lt
  have hsb2 : sb ≠ b := oSB_ne hG SB0
  refine oGo.aload_n (pc' := 1) d13_0 rfl rfl rfl ?_
  refine oGo.ifnonnull_y (pc2 := 9) d13_1 (by decide) ?_
  refine oGo.aload_n (pc' := 10) d13_9 rfl rfl rfl ?_
  refine oGo.invokevirtual (pc' := 13) (k' := 0) (n' := 0) (a := x) (argsL := []) (rest := []) d13_10 rfl (w81 hG) (w82 hG) (w84 hG) (w84 hG) rfl (w83 hG) (w5 hG) (w85 hG) (by decide) pd11 rfl rfl rfl Sx.1 (c_length hG x t ds h Sx) (by simp) (by decide) (Nat.le_of_ble_eq_true rfl) rfl rfl (by decide) (by decide) ?_
  intro v1 h2 sh2 q3
  obtain ⟨rfl, ee⟩ := q3
  obtain rfl := ee.symm
  refine ⟨_, fun _ hx => Or.inl hx, ?_⟩
  show oGo l Z a0 EL True pP eE sS mM _ bB tT cC _ _ _ _ _ _ _ _ [sb, b] h 0 0 13 #[.val (.ref sb), .val (.ref x), .unset] [.int (Int32.ofNat ds.length)]
  refine oGo.istore_n (pc' := 14) (Ls' := #[.val (.ref sb), .val (.ref x), .val (.int (Int32.ofNat ds.length))]) d13_13 rfl rfl ?_
  refine oGo.aload_n (pc' := 15) d13_14 rfl rfl rfl ?_
  refine oGo.aload_n (pc' := 16) d13_15 rfl rfl rfl ?_
  refine oGo.getfield (pc' := 19) d13_16 rfl (w91 hG) Via.refl F3 ?_
  refine oGo.iload_n (pc' := 20) d13_19 rfl rfl ?_
  refine oGo.iadd (pc' := 21) d13_20 rfl ?_
  rw [← Int32.ofNat_add]
  refine oGo.invokeprivate (pc' := 24) (k' := 0) (n' := 0) (a := sb) (argsL := [.int (Int32.ofNat (cs.length + ds.length))]) (rest := []) d13_21 rfl (w93 hG) (w95 hG) (w96 hG) (w94 hG) (w63 hG) (w97 hG) (by decide) pd8 rfl rfl rfl E (c_ensureN hG sb b cs cap (cs.length + ds.length) hM (by omega) h SB0) (by simp) (by decide) (Nat.le_of_ble_eq_true rfl) rfl rfl (by decide) (by decide) ?_
  intro v4 h5 sh5 q6
  obtain ⟨rfl, ee⟩ := q6
  obtain rfl := ee.symm
  refine ⟨_, fun _ hx => Or.inl hx, ?_⟩
  show oGo l Z a0 EL True pP eE sS mM _ bB tT cC _ _ _ _ _ _ _ _ [sb, b] h 0 0 24 #[.val (.ref sb), .val (.ref x), .val (.int (Int32.ofNat ds.length))] []
  refine oGo.aload_n (pc' := 25) d13_24 rfl rfl rfl ?_
  refine oGo.aload_n (pc' := 26) d13_25 rfl rfl rfl ?_
  refine oGo.getfield (pc' := 29) d13_26 rfl (w91 hG) Via.refl F3 ?_
  refine oGo.aload_n (pc' := 30) d13_29 rfl rfl rfl ?_
  refine oGo.invokeprivate (pc' := 33) (k' := 0) (n' := 0) (a := sb) (argsL := [.int (Int32.ofNat cs.length), .ref x]) (rest := []) d13_30 rfl (w98 hG) (w100 hG) (w101 hG) (w99 hG) (w63 hG) (w102 hG) (by decide) pd12 rfl rfl rfl E (c_putStr hG sb x t b ds vs cs.length (by omega) hne.2.2.2 _ E F1 F2 B Sx) (by simp) (by decide) (Nat.le_of_ble_eq_true rfl) rfl rfl (by decide) (by decide) ?_
  intro v7 h8 sh8 q9
  obtain ⟨rfl, K3, B3⟩ := q9
  refine ⟨_, fun _ hx => Or.inl hx, ?_⟩
  show oGo l Z a0 EL True pP eE sS mM _ bB tT cC _ _ _ _ _ _ _ _ [sb, b] h8 0 0 33 #[.val (.ref sb), .val (.ref x), .val (.int (Int32.ofNat ds.length))] []
  refine oGo.aload_n (pc' := 34) d13_33 rfl rfl rfl ?_
  refine oGo.dup (pc' := 35) d13_34 rfl rfl ?_
  have f10 := Fld.keep F3 K3 (own_nin1 hsb2)
  refine oGo.getfield (pc' := 38) d13_35 rfl (w91 hG) Via.refl f10 ?_
  refine oGo.iload_n (pc' := 39) d13_38 rfl rfl ?_
  refine oGo.iadd (pc' := 40) d13_39 rfl ?_
  rw [← Int32.ofNat_add]
  have f11 := Exa.keep E K3
  refine oGo.putfield (pc' := 43) (ty := .int) d13_40 rfl (w91 hG) Via.refl f10 f11 (Or.inl (w92 hG)) (w54 hG) (by decide) rfl rfl (by simp) ?_
  intro h12 W13 sh12
  have f14 := Fld.same W13 f10
  refine oGo.aload_n (pc' := 44) d13_43 rfl rfl rfl ?_
  have f15 := Exa.wr W13 f11
  have f16 := Fld.keep F1 K3 (own_nin1 hsb2)
  have f17 := Fld.other W13 f16 (Or.inr (slot_ne (C := "java/lang/StringBuilder") (Or.inl (w68 hG)) (Or.inl (w92 hG)) (by decide) (t := (.array .byte)) (t' := .int) (by decide) (by decide)))
  have f18 := Fld.keep F2 K3 (own_nin1 hsb2)
  have f19 := Fld.other W13 f18 (Or.inr (slot_ne (C := "java/lang/StringBuilder") (Or.inl (w70 hG)) (Or.inl (w92 hG)) (by decide) (t := .byte) (t' := .int) (by decide) (by decide)))
  have f20 := oArr.other W13 B3 (Ne.symm hsb2)
  exact oGo.areturn d13_44 rfl rfl rfl rfl (by decide) (by decide) ⟨rfl, ((Keep.refl h [sb, b]).trans K3 (by simp)).wr W13 (Or.inl (by simp)), f15, f17, f19, by rw [List.length_append]; exact f14, _, f20, by simp; omega, by rw [List.length_append]; exact own_app_take hvs (by omega), by rw [List.length_append]; exact hM⟩ (fun _ q => q.elim)
set_option maxRecDepth 65536 in
set_option maxHeartbeats 4000000 in
theorem c_append {l : Launch} {Z : State} {a0 : Array Value} {EL : List (String × Nat)} (hG : oG a0 Z EL) (sb b x t : Nat) (cs ds : List Int32) (cap : Nat) (hM : cs.length + ds.length ≤ cap) (hc : cap < 5000) (hne : x ≠ sb ∧ x ≠ b ∧ t ≠ sb ∧ t ≠ b) (h : Heap) (SB : oSB Z h sb b cs cap) (Sx : oS Z h x t ds) :
    oCtr [] l Z a0 EL True (⟨"java/lang/StringBuilder", "append", "(Ljava/lang/String;)Ljava/lang/StringBuilder;"⟩ : MethodName) jdk_67_method_7_code 2 (some (.object "java/lang/StringBuilder")) ({ frames := 4, cells := 0, slots := 0, locals := 61 } : Room) #[.ref sb, .ref x] [sb, b] h ((q_append Z h sb b cs ds cap)) oNo := by
  refine oCtr.enter (Ls := #[.val (.ref sb), .val (.ref x)]) (plainFor_of_name pn4) hG.2.1 (fun m => by first | (simp [entryFrame, mkF, argsToLocals, Value.category]; done) | rfl) ?_
  intro pP eE sS mM bB tT cC
  refine oGo.aload_n (pc' := 1) d12_0 rfl rfl rfl ?_
  refine oGo.aload_n (pc' := 2) d12_1 rfl rfl rfl ?_
  refine oGo.invokesuper (pc' := 5) (k' := 0) (n' := 0) (a := sb) (argsL := [.ref x]) (rest := []) d12_2 rfl (by decide) (w76 hG) (w78 hG) (w77 hG) (w96 hG) rfl (w63 hG) (w80 hG) (by decide) pd13 rfl rfl rfl SB.1 (c_asbAppend hG sb b x t cs ds cap hM hc hne h SB Sx) (by simp) (by decide) (Nat.le_of_ble_eq_true rfl) rfl rfl (by decide) (by decide) ?_
  intro v1 h2 sh2 q3
  obtain ⟨rfl, K2, S2⟩ := q3
  refine ⟨_, fun _ hx => Or.inl hx, ?_⟩
  show oGo l Z a0 EL True pP eE sS mM _ bB tT cC _ _ _ _ _ _ _ _ [sb, b] h2 0 0 5 #[.val (.ref sb), .val (.ref x)] [.ref sb]
  refine oGo.pop (pc' := 6) d12_5 rfl rfl ?_
  refine oGo.aload_n (pc' := 7) d12_6 rfl rfl rfl ?_
  exact oGo.areturn d12_7 rfl rfl rfl rfl (by decide) (by decide) ⟨rfl, K2, S2⟩ (fun _ q => q.elim)
set_option maxRecDepth 65536 in
set_option maxHeartbeats 4000000 in
theorem c_getValue {l : Launch} {Z : State} {a0 : Array Value} {EL : List (String × Nat)} (hG : oG a0 Z EL) (sb b : Nat) (h : Heap) (F1 : Fld Z h sb "java/lang/AbstractStringBuilder" "value" "[B" (.ref b)) :
    oCtr [] l Z a0 EL True (⟨"java/lang/AbstractStringBuilder", "getValue", "()[B"⟩ : MethodName) jdk_68_method_64_code 1 (some (.array .byte)) ({ frames := 0, cells := 0, slots := 0, locals := 0 } : Room) #[.ref sb] [] h (fun v h' => v = some (.ref b) ∧ h' = h) oNo := by
  refine oCtr.enter (Ls := #[.val (.ref sb)]) (plainFor_of_name pn3) hG.2.1 (fun m => by first | (simp [entryFrame, mkF, argsToLocals, Value.category]; done) | rfl) ?_
  intro pP eE sS mM bB tT cC
  refine oGo.aload_n (pc' := 1) d28_0 rfl rfl rfl ?_
  refine oGo.getfield (pc' := 4) d28_1 rfl (w67 hG) Via.refl F1 ?_
  exact oGo.areturn d28_4 rfl rfl rfl rfl (by decide) (by decide) ⟨rfl, rfl⟩ (fun _ q => q.elim)
set_option maxRecDepth 65536 in
set_option maxHeartbeats 4000000 in
theorem c_asbLen {l : Launch} {Z : State} {a0 : Array Value} {EL : List (String × Nat)} (hG : oG a0 Z EL) (sb : Nat) (z : Int32) (h : Heap) (F3 : Fld Z h sb "java/lang/AbstractStringBuilder" "count" "I" (.int z)) :
    oCtr [] l Z a0 EL True (⟨"java/lang/AbstractStringBuilder", "length", "()I"⟩ : MethodName) jdk_68_method_6_code 1 (some .int) ({ frames := 0, cells := 0, slots := 0, locals := 0 } : Room) #[.ref sb] [] h (fun v h' => v = some (.int z) ∧ h' = h) oNo := by
  refine oCtr.enter (Ls := #[.val (.ref sb)]) (plainFor_of_name pn3) hG.2.1 (fun m => by first | (simp [entryFrame, mkF, argsToLocals, Value.category]; done) | rfl) ?_
  intro pP eE sS mM bB tT cC
  refine oGo.aload_n (pc' := 1) d30_0 rfl rfl rfl ?_
  refine oGo.getfield (pc' := 4) d30_1 rfl (w91 hG) Via.refl F3 ?_
  exact oGo.ireturn d30_4 rfl (by decide) (by decide) ⟨rfl, rfl⟩ (fun _ q => q.elim)
set_option maxRecDepth 65536 in
set_option maxHeartbeats 4000000 in
theorem c_sbLen {l : Launch} {Z : State} {a0 : Array Value} {EL : List (String × Nat)} (hG : oG a0 Z EL) (sb : Nat) (z : Int32) (h : Heap) (E : Exa Z h sb "java/lang/StringBuilder") (F3 : Fld Z h sb "java/lang/AbstractStringBuilder" "count" "I" (.int z)) :
    oCtr [] l Z a0 EL True (⟨"java/lang/StringBuilder", "length", "()I"⟩ : MethodName) jdk_67_method_93_code 1 (some .int) ({ frames := 1, cells := 0, slots := 0, locals := 12 } : Room) #[.ref sb] [] h (fun v h' => v = some (.int z) ∧ h' = h) oNo := by
  refine oCtr.enter (Ls := #[.val (.ref sb)]) (plainFor_of_name pn4) hG.2.1 (fun m => by first | (simp [entryFrame, mkF, argsToLocals, Value.category]; done) | rfl) ?_
  intro pP eE sS mM bB tT cC
  refine oGo.aload_n (pc' := 1) d29_0 rfl rfl rfl ?_
  refine oGo.invokesuper (pc' := 4) (k' := 0) (n' := 0) (a := sb) (argsL := []) (rest := []) d29_1 rfl (by decide) (w166 hG) (w78 hG) (w162 hG) (w96 hG) rfl (w63 hG) (w167 hG) (by decide) pd11 rfl rfl rfl E (c_asbLen hG sb z h F3) (by simp) (by decide) (Nat.le_of_ble_eq_true rfl) rfl rfl (by decide) (by decide) ?_
  intro v1 h2 sh2 q3
  obtain ⟨rfl, ee⟩ := q3
  obtain rfl := ee.symm
  refine ⟨_, fun _ hx => Or.inl hx, ?_⟩
  show oGo l Z a0 EL True pP eE sS mM _ bB tT cC _ _ _ _ _ _ _ _ [] h 0 0 4 #[.val (.ref sb)] [.int z]
  exact oGo.ireturn d29_4 rfl (by decide) (by decide) ⟨rfl, rfl⟩ (fun _ q => q.elim)
set_option maxRecDepth 65536 in
set_option maxHeartbeats 4000000 in
theorem c_asbLat {l : Launch} {Z : State} {a0 : Array Value} {EL : List (String × Nat)} (hG : oG a0 Z EL) (sb : Nat) (h : Heap) (F2 : Fld Z h sb "java/lang/AbstractStringBuilder" "coder" "B" (.int 0)) :
    oCtr [] l Z a0 EL True (⟨"java/lang/AbstractStringBuilder", "isLatin1", "()Z"⟩ : MethodName) jdk_68_method_68_code 1 (some .boolean) ({ frames := 0, cells := 0, slots := 0, locals := 0 } : Room) #[.ref sb] [] h (fun v h' => v = some (.int 1) ∧ h' = h) oNo := by
  obtain ⟨z, hzs, hz⟩ := sCOMPACT hG
  refine oCtr.enter (Ls := #[.val (.ref sb)]) (plainFor_of_name pn3) hG.2.1 (fun m => by first | (simp [entryFrame, mkF, argsToLocals, Value.category]; done) | rfl) ?_
  intro pP eE sS mM bB tT cC
  refine oGo.getstatic (pc' := 3) d23_0 rfl (w66 hG) Via.refl hzs ?_
  refine oGo.if_eq (pc1 := 6) (pc2 := 17) d23_3 rfl (by decide) (fun q => absurd q hz) (fun q1 => ?_)
  refine oGo.aload_n (pc' := 7) d23_6 rfl rfl rfl ?_
  refine oGo.getfield (pc' := 10) d23_7 rfl (w69 hG) Via.refl F2 ?_
  refine oGo.if_ne (pc1 := 13) (pc2 := 17) d23_10 rfl (by decide) (fun q => absurd rfl q) (fun q2 => ?_)
  refine oGo.iconst (pc' := 14) (v := 1) d23_13 rfl (by decide) ?_
  refine oGo.goto (pc' := 18) d23_14 (by decide) ?_
  exact oGo.nreturn d23_18 rfl (by simp) rfl (by decide) (by decide) ⟨rfl, rfl⟩ (fun _ q => q.elim)
set_option maxRecDepth 65536 in
set_option maxHeartbeats 4000000 in
theorem c_strSize {l : Launch} {Z : State} {a0 : Array Value} {EL : List (String × Nat)} (hG : oG a0 Z EL) (p n : Nat) (hp : p ≤ 65535) (hn : ndF p = n) (h : Heap)  :
    oCtr [] l Z a0 EL True (⟨"java/lang/Integer", "stringSize", "(I)I"⟩ : MethodName) jdk_33_method_13_code 4 (some .int) ({ frames := 0, cells := 0, slots := 0, locals := 0 } : Room) #[.int (Int32.ofNat p)] [] h (fun v h' => v = some (.int (Int32.ofNat n)) ∧ h' = h) oNo := by
  refine oCtr.enter (Ls := #[.val (.int (Int32.ofNat p)), .unset, .unset, .unset]) (plainFor_of_name pn5) hG.2.1 (fun m => by first | (simp [entryFrame, mkF, argsToLocals, Value.category]; done) | rfl) ?_
  intro pP eE sS mM bB tT cC
  refine oGo.iconst (pc' := 1) (v := 1) d22_0 rfl (by decide) ?_
  refine oGo.istore_n (pc' := 2) (Ls' := #[.val (.int (Int32.ofNat p)), .val (.int (1 : Int32)), .unset, .unset]) d22_1 rfl rfl ?_
  refine oGo.iload_n (pc' := 3) d22_2 rfl rfl ?_
  refine oGo.if_lt (pc1 := 6) (pc2 := 11) d22_3 rfl (by decide) (fun q => absurd q (own_nn (by omega))) (fun q1 => ?_)
  refine oGo.iconst (pc' := 7) (v := 0) d22_6 rfl (by decide) ?_
  refine oGo.istore_n (pc' := 8) (Ls' := #[.val (.int (Int32.ofNat p)), .val (.int (0 : Int32)), .unset, .unset]) d22_7 rfl rfl ?_
  refine oGo.iload_n (pc' := 9) d22_8 rfl rfl ?_
  refine oGo.ineg (pc' := 10) d22_9 rfl ?_
  refine oGo.istore_n (pc' := 11) (Ls' := #[.val (.int ((-(Int32.ofNat p)))), .val (.int (0 : Int32)), .unset, .unset]) d22_10 rfl rfl ?_
  refine oGo.bipush (pc' := 13) (v := -10) d22_11 rfl (by decide) ?_
  refine oGo.istore_n (pc' := 14) (Ls' := #[.val (.int ((-(Int32.ofNat p)))), .val (.int (0 : Int32)), .val (.int (-10 : Int32)), .unset]) d22_13 rfl rfl ?_
  refine oGo.iconst (pc' := 15) (v := 1) d22_14 rfl (by decide) ?_
  refine oGo.istore_n (pc' := 16) (Ls' := #[.val (.int ((-(Int32.ofNat p)))), .val (.int (0 : Int32)), .val (.int (-10 : Int32)), .val (.int (1 : Int32))]) d22_15 rfl rfl ?_
  rcases nd_cases hn (by omega) with ⟨rfl, h1⟩ | ⟨rfl, h1, h2⟩ | ⟨rfl, h1, h2⟩ | ⟨rfl, h1, h2⟩ | ⟨rfl, h1⟩
  · refine oGo.iload_n (pc' := 17) d22_16 rfl rfl ?_
    refine oGo.bipush (pc' := 19) (v := 10) d22_17 rfl (by decide) ?_
    refine oGo.icmp_ge (pc1 := 22) (pc2 := 42) d22_19 rfl (by decide) (fun q => by first | exact absurd q (by decide) | exact absurd (by decide) q) (fun q2 => ?_)
    refine oGo.iload_n (pc' := 23) d22_22 rfl rfl ?_
    refine oGo.iload_n (pc' := 24) d22_23 rfl rfl ?_
    refine oGo.icmp_le (pc1 := 27) (pc2 := 31) d22_24 rfl (by decide) (fun q => by exfalso; rw [show (-10 : Int32) = -(Int32.ofNat 10) from rfl, own_neglt (by omega) (by omega)] at q; omega) (fun q3 => ?_)
    refine oGo.iload_n (pc' := 28) d22_27 rfl rfl ?_
    refine oGo.iload_n (pc' := 29) d22_28 rfl rfl ?_
    refine oGo.iadd (pc' := 30) d22_29 rfl ?_
    rw [show (1 : Int32) + (0 : Int32) = (1 : Int32) from by decide]
    exact oGo.ireturn d22_30 rfl (by decide) (by decide) ⟨rfl, rfl⟩ (fun _ q => q.elim)
  · refine oGo.iload_n (pc' := 17) d22_16 rfl rfl ?_
    refine oGo.bipush (pc' := 19) (v := 10) d22_17 rfl (by decide) ?_
    refine oGo.icmp_ge (pc1 := 22) (pc2 := 42) d22_19 rfl (by decide) (fun q => by first | exact absurd q (by decide) | exact absurd (by decide) q) (fun q4 => ?_)
    refine oGo.iload_n (pc' := 23) d22_22 rfl rfl ?_
    refine oGo.iload_n (pc' := 24) d22_23 rfl rfl ?_
    refine oGo.icmp_le (pc1 := 27) (pc2 := 31) d22_24 rfl (by decide) (fun q5 => ?_) (fun q => by exfalso; rw [show (-10 : Int32) = -(Int32.ofNat 10) from rfl, own_neglt (by omega) (by omega)] at q; omega)
    refine oGo.bipush (pc' := 33) (v := 10) d22_31 rfl (by decide) ?_
    refine oGo.iload_n (pc' := 34) d22_33 rfl rfl ?_
    refine oGo.imul (pc' := 35) d22_34 rfl ?_
    rw [show (10 : Int32) * (-10 : Int32) = (-100 : Int32) from by decide]
    refine oGo.istore_n (pc' := 36) (Ls' := #[.val (.int ((-(Int32.ofNat p)))), .val (.int (0 : Int32)), .val (.int (-100 : Int32)), .val (.int (1 : Int32))]) d22_35 rfl rfl ?_
    refine oGo.iinc (pc' := 39) (y := 1) (Ls' := #[.val (.int ((-(Int32.ofNat p)))), .val (.int (0 : Int32)), .val (.int (-100 : Int32)), .val (.int ((1 : Int32) + (1 : Int32)))]) d22_36 rfl rfl (by decide) rfl ?_
    rw [show (1 : Int32) + (1 : Int32) = (2 : Int32) from by decide]
    refine oGo.goto (pc' := 16) d22_39 (by decide) ?_
    refine oGo.iload_n (pc' := 17) d22_16 rfl rfl ?_
    refine oGo.bipush (pc' := 19) (v := 10) d22_17 rfl (by decide) ?_
    refine oGo.icmp_ge (pc1 := 22) (pc2 := 42) d22_19 rfl (by decide) (fun q => by first | exact absurd q (by decide) | exact absurd (by decide) q) (fun q6 => ?_)
    refine oGo.iload_n (pc' := 23) d22_22 rfl rfl ?_
    refine oGo.iload_n (pc' := 24) d22_23 rfl rfl ?_
    refine oGo.icmp_le (pc1 := 27) (pc2 := 31) d22_24 rfl (by decide) (fun q => by exfalso; rw [show (-100 : Int32) = -(Int32.ofNat 100) from rfl, own_neglt (by omega) (by omega)] at q; omega) (fun q7 => ?_)
    refine oGo.iload_n (pc' := 28) d22_27 rfl rfl ?_
    refine oGo.iload_n (pc' := 29) d22_28 rfl rfl ?_
    refine oGo.iadd (pc' := 30) d22_29 rfl ?_
    rw [show (2 : Int32) + (0 : Int32) = (2 : Int32) from by decide]
    exact oGo.ireturn d22_30 rfl (by decide) (by decide) ⟨rfl, rfl⟩ (fun _ q => q.elim)
  · refine oGo.iload_n (pc' := 17) d22_16 rfl rfl ?_
    refine oGo.bipush (pc' := 19) (v := 10) d22_17 rfl (by decide) ?_
    refine oGo.icmp_ge (pc1 := 22) (pc2 := 42) d22_19 rfl (by decide) (fun q => by first | exact absurd q (by decide) | exact absurd (by decide) q) (fun q8 => ?_)
    refine oGo.iload_n (pc' := 23) d22_22 rfl rfl ?_
    refine oGo.iload_n (pc' := 24) d22_23 rfl rfl ?_
    refine oGo.icmp_le (pc1 := 27) (pc2 := 31) d22_24 rfl (by decide) (fun q9 => ?_) (fun q => by exfalso; rw [show (-10 : Int32) = -(Int32.ofNat 10) from rfl, own_neglt (by omega) (by omega)] at q; omega)
    refine oGo.bipush (pc' := 33) (v := 10) d22_31 rfl (by decide) ?_
    refine oGo.iload_n (pc' := 34) d22_33 rfl rfl ?_
    refine oGo.imul (pc' := 35) d22_34 rfl ?_
    rw [show (10 : Int32) * (-10 : Int32) = (-100 : Int32) from by decide]
    refine oGo.istore_n (pc' := 36) (Ls' := #[.val (.int ((-(Int32.ofNat p)))), .val (.int (0 : Int32)), .val (.int (-100 : Int32)), .val (.int (1 : Int32))]) d22_35 rfl rfl ?_
    refine oGo.iinc (pc' := 39) (y := 1) (Ls' := #[.val (.int ((-(Int32.ofNat p)))), .val (.int (0 : Int32)), .val (.int (-100 : Int32)), .val (.int ((1 : Int32) + (1 : Int32)))]) d22_36 rfl rfl (by decide) rfl ?_
    rw [show (1 : Int32) + (1 : Int32) = (2 : Int32) from by decide]
    refine oGo.goto (pc' := 16) d22_39 (by decide) ?_
    refine oGo.iload_n (pc' := 17) d22_16 rfl rfl ?_
    refine oGo.bipush (pc' := 19) (v := 10) d22_17 rfl (by decide) ?_
    refine oGo.icmp_ge (pc1 := 22) (pc2 := 42) d22_19 rfl (by decide) (fun q => by first | exact absurd q (by decide) | exact absurd (by decide) q) (fun q10 => ?_)
    refine oGo.iload_n (pc' := 23) d22_22 rfl rfl ?_
    refine oGo.iload_n (pc' := 24) d22_23 rfl rfl ?_
    refine oGo.icmp_le (pc1 := 27) (pc2 := 31) d22_24 rfl (by decide) (fun q11 => ?_) (fun q => by exfalso; rw [show (-100 : Int32) = -(Int32.ofNat 100) from rfl, own_neglt (by omega) (by omega)] at q; omega)
    refine oGo.bipush (pc' := 33) (v := 10) d22_31 rfl (by decide) ?_
    refine oGo.iload_n (pc' := 34) d22_33 rfl rfl ?_
    refine oGo.imul (pc' := 35) d22_34 rfl ?_
    rw [show (10 : Int32) * (-100 : Int32) = (-1000 : Int32) from by decide]
    refine oGo.istore_n (pc' := 36) (Ls' := #[.val (.int ((-(Int32.ofNat p)))), .val (.int (0 : Int32)), .val (.int (-1000 : Int32)), .val (.int (2 : Int32))]) d22_35 rfl rfl ?_
    refine oGo.iinc (pc' := 39) (y := 1) (Ls' := #[.val (.int ((-(Int32.ofNat p)))), .val (.int (0 : Int32)), .val (.int (-1000 : Int32)), .val (.int ((2 : Int32) + (1 : Int32)))]) d22_36 rfl rfl (by decide) rfl ?_
    rw [show (2 : Int32) + (1 : Int32) = (3 : Int32) from by decide]
    refine oGo.goto (pc' := 16) d22_39 (by decide) ?_
    refine oGo.iload_n (pc' := 17) d22_16 rfl rfl ?_
    refine oGo.bipush (pc' := 19) (v := 10) d22_17 rfl (by decide) ?_
    refine oGo.icmp_ge (pc1 := 22) (pc2 := 42) d22_19 rfl (by decide) (fun q => by first | exact absurd q (by decide) | exact absurd (by decide) q) (fun q12 => ?_)
    refine oGo.iload_n (pc' := 23) d22_22 rfl rfl ?_
    refine oGo.iload_n (pc' := 24) d22_23 rfl rfl ?_
    refine oGo.icmp_le (pc1 := 27) (pc2 := 31) d22_24 rfl (by decide) (fun q => by exfalso; rw [show (-1000 : Int32) = -(Int32.ofNat 1000) from rfl, own_neglt (by omega) (by omega)] at q; omega) (fun q13 => ?_)
    refine oGo.iload_n (pc' := 28) d22_27 rfl rfl ?_
    refine oGo.iload_n (pc' := 29) d22_28 rfl rfl ?_
    refine oGo.iadd (pc' := 30) d22_29 rfl ?_
    rw [show (3 : Int32) + (0 : Int32) = (3 : Int32) from by decide]
    exact oGo.ireturn d22_30 rfl (by decide) (by decide) ⟨rfl, rfl⟩ (fun _ q => q.elim)
  · refine oGo.iload_n (pc' := 17) d22_16 rfl rfl ?_
    refine oGo.bipush (pc' := 19) (v := 10) d22_17 rfl (by decide) ?_
    refine oGo.icmp_ge (pc1 := 22) (pc2 := 42) d22_19 rfl (by decide) (fun q => by first | exact absurd q (by decide) | exact absurd (by decide) q) (fun q14 => ?_)
    refine oGo.iload_n (pc' := 23) d22_22 rfl rfl ?_
    refine oGo.iload_n (pc' := 24) d22_23 rfl rfl ?_
    refine oGo.icmp_le (pc1 := 27) (pc2 := 31) d22_24 rfl (by decide) (fun q15 => ?_) (fun q => by exfalso; rw [show (-10 : Int32) = -(Int32.ofNat 10) from rfl, own_neglt (by omega) (by omega)] at q; omega)
    refine oGo.bipush (pc' := 33) (v := 10) d22_31 rfl (by decide) ?_
    refine oGo.iload_n (pc' := 34) d22_33 rfl rfl ?_
    refine oGo.imul (pc' := 35) d22_34 rfl ?_
    rw [show (10 : Int32) * (-10 : Int32) = (-100 : Int32) from by decide]
    refine oGo.istore_n (pc' := 36) (Ls' := #[.val (.int ((-(Int32.ofNat p)))), .val (.int (0 : Int32)), .val (.int (-100 : Int32)), .val (.int (1 : Int32))]) d22_35 rfl rfl ?_
    refine oGo.iinc (pc' := 39) (y := 1) (Ls' := #[.val (.int ((-(Int32.ofNat p)))), .val (.int (0 : Int32)), .val (.int (-100 : Int32)), .val (.int ((1 : Int32) + (1 : Int32)))]) d22_36 rfl rfl (by decide) rfl ?_
    rw [show (1 : Int32) + (1 : Int32) = (2 : Int32) from by decide]
    refine oGo.goto (pc' := 16) d22_39 (by decide) ?_
    refine oGo.iload_n (pc' := 17) d22_16 rfl rfl ?_
    refine oGo.bipush (pc' := 19) (v := 10) d22_17 rfl (by decide) ?_
    refine oGo.icmp_ge (pc1 := 22) (pc2 := 42) d22_19 rfl (by decide) (fun q => by first | exact absurd q (by decide) | exact absurd (by decide) q) (fun q16 => ?_)
    refine oGo.iload_n (pc' := 23) d22_22 rfl rfl ?_
    refine oGo.iload_n (pc' := 24) d22_23 rfl rfl ?_
    refine oGo.icmp_le (pc1 := 27) (pc2 := 31) d22_24 rfl (by decide) (fun q17 => ?_) (fun q => by exfalso; rw [show (-100 : Int32) = -(Int32.ofNat 100) from rfl, own_neglt (by omega) (by omega)] at q; omega)
    refine oGo.bipush (pc' := 33) (v := 10) d22_31 rfl (by decide) ?_
    refine oGo.iload_n (pc' := 34) d22_33 rfl rfl ?_
    refine oGo.imul (pc' := 35) d22_34 rfl ?_
    rw [show (10 : Int32) * (-100 : Int32) = (-1000 : Int32) from by decide]
    refine oGo.istore_n (pc' := 36) (Ls' := #[.val (.int ((-(Int32.ofNat p)))), .val (.int (0 : Int32)), .val (.int (-1000 : Int32)), .val (.int (2 : Int32))]) d22_35 rfl rfl ?_
    refine oGo.iinc (pc' := 39) (y := 1) (Ls' := #[.val (.int ((-(Int32.ofNat p)))), .val (.int (0 : Int32)), .val (.int (-1000 : Int32)), .val (.int ((2 : Int32) + (1 : Int32)))]) d22_36 rfl rfl (by decide) rfl ?_
    rw [show (2 : Int32) + (1 : Int32) = (3 : Int32) from by decide]
    refine oGo.goto (pc' := 16) d22_39 (by decide) ?_
    refine oGo.iload_n (pc' := 17) d22_16 rfl rfl ?_
    refine oGo.bipush (pc' := 19) (v := 10) d22_17 rfl (by decide) ?_
    refine oGo.icmp_ge (pc1 := 22) (pc2 := 42) d22_19 rfl (by decide) (fun q => by first | exact absurd q (by decide) | exact absurd (by decide) q) (fun q18 => ?_)
    refine oGo.iload_n (pc' := 23) d22_22 rfl rfl ?_
    refine oGo.iload_n (pc' := 24) d22_23 rfl rfl ?_
    refine oGo.icmp_le (pc1 := 27) (pc2 := 31) d22_24 rfl (by decide) (fun q19 => ?_) (fun q => by exfalso; rw [show (-1000 : Int32) = -(Int32.ofNat 1000) from rfl, own_neglt (by omega) (by omega)] at q; omega)
    refine oGo.bipush (pc' := 33) (v := 10) d22_31 rfl (by decide) ?_
    refine oGo.iload_n (pc' := 34) d22_33 rfl rfl ?_
    refine oGo.imul (pc' := 35) d22_34 rfl ?_
    rw [show (10 : Int32) * (-1000 : Int32) = (-10000 : Int32) from by decide]
    refine oGo.istore_n (pc' := 36) (Ls' := #[.val (.int ((-(Int32.ofNat p)))), .val (.int (0 : Int32)), .val (.int (-10000 : Int32)), .val (.int (3 : Int32))]) d22_35 rfl rfl ?_
    refine oGo.iinc (pc' := 39) (y := 1) (Ls' := #[.val (.int ((-(Int32.ofNat p)))), .val (.int (0 : Int32)), .val (.int (-10000 : Int32)), .val (.int ((3 : Int32) + (1 : Int32)))]) d22_36 rfl rfl (by decide) rfl ?_
    rw [show (3 : Int32) + (1 : Int32) = (4 : Int32) from by decide]
    refine oGo.goto (pc' := 16) d22_39 (by decide) ?_
    refine oGo.iload_n (pc' := 17) d22_16 rfl rfl ?_
    refine oGo.bipush (pc' := 19) (v := 10) d22_17 rfl (by decide) ?_
    refine oGo.icmp_ge (pc1 := 22) (pc2 := 42) d22_19 rfl (by decide) (fun q => by first | exact absurd q (by decide) | exact absurd (by decide) q) (fun q20 => ?_)
    refine oGo.iload_n (pc' := 23) d22_22 rfl rfl ?_
    refine oGo.iload_n (pc' := 24) d22_23 rfl rfl ?_
    refine oGo.icmp_le (pc1 := 27) (pc2 := 31) d22_24 rfl (by decide) (fun q => by exfalso; rw [show (-10000 : Int32) = -(Int32.ofNat 10000) from rfl, own_neglt (by omega) (by omega)] at q; omega) (fun q21 => ?_)
    refine oGo.iload_n (pc' := 28) d22_27 rfl rfl ?_
    refine oGo.iload_n (pc' := 29) d22_28 rfl rfl ?_
    refine oGo.iadd (pc' := 30) d22_29 rfl ?_
    rw [show (4 : Int32) + (0 : Int32) = (4 : Int32) from by decide]
    exact oGo.ireturn d22_30 rfl (by decide) (by decide) ⟨rfl, rfl⟩ (fun _ q => q.elim)
  · refine oGo.iload_n (pc' := 17) d22_16 rfl rfl ?_
    refine oGo.bipush (pc' := 19) (v := 10) d22_17 rfl (by decide) ?_
    refine oGo.icmp_ge (pc1 := 22) (pc2 := 42) d22_19 rfl (by decide) (fun q => by first | exact absurd q (by decide) | exact absurd (by decide) q) (fun q22 => ?_)
    refine oGo.iload_n (pc' := 23) d22_22 rfl rfl ?_
    refine oGo.iload_n (pc' := 24) d22_23 rfl rfl ?_
    refine oGo.icmp_le (pc1 := 27) (pc2 := 31) d22_24 rfl (by decide) (fun q23 => ?_) (fun q => by exfalso; rw [show (-10 : Int32) = -(Int32.ofNat 10) from rfl, own_neglt (by omega) (by omega)] at q; omega)
    refine oGo.bipush (pc' := 33) (v := 10) d22_31 rfl (by decide) ?_
    refine oGo.iload_n (pc' := 34) d22_33 rfl rfl ?_
    refine oGo.imul (pc' := 35) d22_34 rfl ?_
    rw [show (10 : Int32) * (-10 : Int32) = (-100 : Int32) from by decide]
    refine oGo.istore_n (pc' := 36) (Ls' := #[.val (.int ((-(Int32.ofNat p)))), .val (.int (0 : Int32)), .val (.int (-100 : Int32)), .val (.int (1 : Int32))]) d22_35 rfl rfl ?_
    refine oGo.iinc (pc' := 39) (y := 1) (Ls' := #[.val (.int ((-(Int32.ofNat p)))), .val (.int (0 : Int32)), .val (.int (-100 : Int32)), .val (.int ((1 : Int32) + (1 : Int32)))]) d22_36 rfl rfl (by decide) rfl ?_
    rw [show (1 : Int32) + (1 : Int32) = (2 : Int32) from by decide]
    refine oGo.goto (pc' := 16) d22_39 (by decide) ?_
    refine oGo.iload_n (pc' := 17) d22_16 rfl rfl ?_
    refine oGo.bipush (pc' := 19) (v := 10) d22_17 rfl (by decide) ?_
    refine oGo.icmp_ge (pc1 := 22) (pc2 := 42) d22_19 rfl (by decide) (fun q => by first | exact absurd q (by decide) | exact absurd (by decide) q) (fun q24 => ?_)
    refine oGo.iload_n (pc' := 23) d22_22 rfl rfl ?_
    refine oGo.iload_n (pc' := 24) d22_23 rfl rfl ?_
    refine oGo.icmp_le (pc1 := 27) (pc2 := 31) d22_24 rfl (by decide) (fun q25 => ?_) (fun q => by exfalso; rw [show (-100 : Int32) = -(Int32.ofNat 100) from rfl, own_neglt (by omega) (by omega)] at q; omega)
    refine oGo.bipush (pc' := 33) (v := 10) d22_31 rfl (by decide) ?_
    refine oGo.iload_n (pc' := 34) d22_33 rfl rfl ?_
    refine oGo.imul (pc' := 35) d22_34 rfl ?_
    rw [show (10 : Int32) * (-100 : Int32) = (-1000 : Int32) from by decide]
    refine oGo.istore_n (pc' := 36) (Ls' := #[.val (.int ((-(Int32.ofNat p)))), .val (.int (0 : Int32)), .val (.int (-1000 : Int32)), .val (.int (2 : Int32))]) d22_35 rfl rfl ?_
    refine oGo.iinc (pc' := 39) (y := 1) (Ls' := #[.val (.int ((-(Int32.ofNat p)))), .val (.int (0 : Int32)), .val (.int (-1000 : Int32)), .val (.int ((2 : Int32) + (1 : Int32)))]) d22_36 rfl rfl (by decide) rfl ?_
    rw [show (2 : Int32) + (1 : Int32) = (3 : Int32) from by decide]
    refine oGo.goto (pc' := 16) d22_39 (by decide) ?_
    refine oGo.iload_n (pc' := 17) d22_16 rfl rfl ?_
    refine oGo.bipush (pc' := 19) (v := 10) d22_17 rfl (by decide) ?_
    refine oGo.icmp_ge (pc1 := 22) (pc2 := 42) d22_19 rfl (by decide) (fun q => by first | exact absurd q (by decide) | exact absurd (by decide) q) (fun q26 => ?_)
    refine oGo.iload_n (pc' := 23) d22_22 rfl rfl ?_
    refine oGo.iload_n (pc' := 24) d22_23 rfl rfl ?_
    refine oGo.icmp_le (pc1 := 27) (pc2 := 31) d22_24 rfl (by decide) (fun q27 => ?_) (fun q => by exfalso; rw [show (-1000 : Int32) = -(Int32.ofNat 1000) from rfl, own_neglt (by omega) (by omega)] at q; omega)
    refine oGo.bipush (pc' := 33) (v := 10) d22_31 rfl (by decide) ?_
    refine oGo.iload_n (pc' := 34) d22_33 rfl rfl ?_
    refine oGo.imul (pc' := 35) d22_34 rfl ?_
    rw [show (10 : Int32) * (-1000 : Int32) = (-10000 : Int32) from by decide]
    refine oGo.istore_n (pc' := 36) (Ls' := #[.val (.int ((-(Int32.ofNat p)))), .val (.int (0 : Int32)), .val (.int (-10000 : Int32)), .val (.int (3 : Int32))]) d22_35 rfl rfl ?_
    refine oGo.iinc (pc' := 39) (y := 1) (Ls' := #[.val (.int ((-(Int32.ofNat p)))), .val (.int (0 : Int32)), .val (.int (-10000 : Int32)), .val (.int ((3 : Int32) + (1 : Int32)))]) d22_36 rfl rfl (by decide) rfl ?_
    rw [show (3 : Int32) + (1 : Int32) = (4 : Int32) from by decide]
    refine oGo.goto (pc' := 16) d22_39 (by decide) ?_
    refine oGo.iload_n (pc' := 17) d22_16 rfl rfl ?_
    refine oGo.bipush (pc' := 19) (v := 10) d22_17 rfl (by decide) ?_
    refine oGo.icmp_ge (pc1 := 22) (pc2 := 42) d22_19 rfl (by decide) (fun q => by first | exact absurd q (by decide) | exact absurd (by decide) q) (fun q28 => ?_)
    refine oGo.iload_n (pc' := 23) d22_22 rfl rfl ?_
    refine oGo.iload_n (pc' := 24) d22_23 rfl rfl ?_
    refine oGo.icmp_le (pc1 := 27) (pc2 := 31) d22_24 rfl (by decide) (fun q29 => ?_) (fun q => by exfalso; rw [show (-10000 : Int32) = -(Int32.ofNat 10000) from rfl, own_neglt (by omega) (by omega)] at q; omega)
    refine oGo.bipush (pc' := 33) (v := 10) d22_31 rfl (by decide) ?_
    refine oGo.iload_n (pc' := 34) d22_33 rfl rfl ?_
    refine oGo.imul (pc' := 35) d22_34 rfl ?_
    rw [show (10 : Int32) * (-10000 : Int32) = (-100000 : Int32) from by decide]
    refine oGo.istore_n (pc' := 36) (Ls' := #[.val (.int ((-(Int32.ofNat p)))), .val (.int (0 : Int32)), .val (.int (-100000 : Int32)), .val (.int (4 : Int32))]) d22_35 rfl rfl ?_
    refine oGo.iinc (pc' := 39) (y := 1) (Ls' := #[.val (.int ((-(Int32.ofNat p)))), .val (.int (0 : Int32)), .val (.int (-100000 : Int32)), .val (.int ((4 : Int32) + (1 : Int32)))]) d22_36 rfl rfl (by decide) rfl ?_
    rw [show (4 : Int32) + (1 : Int32) = (5 : Int32) from by decide]
    refine oGo.goto (pc' := 16) d22_39 (by decide) ?_
    refine oGo.iload_n (pc' := 17) d22_16 rfl rfl ?_
    refine oGo.bipush (pc' := 19) (v := 10) d22_17 rfl (by decide) ?_
    refine oGo.icmp_ge (pc1 := 22) (pc2 := 42) d22_19 rfl (by decide) (fun q => by first | exact absurd q (by decide) | exact absurd (by decide) q) (fun q30 => ?_)
    refine oGo.iload_n (pc' := 23) d22_22 rfl rfl ?_
    refine oGo.iload_n (pc' := 24) d22_23 rfl rfl ?_
    refine oGo.icmp_le (pc1 := 27) (pc2 := 31) d22_24 rfl (by decide) (fun q => by exfalso; rw [show (-100000 : Int32) = -(Int32.ofNat 100000) from rfl, own_neglt (by omega) (by omega)] at q; omega) (fun q31 => ?_)
    refine oGo.iload_n (pc' := 28) d22_27 rfl rfl ?_
    refine oGo.iload_n (pc' := 29) d22_28 rfl rfl ?_
    refine oGo.iadd (pc' := 30) d22_29 rfl ?_
    rw [show (5 : Int32) + (0 : Int32) = (5 : Int32) from by decide]
    exact oGo.ireturn d22_30 rfl (by decide) (by decide) ⟨rfl, rfl⟩ (fun _ q => q.elim)
set_option maxRecDepth 65536 in
set_option maxHeartbeats 4000000 in
theorem c_getChars {l : Launch} {Z : State} {a0 : Array Value} {EL : List (String × Nat)} (hG : oG a0 Z EL) (p n b dO dT : Nat) (vs : List Value) (o : Nat) (hp : p ≤ 65535) (hn : ndF p = n) (ho : o + n ≤ vs.length) (hO : dO ≠ b) (hT : dT ≠ b) (h : Heap) (B : oArr Z h b .byte vs) (SO : Sta Z Z.heap "java/lang/Integer" "DigitOnes" "[B" (.ref dO)) (ST : Sta Z Z.heap "java/lang/Integer" "DigitTens" "[B" (.ref dT)) (AO : oArr Z h dO .byte (oTab (fun j => 48 + j % 10))) (AT : oArr Z h dT .byte (oTab (fun j => 48 + j / 10))) :
    oCtr [] l Z a0 EL True (⟨"java/lang/Integer", "getChars", "(II[B)I"⟩ : MethodName) jdk_33_method_12_code 7 (some .int) ({ frames := 0, cells := 0, slots := 0, locals := 0 } : Room) #[.int (Int32.ofNat p), .int (Int32.ofNat (o + n)), .ref b] [b] h (fun v h' => (∃ z : Int32, v = some (.int z)) ∧ Keep h h' [b] ∧ oArr Z h' b .byte (vs.take o ++ oI ((dgl p n).map lo8) ++ vs.drop (o + n))) oNo := by
  refine oCtr.enter (Ls := #[.val (.int (Int32.ofNat p)), .val (.int (Int32.ofNat (o + n))), .val (.ref b), .unset, .unset, .unset, .unset]) (plainFor_of_name pn5) hG.2.1 (fun m => by first | (simp [entryFrame, mkF, argsToLocals, Value.category]; done) | rfl) ?_
  intro pP eE sS mM bB tT cC
  refine oGo.iload_n (pc' := 1) d24_0 rfl rfl ?_
  refine oGo.istore (pc' := 3) (Ls' := #[.val (.int (Int32.ofNat p)), .val (.int (Int32.ofNat (o + n))), .val (.ref b), .unset, .unset, .val (.int (Int32.ofNat (o + n))), .unset]) d24_1 rfl rfl ?_
  refine oGo.iload_n (pc' := 4) d24_3 rfl rfl ?_
  refine oGo.if_ge (pc1 := 7) (pc2 := 11) d24_4 rfl (by decide) (fun q1 => ?_) (fun q => absurd q (own_nn (by omega)))
  refine oGo.iconst (pc' := 12) (v := 0) d24_11 rfl (by decide) ?_
  refine oGo.istore (pc' := 14) (Ls' := #[.val (.int (Int32.ofNat p)), .val (.int (Int32.ofNat (o + n))), .val (.ref b), .unset, .unset, .val (.int (Int32.ofNat (o + n))), .val (.int (0 : Int32))]) d24_12 rfl rfl ?_
  refine oGo.iload (pc' := 16) d24_14 rfl rfl ?_
  refine oGo.if_ne (pc1 := 19) (pc2 := 22) d24_16 rfl (by decide) (fun q => by first | exact absurd q (by decide) | exact absurd (by decide) q) (fun q2 => ?_)
  refine oGo.iload_n (pc' := 20) d24_19 rfl rfl ?_
  refine oGo.ineg (pc' := 21) d24_20 rfl ?_
  refine oGo.istore_n (pc' := 22) (Ls' := #[.val (.int ((-(Int32.ofNat p)))), .val (.int (Int32.ofNat (o + n))), .val (.ref b), .unset, .unset, .val (.int (Int32.ofNat (o + n))), .val (.int (0 : Int32))]) d24_21 rfl rfl ?_
  rcases nd_cases hn (by omega) with ⟨rfl, h1⟩ | ⟨rfl, h1, h2⟩ | ⟨rfl, h1, h2⟩ | ⟨rfl, h1, h2⟩ | ⟨rfl, h1⟩
  · show oGo l Z a0 EL True pP eE sS mM _ bB tT cC _ _ _ _ _ _ _ _ [b] h 0 0 22 #[.val (.int ((-(Int32.ofNat p)))), .val (.int (Int32.ofNat (o + 1))), .val (.ref b), .unset, .unset, .val (.int (Int32.ofNat (o + 1))), .val (.int (0 : Int32))] []
    have A3 : oArr Z h b .byte (vs.take (o + 1) ++ vs.drop (o + 1)) := by rw [List.take_append_drop]; exact B
    refine oGo.iload_n (pc' := 23) d24_22 rfl rfl ?_
    refine oGo.bipush (pc' := 25) (v := -100) d24_23 rfl (by decide) ?_
    refine oGo.icmp_gt (pc1 := 28) (pc2 := 72) d24_25 rfl (by decide) (fun q4 => ?_) (fun q => by exfalso; rw [show (-100 : Int32) = -(Int32.ofNat 100) from rfl, own_neglt (by omega) (by omega)] at q; omega)
    refine oGo.aload_n (pc' := 73) d24_72 rfl rfl rfl ?_
    refine oGo.iinc (pc' := 76) (y := -1) (Ls' := #[.val (.int ((-(Int32.ofNat p)))), .val (.int (Int32.ofNat (o + 1))), .val (.ref b), .unset, .unset, .val (.int ((Int32.ofNat (o + 1)) + (-1 : Int32))), .val (.int (0 : Int32))]) d24_73 rfl rfl (by decide) rfl ?_
    rw [own_decA o 1 0 rfl]
    refine oGo.iload (pc' := 78) d24_76 rfl rfl ?_
    refine oGo.getstatic (pc' := 81) d24_78 rfl (w142 hG) Via.refl SO ?_
    refine oGo.iload_n (pc' := 82) d24_81 rfl rfl ?_
    refine oGo.ineg (pc' := 83) d24_82 rfl ?_
    rw [Int32.neg_neg]
    refine oGo.baload (pc' := 84) (i := (p)) d24_83 rfl AO rfl (v := .int (Int32.ofNat (48 + (p) % 10))) (oTab_get _ _ (by omega)) ?_
    refine oGo.bastore (pc' := 85) (i := o + 0) (w := Int32.ofNat (48 + (p) % 10)) d24_84 rfl A3 rfl (by simp <;> omega) (own_nar8 _ (by omega)) (by simp) ?_
    intro h5 W6 sh5 A7
    rw [Nat.add_zero o, own_setdown _ _ _ _ (by omega)] at A7
    refine oGo.iload_n (pc' := 86) d24_85 rfl rfl ?_
    refine oGo.bipush (pc' := 88) (v := -9) d24_86 rfl (by decide) ?_
    refine oGo.icmp_ge (pc1 := 91) (pc2 := 104) d24_88 rfl (by decide) (fun q8 => ?_) (fun q => by exfalso; rw [show (-9 : Int32) = -(Int32.ofNat 9) from rfl, own_neglt (by omega) (by omega)] at q; omega)
    refine oGo.iload (pc' := 106) d24_104 rfl rfl ?_
    refine oGo.if_eq (pc1 := 109) (pc2 := 118) d24_106 rfl (by decide) (fun q9 => ?_) (fun q => by first | exact absurd q (by decide) | exact absurd (by decide) q)
    refine oGo.iload (pc' := 120) d24_118 rfl rfl ?_
    exact oGo.ireturn d24_120 rfl (by decide) (by decide) ⟨⟨_, rfl⟩, ((Keep.refl h [b]).wr W6 (Or.inl (by simp))), by rw [dgl1 p (by omega), List.append_assoc]; exact A7⟩ (fun _ q => q.elim)
  · show oGo l Z a0 EL True pP eE sS mM _ bB tT cC _ _ _ _ _ _ _ _ [b] h 0 0 22 #[.val (.int ((-(Int32.ofNat p)))), .val (.int (Int32.ofNat (o + 2))), .val (.ref b), .unset, .unset, .val (.int (Int32.ofNat (o + 2))), .val (.int (0 : Int32))] []
    have A10 : oArr Z h b .byte (vs.take (o + 2) ++ vs.drop (o + 2)) := by rw [List.take_append_drop]; exact B
    refine oGo.iload_n (pc' := 23) d24_22 rfl rfl ?_
    refine oGo.bipush (pc' := 25) (v := -100) d24_23 rfl (by decide) ?_
    refine oGo.icmp_gt (pc1 := 28) (pc2 := 72) d24_25 rfl (by decide) (fun q11 => ?_) (fun q => by exfalso; rw [show (-100 : Int32) = -(Int32.ofNat 100) from rfl, own_neglt (by omega) (by omega)] at q; omega)
    refine oGo.aload_n (pc' := 73) d24_72 rfl rfl rfl ?_
    refine oGo.iinc (pc' := 76) (y := -1) (Ls' := #[.val (.int ((-(Int32.ofNat p)))), .val (.int (Int32.ofNat (o + 2))), .val (.ref b), .unset, .unset, .val (.int ((Int32.ofNat (o + 2)) + (-1 : Int32))), .val (.int (0 : Int32))]) d24_73 rfl rfl (by decide) rfl ?_
    rw [own_decA o 2 1 rfl]
    refine oGo.iload (pc' := 78) d24_76 rfl rfl ?_
    refine oGo.getstatic (pc' := 81) d24_78 rfl (w142 hG) Via.refl SO ?_
    refine oGo.iload_n (pc' := 82) d24_81 rfl rfl ?_
    refine oGo.ineg (pc' := 83) d24_82 rfl ?_
    rw [Int32.neg_neg]
    refine oGo.baload (pc' := 84) (i := (p)) d24_83 rfl AO rfl (v := .int (Int32.ofNat (48 + (p) % 10))) (oTab_get _ _ (by omega)) ?_
    refine oGo.bastore (pc' := 85) (i := o + 1) (w := Int32.ofNat (48 + (p) % 10)) d24_84 rfl A10 rfl (by simp <;> omega) (own_nar8 _ (by omega)) (by simp) ?_
    intro h12 W13 sh12 A14
    rw [own_setdown _ _ _ _ (by omega)] at A14
    refine oGo.iload_n (pc' := 86) d24_85 rfl rfl ?_
    refine oGo.bipush (pc' := 88) (v := -9) d24_86 rfl (by decide) ?_
    refine oGo.icmp_ge (pc1 := 91) (pc2 := 104) d24_88 rfl (by decide) (fun q => by exfalso; rw [show (-9 : Int32) = -(Int32.ofNat 9) from rfl, own_neglt (by omega) (by omega)] at q; omega) (fun q15 => ?_)
    refine oGo.aload_n (pc' := 92) d24_91 rfl rfl rfl ?_
    refine oGo.iinc (pc' := 95) (y := -1) (Ls' := #[.val (.int ((-(Int32.ofNat p)))), .val (.int (Int32.ofNat (o + 2))), .val (.ref b), .unset, .unset, .val (.int ((Int32.ofNat (o + 1)) + (-1 : Int32))), .val (.int (0 : Int32))]) d24_92 rfl rfl (by decide) rfl ?_
    rw [own_decA o 1 0 rfl]
    refine oGo.iload (pc' := 97) d24_95 rfl rfl ?_
    refine oGo.getstatic (pc' := 100) d24_97 rfl (w214 hG) Via.refl ST ?_
    refine oGo.iload_n (pc' := 101) d24_100 rfl rfl ?_
    refine oGo.ineg (pc' := 102) d24_101 rfl ?_
    rw [Int32.neg_neg]
    have f16 := oArr.other W13 AT hT
    refine oGo.baload (pc' := 103) (i := (p)) d24_102 rfl f16 rfl (v := .int (Int32.ofNat (48 + (p) / 10))) (oTab_get _ _ (by omega)) ?_
    refine oGo.bastore (pc' := 104) (i := o + 0) (w := Int32.ofNat (48 + (p) / 10)) d24_103 rfl A14 rfl (by simp <;> omega) (own_nar8 _ (by omega)) (by simp) ?_
    intro h17 W18 sh17 A19
    rw [Nat.add_zero o, own_setdown _ _ _ _ (by omega)] at A19
    refine oGo.iload (pc' := 106) d24_104 rfl rfl ?_
    refine oGo.if_eq (pc1 := 109) (pc2 := 118) d24_106 rfl (by decide) (fun q20 => ?_) (fun q => by first | exact absurd q (by decide) | exact absurd (by decide) q)
    refine oGo.iload (pc' := 120) d24_118 rfl rfl ?_
    exact oGo.ireturn d24_120 rfl (by decide) (by decide) ⟨⟨_, rfl⟩, (((Keep.refl h [b]).wr W13 (Or.inl (by simp))).wr W18 (Or.inl (by simp))), by rw [dgl2 p (by omega), List.append_assoc]; exact A19⟩ (fun _ q => q.elim)
  · show oGo l Z a0 EL True pP eE sS mM _ bB tT cC _ _ _ _ _ _ _ _ [b] h 0 0 22 #[.val (.int ((-(Int32.ofNat p)))), .val (.int (Int32.ofNat (o + 3))), .val (.ref b), .unset, .unset, .val (.int (Int32.ofNat (o + 3))), .val (.int (0 : Int32))] []
    have A21 : oArr Z h b .byte (vs.take (o + 3) ++ vs.drop (o + 3)) := by rw [List.take_append_drop]; exact B
    refine oGo.iload_n (pc' := 23) d24_22 rfl rfl ?_
    refine oGo.bipush (pc' := 25) (v := -100) d24_23 rfl (by decide) ?_
    refine oGo.icmp_gt (pc1 := 28) (pc2 := 72) d24_25 rfl (by decide) (fun q => by exfalso; rw [show (-100 : Int32) = -(Int32.ofNat 100) from rfl, own_neglt (by omega) (by omega)] at q; omega) (fun q22 => ?_)
    refine oGo.iload_n (pc' := 29) d24_28 rfl rfl ?_
    refine oGo.bipush (pc' := 31) (v := 100) d24_29 rfl (by decide) ?_
    refine oGo.idiv (pc' := 32) d24_31 rfl (by decide) ?_
    rw [own_ndiv (p := p) (by omega)]
    refine oGo.istore_n (pc' := 33) (Ls' := #[.val (.int ((-(Int32.ofNat p)))), .val (.int (Int32.ofNat (o + 3))), .val (.ref b), .val (.int (-(Int32.ofNat (p / 100)))), .unset, .val (.int (Int32.ofNat (o + 3))), .val (.int (0 : Int32))]) d24_32 rfl rfl ?_
    refine oGo.iload_n (pc' := 34) d24_33 rfl rfl ?_
    refine oGo.bipush (pc' := 36) (v := 100) d24_34 rfl (by decide) ?_
    refine oGo.imul (pc' := 37) d24_36 rfl ?_
    refine oGo.iload_n (pc' := 38) d24_37 rfl rfl ?_
    refine oGo.isub (pc' := 39) d24_38 rfl ?_
    rw [own_nrem (p := p) (by omega)]
    refine oGo.istore (pc' := 41) (Ls' := #[.val (.int ((-(Int32.ofNat p)))), .val (.int (Int32.ofNat (o + 3))), .val (.ref b), .val (.int (-(Int32.ofNat (p / 100)))), .val (.int (Int32.ofNat (p % 100))), .val (.int (Int32.ofNat (o + 3))), .val (.int (0 : Int32))]) d24_39 rfl rfl ?_
    refine oGo.iload_n (pc' := 42) d24_41 rfl rfl ?_
    refine oGo.istore_n (pc' := 43) (Ls' := #[.val (.int (-(Int32.ofNat (p / 100)))), .val (.int (Int32.ofNat (o + 3))), .val (.ref b), .val (.int (-(Int32.ofNat (p / 100)))), .val (.int (Int32.ofNat (p % 100))), .val (.int (Int32.ofNat (o + 3))), .val (.int (0 : Int32))]) d24_42 rfl rfl ?_
    refine oGo.aload_n (pc' := 44) d24_43 rfl rfl rfl ?_
    refine oGo.iinc (pc' := 47) (y := -1) (Ls' := #[.val (.int (-(Int32.ofNat (p / 100)))), .val (.int (Int32.ofNat (o + 3))), .val (.ref b), .val (.int (-(Int32.ofNat (p / 100)))), .val (.int (Int32.ofNat (p % 100))), .val (.int ((Int32.ofNat (o + 3)) + (-1 : Int32))), .val (.int (0 : Int32))]) d24_44 rfl rfl (by decide) rfl ?_
    rw [own_decA o 3 2 rfl]
    refine oGo.iload (pc' := 49) d24_47 rfl rfl ?_
    refine oGo.getstatic (pc' := 52) d24_49 rfl (w142 hG) Via.refl SO ?_
    refine oGo.iload (pc' := 54) d24_52 rfl rfl ?_
    refine oGo.baload (pc' := 55) (i := (p % 100)) d24_54 rfl AO rfl (v := .int (Int32.ofNat (48 + (p % 100) % 10))) (oTab_get _ _ (by omega)) ?_
    refine oGo.bastore (pc' := 56) (i := o + 2) (w := Int32.ofNat (48 + (p % 100) % 10)) d24_55 rfl A21 rfl (by simp <;> omega) (own_nar8 _ (by omega)) (by simp) ?_
    intro h23 W24 sh23 A25
    rw [own_setdown _ _ _ _ (by omega)] at A25
    refine oGo.aload_n (pc' := 57) d24_56 rfl rfl rfl ?_
    refine oGo.iinc (pc' := 60) (y := -1) (Ls' := #[.val (.int (-(Int32.ofNat (p / 100)))), .val (.int (Int32.ofNat (o + 3))), .val (.ref b), .val (.int (-(Int32.ofNat (p / 100)))), .val (.int (Int32.ofNat (p % 100))), .val (.int ((Int32.ofNat (o + 2)) + (-1 : Int32))), .val (.int (0 : Int32))]) d24_57 rfl rfl (by decide) rfl ?_
    rw [own_decA o 2 1 rfl]
    refine oGo.iload (pc' := 62) d24_60 rfl rfl ?_
    refine oGo.getstatic (pc' := 65) d24_62 rfl (w214 hG) Via.refl ST ?_
    refine oGo.iload (pc' := 67) d24_65 rfl rfl ?_
    have f26 := oArr.other W24 AT hT
    refine oGo.baload (pc' := 68) (i := (p % 100)) d24_67 rfl f26 rfl (v := .int (Int32.ofNat (48 + (p % 100) / 10))) (oTab_get _ _ (by omega)) ?_
    refine oGo.bastore (pc' := 69) (i := o + 1) (w := Int32.ofNat (48 + (p % 100) / 10)) d24_68 rfl A25 rfl (by simp <;> omega) (own_nar8 _ (by omega)) (by simp) ?_
    intro h27 W28 sh27 A29
    rw [own_setdown _ _ _ _ (by omega)] at A29
    refine oGo.goto (pc' := 22) d24_69 (by decide) ?_
    refine oGo.iload_n (pc' := 23) d24_22 rfl rfl ?_
    refine oGo.bipush (pc' := 25) (v := -100) d24_23 rfl (by decide) ?_
    refine oGo.icmp_gt (pc1 := 28) (pc2 := 72) d24_25 rfl (by decide) (fun q30 => ?_) (fun q => by exfalso; rw [show (-100 : Int32) = -(Int32.ofNat 100) from rfl, own_neglt (by omega) (by omega)] at q; omega)
    refine oGo.aload_n (pc' := 73) d24_72 rfl rfl rfl ?_
    refine oGo.iinc (pc' := 76) (y := -1) (Ls' := #[.val (.int (-(Int32.ofNat (p / 100)))), .val (.int (Int32.ofNat (o + 3))), .val (.ref b), .val (.int (-(Int32.ofNat (p / 100)))), .val (.int (Int32.ofNat (p % 100))), .val (.int ((Int32.ofNat (o + 1)) + (-1 : Int32))), .val (.int (0 : Int32))]) d24_73 rfl rfl (by decide) rfl ?_
    rw [own_decA o 1 0 rfl]
    refine oGo.iload (pc' := 78) d24_76 rfl rfl ?_
    refine oGo.getstatic (pc' := 81) d24_78 rfl (w142 hG) Via.refl SO ?_
    refine oGo.iload_n (pc' := 82) d24_81 rfl rfl ?_
    refine oGo.ineg (pc' := 83) d24_82 rfl ?_
    rw [Int32.neg_neg]
    have f31 := oArr.other W24 AO hO
    have f32 := oArr.other W28 f31 hO
    refine oGo.baload (pc' := 84) (i := (p / 100)) d24_83 rfl f32 rfl (v := .int (Int32.ofNat (48 + (p / 100) % 10))) (oTab_get _ _ (by omega)) ?_
    refine oGo.bastore (pc' := 85) (i := o + 0) (w := Int32.ofNat (48 + (p / 100) % 10)) d24_84 rfl A29 rfl (by simp <;> omega) (own_nar8 _ (by omega)) (by simp) ?_
    intro h33 W34 sh33 A35
    rw [Nat.add_zero o, own_setdown _ _ _ _ (by omega)] at A35
    refine oGo.iload_n (pc' := 86) d24_85 rfl rfl ?_
    refine oGo.bipush (pc' := 88) (v := -9) d24_86 rfl (by decide) ?_
    refine oGo.icmp_ge (pc1 := 91) (pc2 := 104) d24_88 rfl (by decide) (fun q36 => ?_) (fun q => by exfalso; rw [show (-9 : Int32) = -(Int32.ofNat 9) from rfl, own_neglt (by omega) (by omega)] at q; omega)
    refine oGo.iload (pc' := 106) d24_104 rfl rfl ?_
    refine oGo.if_eq (pc1 := 109) (pc2 := 118) d24_106 rfl (by decide) (fun q37 => ?_) (fun q => by first | exact absurd q (by decide) | exact absurd (by decide) q)
    refine oGo.iload (pc' := 120) d24_118 rfl rfl ?_
    exact oGo.ireturn d24_120 rfl (by decide) (by decide) ⟨⟨_, rfl⟩, ((((Keep.refl h [b]).wr W24 (Or.inl (by simp))).wr W28 (Or.inl (by simp))).wr W34 (Or.inl (by simp))), by rw [dgl3 p (by omega), List.append_assoc]; exact A35⟩ (fun _ q => q.elim)
  · show oGo l Z a0 EL True pP eE sS mM _ bB tT cC _ _ _ _ _ _ _ _ [b] h 0 0 22 #[.val (.int ((-(Int32.ofNat p)))), .val (.int (Int32.ofNat (o + 4))), .val (.ref b), .unset, .unset, .val (.int (Int32.ofNat (o + 4))), .val (.int (0 : Int32))] []
    have A38 : oArr Z h b .byte (vs.take (o + 4) ++ vs.drop (o + 4)) := by rw [List.take_append_drop]; exact B
    refine oGo.iload_n (pc' := 23) d24_22 rfl rfl ?_
    refine oGo.bipush (pc' := 25) (v := -100) d24_23 rfl (by decide) ?_
    refine oGo.icmp_gt (pc1 := 28) (pc2 := 72) d24_25 rfl (by decide) (fun q => by exfalso; rw [show (-100 : Int32) = -(Int32.ofNat 100) from rfl, own_neglt (by omega) (by omega)] at q; omega) (fun q39 => ?_)
    refine oGo.iload_n (pc' := 29) d24_28 rfl rfl ?_
    refine oGo.bipush (pc' := 31) (v := 100) d24_29 rfl (by decide) ?_
    refine oGo.idiv (pc' := 32) d24_31 rfl (by decide) ?_
    rw [own_ndiv (p := p) (by omega)]
    refine oGo.istore_n (pc' := 33) (Ls' := #[.val (.int ((-(Int32.ofNat p)))), .val (.int (Int32.ofNat (o + 4))), .val (.ref b), .val (.int (-(Int32.ofNat (p / 100)))), .unset, .val (.int (Int32.ofNat (o + 4))), .val (.int (0 : Int32))]) d24_32 rfl rfl ?_
    refine oGo.iload_n (pc' := 34) d24_33 rfl rfl ?_
    refine oGo.bipush (pc' := 36) (v := 100) d24_34 rfl (by decide) ?_
    refine oGo.imul (pc' := 37) d24_36 rfl ?_
    refine oGo.iload_n (pc' := 38) d24_37 rfl rfl ?_
    refine oGo.isub (pc' := 39) d24_38 rfl ?_
    rw [own_nrem (p := p) (by omega)]
    refine oGo.istore (pc' := 41) (Ls' := #[.val (.int ((-(Int32.ofNat p)))), .val (.int (Int32.ofNat (o + 4))), .val (.ref b), .val (.int (-(Int32.ofNat (p / 100)))), .val (.int (Int32.ofNat (p % 100))), .val (.int (Int32.ofNat (o + 4))), .val (.int (0 : Int32))]) d24_39 rfl rfl ?_
    refine oGo.iload_n (pc' := 42) d24_41 rfl rfl ?_
    refine oGo.istore_n (pc' := 43) (Ls' := #[.val (.int (-(Int32.ofNat (p / 100)))), .val (.int (Int32.ofNat (o + 4))), .val (.ref b), .val (.int (-(Int32.ofNat (p / 100)))), .val (.int (Int32.ofNat (p % 100))), .val (.int (Int32.ofNat (o + 4))), .val (.int (0 : Int32))]) d24_42 rfl rfl ?_
    refine oGo.aload_n (pc' := 44) d24_43 rfl rfl rfl ?_
    refine oGo.iinc (pc' := 47) (y := -1) (Ls' := #[.val (.int (-(Int32.ofNat (p / 100)))), .val (.int (Int32.ofNat (o + 4))), .val (.ref b), .val (.int (-(Int32.ofNat (p / 100)))), .val (.int (Int32.ofNat (p % 100))), .val (.int ((Int32.ofNat (o + 4)) + (-1 : Int32))), .val (.int (0 : Int32))]) d24_44 rfl rfl (by decide) rfl ?_
    rw [own_decA o 4 3 rfl]
    refine oGo.iload (pc' := 49) d24_47 rfl rfl ?_
    refine oGo.getstatic (pc' := 52) d24_49 rfl (w142 hG) Via.refl SO ?_
    refine oGo.iload (pc' := 54) d24_52 rfl rfl ?_
    refine oGo.baload (pc' := 55) (i := (p % 100)) d24_54 rfl AO rfl (v := .int (Int32.ofNat (48 + (p % 100) % 10))) (oTab_get _ _ (by omega)) ?_
    refine oGo.bastore (pc' := 56) (i := o + 3) (w := Int32.ofNat (48 + (p % 100) % 10)) d24_55 rfl A38 rfl (by simp <;> omega) (own_nar8 _ (by omega)) (by simp) ?_
    intro h40 W41 sh40 A42
    rw [own_setdown _ _ _ _ (by omega)] at A42
    refine oGo.aload_n (pc' := 57) d24_56 rfl rfl rfl ?_
    refine oGo.iinc (pc' := 60) (y := -1) (Ls' := #[.val (.int (-(Int32.ofNat (p / 100)))), .val (.int (Int32.ofNat (o + 4))), .val (.ref b), .val (.int (-(Int32.ofNat (p / 100)))), .val (.int (Int32.ofNat (p % 100))), .val (.int ((Int32.ofNat (o + 3)) + (-1 : Int32))), .val (.int (0 : Int32))]) d24_57 rfl rfl (by decide) rfl ?_
    rw [own_decA o 3 2 rfl]
    refine oGo.iload (pc' := 62) d24_60 rfl rfl ?_
    refine oGo.getstatic (pc' := 65) d24_62 rfl (w214 hG) Via.refl ST ?_
    refine oGo.iload (pc' := 67) d24_65 rfl rfl ?_
    have f43 := oArr.other W41 AT hT
    refine oGo.baload (pc' := 68) (i := (p % 100)) d24_67 rfl f43 rfl (v := .int (Int32.ofNat (48 + (p % 100) / 10))) (oTab_get _ _ (by omega)) ?_
    refine oGo.bastore (pc' := 69) (i := o + 2) (w := Int32.ofNat (48 + (p % 100) / 10)) d24_68 rfl A42 rfl (by simp <;> omega) (own_nar8 _ (by omega)) (by simp) ?_
    intro h44 W45 sh44 A46
    rw [own_setdown _ _ _ _ (by omega)] at A46
    refine oGo.goto (pc' := 22) d24_69 (by decide) ?_
    refine oGo.iload_n (pc' := 23) d24_22 rfl rfl ?_
    refine oGo.bipush (pc' := 25) (v := -100) d24_23 rfl (by decide) ?_
    refine oGo.icmp_gt (pc1 := 28) (pc2 := 72) d24_25 rfl (by decide) (fun q47 => ?_) (fun q => by exfalso; rw [show (-100 : Int32) = -(Int32.ofNat 100) from rfl, own_neglt (by omega) (by omega)] at q; omega)
    refine oGo.aload_n (pc' := 73) d24_72 rfl rfl rfl ?_
    refine oGo.iinc (pc' := 76) (y := -1) (Ls' := #[.val (.int (-(Int32.ofNat (p / 100)))), .val (.int (Int32.ofNat (o + 4))), .val (.ref b), .val (.int (-(Int32.ofNat (p / 100)))), .val (.int (Int32.ofNat (p % 100))), .val (.int ((Int32.ofNat (o + 2)) + (-1 : Int32))), .val (.int (0 : Int32))]) d24_73 rfl rfl (by decide) rfl ?_
    rw [own_decA o 2 1 rfl]
    refine oGo.iload (pc' := 78) d24_76 rfl rfl ?_
    refine oGo.getstatic (pc' := 81) d24_78 rfl (w142 hG) Via.refl SO ?_
    refine oGo.iload_n (pc' := 82) d24_81 rfl rfl ?_
    refine oGo.ineg (pc' := 83) d24_82 rfl ?_
    rw [Int32.neg_neg]
    have f48 := oArr.other W41 AO hO
    have f49 := oArr.other W45 f48 hO
    refine oGo.baload (pc' := 84) (i := (p / 100)) d24_83 rfl f49 rfl (v := .int (Int32.ofNat (48 + (p / 100) % 10))) (oTab_get _ _ (by omega)) ?_
    refine oGo.bastore (pc' := 85) (i := o + 1) (w := Int32.ofNat (48 + (p / 100) % 10)) d24_84 rfl A46 rfl (by simp <;> omega) (own_nar8 _ (by omega)) (by simp) ?_
    intro h50 W51 sh50 A52
    rw [own_setdown _ _ _ _ (by omega)] at A52
    refine oGo.iload_n (pc' := 86) d24_85 rfl rfl ?_
    refine oGo.bipush (pc' := 88) (v := -9) d24_86 rfl (by decide) ?_
    refine oGo.icmp_ge (pc1 := 91) (pc2 := 104) d24_88 rfl (by decide) (fun q => by exfalso; rw [show (-9 : Int32) = -(Int32.ofNat 9) from rfl, own_neglt (by omega) (by omega)] at q; omega) (fun q53 => ?_)
    refine oGo.aload_n (pc' := 92) d24_91 rfl rfl rfl ?_
    refine oGo.iinc (pc' := 95) (y := -1) (Ls' := #[.val (.int (-(Int32.ofNat (p / 100)))), .val (.int (Int32.ofNat (o + 4))), .val (.ref b), .val (.int (-(Int32.ofNat (p / 100)))), .val (.int (Int32.ofNat (p % 100))), .val (.int ((Int32.ofNat (o + 1)) + (-1 : Int32))), .val (.int (0 : Int32))]) d24_92 rfl rfl (by decide) rfl ?_
    rw [own_decA o 1 0 rfl]
    refine oGo.iload (pc' := 97) d24_95 rfl rfl ?_
    refine oGo.getstatic (pc' := 100) d24_97 rfl (w214 hG) Via.refl ST ?_
    refine oGo.iload_n (pc' := 101) d24_100 rfl rfl ?_
    refine oGo.ineg (pc' := 102) d24_101 rfl ?_
    rw [Int32.neg_neg]
    have f54 := oArr.other W45 f43 hT
    have f55 := oArr.other W51 f54 hT
    refine oGo.baload (pc' := 103) (i := (p / 100)) d24_102 rfl f55 rfl (v := .int (Int32.ofNat (48 + (p / 100) / 10))) (oTab_get _ _ (by omega)) ?_
    refine oGo.bastore (pc' := 104) (i := o + 0) (w := Int32.ofNat (48 + (p / 100) / 10)) d24_103 rfl A52 rfl (by simp <;> omega) (own_nar8 _ (by omega)) (by simp) ?_
    intro h56 W57 sh56 A58
    rw [Nat.add_zero o, own_setdown _ _ _ _ (by omega)] at A58
    refine oGo.iload (pc' := 106) d24_104 rfl rfl ?_
    refine oGo.if_eq (pc1 := 109) (pc2 := 118) d24_106 rfl (by decide) (fun q59 => ?_) (fun q => by first | exact absurd q (by decide) | exact absurd (by decide) q)
    refine oGo.iload (pc' := 120) d24_118 rfl rfl ?_
    exact oGo.ireturn d24_120 rfl (by decide) (by decide) ⟨⟨_, rfl⟩, (((((Keep.refl h [b]).wr W41 (Or.inl (by simp))).wr W45 (Or.inl (by simp))).wr W51 (Or.inl (by simp))).wr W57 (Or.inl (by simp))), by rw [dgl4 p (by omega), List.append_assoc]; exact A58⟩ (fun _ q => q.elim)
  · show oGo l Z a0 EL True pP eE sS mM _ bB tT cC _ _ _ _ _ _ _ _ [b] h 0 0 22 #[.val (.int ((-(Int32.ofNat p)))), .val (.int (Int32.ofNat (o + 5))), .val (.ref b), .unset, .unset, .val (.int (Int32.ofNat (o + 5))), .val (.int (0 : Int32))] []
    have A60 : oArr Z h b .byte (vs.take (o + 5) ++ vs.drop (o + 5)) := by rw [List.take_append_drop]; exact B
    refine oGo.iload_n (pc' := 23) d24_22 rfl rfl ?_
    refine oGo.bipush (pc' := 25) (v := -100) d24_23 rfl (by decide) ?_
    refine oGo.icmp_gt (pc1 := 28) (pc2 := 72) d24_25 rfl (by decide) (fun q => by exfalso; rw [show (-100 : Int32) = -(Int32.ofNat 100) from rfl, own_neglt (by omega) (by omega)] at q; omega) (fun q61 => ?_)
    refine oGo.iload_n (pc' := 29) d24_28 rfl rfl ?_
    refine oGo.bipush (pc' := 31) (v := 100) d24_29 rfl (by decide) ?_
    refine oGo.idiv (pc' := 32) d24_31 rfl (by decide) ?_
    rw [own_ndiv (p := p) (by omega)]
    refine oGo.istore_n (pc' := 33) (Ls' := #[.val (.int ((-(Int32.ofNat p)))), .val (.int (Int32.ofNat (o + 5))), .val (.ref b), .val (.int (-(Int32.ofNat (p / 100)))), .unset, .val (.int (Int32.ofNat (o + 5))), .val (.int (0 : Int32))]) d24_32 rfl rfl ?_
    refine oGo.iload_n (pc' := 34) d24_33 rfl rfl ?_
    refine oGo.bipush (pc' := 36) (v := 100) d24_34 rfl (by decide) ?_
    refine oGo.imul (pc' := 37) d24_36 rfl ?_
    refine oGo.iload_n (pc' := 38) d24_37 rfl rfl ?_
    refine oGo.isub (pc' := 39) d24_38 rfl ?_
    rw [own_nrem (p := p) (by omega)]
    refine oGo.istore (pc' := 41) (Ls' := #[.val (.int ((-(Int32.ofNat p)))), .val (.int (Int32.ofNat (o + 5))), .val (.ref b), .val (.int (-(Int32.ofNat (p / 100)))), .val (.int (Int32.ofNat (p % 100))), .val (.int (Int32.ofNat (o + 5))), .val (.int (0 : Int32))]) d24_39 rfl rfl ?_
    refine oGo.iload_n (pc' := 42) d24_41 rfl rfl ?_
    refine oGo.istore_n (pc' := 43) (Ls' := #[.val (.int (-(Int32.ofNat (p / 100)))), .val (.int (Int32.ofNat (o + 5))), .val (.ref b), .val (.int (-(Int32.ofNat (p / 100)))), .val (.int (Int32.ofNat (p % 100))), .val (.int (Int32.ofNat (o + 5))), .val (.int (0 : Int32))]) d24_42 rfl rfl ?_
    refine oGo.aload_n (pc' := 44) d24_43 rfl rfl rfl ?_
    refine oGo.iinc (pc' := 47) (y := -1) (Ls' := #[.val (.int (-(Int32.ofNat (p / 100)))), .val (.int (Int32.ofNat (o + 5))), .val (.ref b), .val (.int (-(Int32.ofNat (p / 100)))), .val (.int (Int32.ofNat (p % 100))), .val (.int ((Int32.ofNat (o + 5)) + (-1 : Int32))), .val (.int (0 : Int32))]) d24_44 rfl rfl (by decide) rfl ?_
    rw [own_decA o 5 4 rfl]
    refine oGo.iload (pc' := 49) d24_47 rfl rfl ?_
    refine oGo.getstatic (pc' := 52) d24_49 rfl (w142 hG) Via.refl SO ?_
    refine oGo.iload (pc' := 54) d24_52 rfl rfl ?_
    refine oGo.baload (pc' := 55) (i := (p % 100)) d24_54 rfl AO rfl (v := .int (Int32.ofNat (48 + (p % 100) % 10))) (oTab_get _ _ (by omega)) ?_
    refine oGo.bastore (pc' := 56) (i := o + 4) (w := Int32.ofNat (48 + (p % 100) % 10)) d24_55 rfl A60 rfl (by simp <;> omega) (own_nar8 _ (by omega)) (by simp) ?_
    intro h62 W63 sh62 A64
    rw [own_setdown _ _ _ _ (by omega)] at A64
    refine oGo.aload_n (pc' := 57) d24_56 rfl rfl rfl ?_
    refine oGo.iinc (pc' := 60) (y := -1) (Ls' := #[.val (.int (-(Int32.ofNat (p / 100)))), .val (.int (Int32.ofNat (o + 5))), .val (.ref b), .val (.int (-(Int32.ofNat (p / 100)))), .val (.int (Int32.ofNat (p % 100))), .val (.int ((Int32.ofNat (o + 4)) + (-1 : Int32))), .val (.int (0 : Int32))]) d24_57 rfl rfl (by decide) rfl ?_
    rw [own_decA o 4 3 rfl]
    refine oGo.iload (pc' := 62) d24_60 rfl rfl ?_
    refine oGo.getstatic (pc' := 65) d24_62 rfl (w214 hG) Via.refl ST ?_
    refine oGo.iload (pc' := 67) d24_65 rfl rfl ?_
    have f65 := oArr.other W63 AT hT
    refine oGo.baload (pc' := 68) (i := (p % 100)) d24_67 rfl f65 rfl (v := .int (Int32.ofNat (48 + (p % 100) / 10))) (oTab_get _ _ (by omega)) ?_
    refine oGo.bastore (pc' := 69) (i := o + 3) (w := Int32.ofNat (48 + (p % 100) / 10)) d24_68 rfl A64 rfl (by simp <;> omega) (own_nar8 _ (by omega)) (by simp) ?_
    intro h66 W67 sh66 A68
    rw [own_setdown _ _ _ _ (by omega)] at A68
    refine oGo.goto (pc' := 22) d24_69 (by decide) ?_
    refine oGo.iload_n (pc' := 23) d24_22 rfl rfl ?_
    refine oGo.bipush (pc' := 25) (v := -100) d24_23 rfl (by decide) ?_
    refine oGo.icmp_gt (pc1 := 28) (pc2 := 72) d24_25 rfl (by decide) (fun q => by exfalso; rw [show (-100 : Int32) = -(Int32.ofNat 100) from rfl, own_neglt (by omega) (by omega)] at q; omega) (fun q69 => ?_)
    refine oGo.iload_n (pc' := 29) d24_28 rfl rfl ?_
    refine oGo.bipush (pc' := 31) (v := 100) d24_29 rfl (by decide) ?_
    refine oGo.idiv (pc' := 32) d24_31 rfl (by decide) ?_
    rw [own_ndiv (p := p / 100) (by omega)]
    refine oGo.istore_n (pc' := 33) (Ls' := #[.val (.int (-(Int32.ofNat (p / 100)))), .val (.int (Int32.ofNat (o + 5))), .val (.ref b), .val (.int (-(Int32.ofNat (p / 100 / 100)))), .val (.int (Int32.ofNat (p % 100))), .val (.int (Int32.ofNat (o + 3))), .val (.int (0 : Int32))]) d24_32 rfl rfl ?_
    refine oGo.iload_n (pc' := 34) d24_33 rfl rfl ?_
    refine oGo.bipush (pc' := 36) (v := 100) d24_34 rfl (by decide) ?_
    refine oGo.imul (pc' := 37) d24_36 rfl ?_
    refine oGo.iload_n (pc' := 38) d24_37 rfl rfl ?_
    refine oGo.isub (pc' := 39) d24_38 rfl ?_
    rw [own_nrem (p := p / 100) (by omega)]
    refine oGo.istore (pc' := 41) (Ls' := #[.val (.int (-(Int32.ofNat (p / 100)))), .val (.int (Int32.ofNat (o + 5))), .val (.ref b), .val (.int (-(Int32.ofNat (p / 100 / 100)))), .val (.int (Int32.ofNat (p / 100 % 100))), .val (.int (Int32.ofNat (o + 3))), .val (.int (0 : Int32))]) d24_39 rfl rfl ?_
    refine oGo.iload_n (pc' := 42) d24_41 rfl rfl ?_
    refine oGo.istore_n (pc' := 43) (Ls' := #[.val (.int (-(Int32.ofNat (p / 100 / 100)))), .val (.int (Int32.ofNat (o + 5))), .val (.ref b), .val (.int (-(Int32.ofNat (p / 100 / 100)))), .val (.int (Int32.ofNat (p / 100 % 100))), .val (.int (Int32.ofNat (o + 3))), .val (.int (0 : Int32))]) d24_42 rfl rfl ?_
    refine oGo.aload_n (pc' := 44) d24_43 rfl rfl rfl ?_
    refine oGo.iinc (pc' := 47) (y := -1) (Ls' := #[.val (.int (-(Int32.ofNat (p / 100 / 100)))), .val (.int (Int32.ofNat (o + 5))), .val (.ref b), .val (.int (-(Int32.ofNat (p / 100 / 100)))), .val (.int (Int32.ofNat (p / 100 % 100))), .val (.int ((Int32.ofNat (o + 3)) + (-1 : Int32))), .val (.int (0 : Int32))]) d24_44 rfl rfl (by decide) rfl ?_
    rw [own_decA o 3 2 rfl]
    refine oGo.iload (pc' := 49) d24_47 rfl rfl ?_
    refine oGo.getstatic (pc' := 52) d24_49 rfl (w142 hG) Via.refl SO ?_
    refine oGo.iload (pc' := 54) d24_52 rfl rfl ?_
    have f70 := oArr.other W63 AO hO
    have f71 := oArr.other W67 f70 hO
    refine oGo.baload (pc' := 55) (i := (p / 100 % 100)) d24_54 rfl f71 rfl (v := .int (Int32.ofNat (48 + (p / 100 % 100) % 10))) (oTab_get _ _ (by omega)) ?_
    refine oGo.bastore (pc' := 56) (i := o + 2) (w := Int32.ofNat (48 + (p / 100 % 100) % 10)) d24_55 rfl A68 rfl (by simp <;> omega) (own_nar8 _ (by omega)) (by simp) ?_
    intro h72 W73 sh72 A74
    rw [own_setdown _ _ _ _ (by omega)] at A74
    refine oGo.aload_n (pc' := 57) d24_56 rfl rfl rfl ?_
    refine oGo.iinc (pc' := 60) (y := -1) (Ls' := #[.val (.int (-(Int32.ofNat (p / 100 / 100)))), .val (.int (Int32.ofNat (o + 5))), .val (.ref b), .val (.int (-(Int32.ofNat (p / 100 / 100)))), .val (.int (Int32.ofNat (p / 100 % 100))), .val (.int ((Int32.ofNat (o + 2)) + (-1 : Int32))), .val (.int (0 : Int32))]) d24_57 rfl rfl (by decide) rfl ?_
    rw [own_decA o 2 1 rfl]
    refine oGo.iload (pc' := 62) d24_60 rfl rfl ?_
    refine oGo.getstatic (pc' := 65) d24_62 rfl (w214 hG) Via.refl ST ?_
    refine oGo.iload (pc' := 67) d24_65 rfl rfl ?_
    have f75 := oArr.other W67 f65 hT
    have f76 := oArr.other W73 f75 hT
    refine oGo.baload (pc' := 68) (i := (p / 100 % 100)) d24_67 rfl f76 rfl (v := .int (Int32.ofNat (48 + (p / 100 % 100) / 10))) (oTab_get _ _ (by omega)) ?_
    refine oGo.bastore (pc' := 69) (i := o + 1) (w := Int32.ofNat (48 + (p / 100 % 100) / 10)) d24_68 rfl A74 rfl (by simp <;> omega) (own_nar8 _ (by omega)) (by simp) ?_
    intro h77 W78 sh77 A79
    rw [own_setdown _ _ _ _ (by omega)] at A79
    refine oGo.goto (pc' := 22) d24_69 (by decide) ?_
    refine oGo.iload_n (pc' := 23) d24_22 rfl rfl ?_
    refine oGo.bipush (pc' := 25) (v := -100) d24_23 rfl (by decide) ?_
    refine oGo.icmp_gt (pc1 := 28) (pc2 := 72) d24_25 rfl (by decide) (fun q80 => ?_) (fun q => by exfalso; rw [show (-100 : Int32) = -(Int32.ofNat 100) from rfl, own_neglt (by omega) (by omega)] at q; omega)
    refine oGo.aload_n (pc' := 73) d24_72 rfl rfl rfl ?_
    refine oGo.iinc (pc' := 76) (y := -1) (Ls' := #[.val (.int (-(Int32.ofNat (p / 100 / 100)))), .val (.int (Int32.ofNat (o + 5))), .val (.ref b), .val (.int (-(Int32.ofNat (p / 100 / 100)))), .val (.int (Int32.ofNat (p / 100 % 100))), .val (.int ((Int32.ofNat (o + 1)) + (-1 : Int32))), .val (.int (0 : Int32))]) d24_73 rfl rfl (by decide) rfl ?_
    rw [own_decA o 1 0 rfl]
    refine oGo.iload (pc' := 78) d24_76 rfl rfl ?_
    refine oGo.getstatic (pc' := 81) d24_78 rfl (w142 hG) Via.refl SO ?_
    refine oGo.iload_n (pc' := 82) d24_81 rfl rfl ?_
    refine oGo.ineg (pc' := 83) d24_82 rfl ?_
    rw [Int32.neg_neg]
    have f81 := oArr.other W73 f71 hO
    have f82 := oArr.other W78 f81 hO
    refine oGo.baload (pc' := 84) (i := (p / 100 / 100)) d24_83 rfl f82 rfl (v := .int (Int32.ofNat (48 + (p / 100 / 100) % 10))) (oTab_get _ _ (by omega)) ?_
    refine oGo.bastore (pc' := 85) (i := o + 0) (w := Int32.ofNat (48 + (p / 100 / 100) % 10)) d24_84 rfl A79 rfl (by simp <;> omega) (own_nar8 _ (by omega)) (by simp) ?_
    intro h83 W84 sh83 A85
    rw [Nat.add_zero o, own_setdown _ _ _ _ (by omega)] at A85
    refine oGo.iload_n (pc' := 86) d24_85 rfl rfl ?_
    refine oGo.bipush (pc' := 88) (v := -9) d24_86 rfl (by decide) ?_
    refine oGo.icmp_ge (pc1 := 91) (pc2 := 104) d24_88 rfl (by decide) (fun q86 => ?_) (fun q => by exfalso; rw [show (-9 : Int32) = -(Int32.ofNat 9) from rfl, own_neglt (by omega) (by omega)] at q; omega)
    refine oGo.iload (pc' := 106) d24_104 rfl rfl ?_
    refine oGo.if_eq (pc1 := 109) (pc2 := 118) d24_106 rfl (by decide) (fun q87 => ?_) (fun q => by first | exact absurd q (by decide) | exact absurd (by decide) q)
    refine oGo.iload (pc' := 120) d24_118 rfl rfl ?_
    exact oGo.ireturn d24_120 rfl (by decide) (by decide) ⟨⟨_, rfl⟩, ((((((Keep.refl h [b]).wr W63 (Or.inl (by simp))).wr W67 (Or.inl (by simp))).wr W73 (Or.inl (by simp))).wr W78 (Or.inl (by simp))).wr W84 (Or.inl (by simp))), by rw [dgl5 p (by omega), List.append_assoc]; exact A85⟩ (fun _ q => q.elim)
set_option maxRecDepth 65536 in
set_option maxHeartbeats 4000000 in
theorem c_asbAppI {l : Launch} {Z : State} {a0 : Array Value} {EL : List (String × Nat)} (hG : oG a0 Z EL) (sb b p n dO dT : Nat) (cs : List Int32) (cap : Nat) (hp : p ≤ 65535) (hn : ndF p = n) (hM : cs.length + n ≤ cap) (hc : cap < 5000) (hO : dO ≠ b) (hT : dT ≠ b) (h : Heap) (SB : oSB Z h sb b cs cap) (SO : Sta Z Z.heap "java/lang/Integer" "DigitOnes" "[B" (.ref dO)) (ST : Sta Z Z.heap "java/lang/Integer" "DigitTens" "[B" (.ref dT)) (AO : oArr Z h dO .byte (oTab (fun j => 48 + j % 10))) (AT : oArr Z h dT .byte (oTab (fun j => 48 + j / 10))) :
    oCtr [] l Z a0 EL True (⟨"java/lang/AbstractStringBuilder", "append", "(I)Ljava/lang/AbstractStringBuilder;"⟩ : MethodName) jdk_68_method_32_code 4 (some (.object "java/lang/AbstractStringBuilder")) ({ frames := 1, cells := 0, slots := 0, locals := 18 } : Room) #[.ref sb, .int (Int32.ofNat p)] [sb, b] h ((q_append Z h sb b cs (dgl p n) cap)) oNo := by
  refine oCtr.enter (Ls := #[.val (.ref sb), .val (.int (Int32.ofNat p)), .unset, .unset]) (plainFor_of_name pn3) hG.2.1 (fun m => by first | (simp [entryFrame, mkF, argsToLocals, Value.category]; done) | rfl) ?_
  intro pP eE sS mM bB tT cC
  have SB0 := SB
  obtain ⟨E, F1, F2, F3, vs, B, hcap, hvs, hle⟩ := SB
  have hsl := own_ltN E.lt
  have hbl := own_ltN B.lt
  have hsb2 : sb ≠ b := oSB_ne hG SB0
  refine oGo.aload_n (pc' := 1) d21_0 rfl rfl rfl ?_
  refine oGo.getfield (pc' := 4) d21_1 rfl (w91 hG) Via.refl F3 ?_
  refine oGo.istore_n (pc' := 5) (Ls' := #[.val (.ref sb), .val (.int (Int32.ofNat p)), .val (.int (Int32.ofNat cs.length)), .unset]) d21_4 rfl rfl ?_
  refine oGo.iload_n (pc' := 6) d21_5 rfl rfl ?_
  refine oGo.iload_n (pc' := 7) d21_6 rfl rfl ?_
  refine oGo.invokestatic (pc' := 10) (k' := 0) (n' := 0) (argsL := [.int (Int32.ofNat p)]) (rest := [.int (Int32.ofNat cs.length)]) d21_7 rfl (w130 hG) (w131 hG) (w132 hG) (w133 hG) (by decide) pd14 rfl rfl rfl (c_strSize hG p n hp hn h) (by simp) (by decide) (Nat.le_of_ble_eq_true rfl) rfl rfl (by decide) (by decide) ?_
  intro v1 h2 sh2 q3
  obtain ⟨rfl, ee⟩ := q3
  obtain rfl := ee.symm
  refine ⟨_, fun _ hx => Or.inl hx, ?_⟩
  show oGo l Z a0 EL True pP eE sS mM _ bB tT cC _ _ _ _ _ _ _ _ [sb, b] h 0 0 10 #[.val (.ref sb), .val (.int (Int32.ofNat p)), .val (.int (Int32.ofNat cs.length)), .unset] [.int (Int32.ofNat n), .int (Int32.ofNat cs.length)]
  refine oGo.iadd (pc' := 11) d21_10 rfl ?_
  rw [← Int32.ofNat_add]
  refine oGo.istore_n (pc' := 12) (Ls' := #[.val (.ref sb), .val (.int (Int32.ofNat p)), .val (.int (Int32.ofNat cs.length)), .val (.int (Int32.ofNat (cs.length + n)))]) d21_11 rfl rfl ?_
  refine oGo.aload_n (pc' := 13) d21_12 rfl rfl rfl ?_
  refine oGo.iload_n (pc' := 14) d21_13 rfl rfl ?_
  refine oGo.invokeprivate (pc' := 17) (k' := 0) (n' := 0) (a := sb) (argsL := [.int (Int32.ofNat (cs.length + n))]) (rest := []) d21_14 rfl (w93 hG) (w95 hG) (w96 hG) (w94 hG) (w63 hG) (w97 hG) (by decide) pd8 rfl rfl rfl E (c_ensureN hG sb b cs cap (cs.length + n) hM (by omega) h SB0) (by simp) (by decide) (Nat.le_of_ble_eq_true rfl) rfl rfl (by decide) (by decide) ?_
  intro v4 h5 sh5 q6
  obtain ⟨rfl, ee⟩ := q6
  obtain rfl := ee.symm
  refine ⟨_, fun _ hx => Or.inl hx, ?_⟩
  show oGo l Z a0 EL True pP eE sS mM _ bB tT cC _ _ _ _ _ _ _ _ [sb, b] h 0 0 17 #[.val (.ref sb), .val (.int (Int32.ofNat p)), .val (.int (Int32.ofNat cs.length)), .val (.int (Int32.ofNat (cs.length + n)))] []
  refine oGo.aload_n (pc' := 18) d21_17 rfl rfl rfl ?_
  refine oGo.invokevirtual (pc' := 21) (k' := 0) (n' := 0) (a := sb) (argsL := []) (rest := []) d21_18 rfl (w134 hG) (w135 hG) (w137 hG) (w137 hG) rfl (w136 hG) (w63 hG) (w138 hG) (by decide) pd15 rfl rfl rfl E (c_asbLat hG sb h F2) (by simp) (by decide) (Nat.le_of_ble_eq_true rfl) rfl rfl (by decide) (by decide) ?_
  intro v7 h8 sh8 q9
  obtain ⟨rfl, ee⟩ := q9
  obtain rfl := ee.symm
  refine ⟨_, fun _ hx => Or.inl hx, ?_⟩
  show oGo l Z a0 EL True pP eE sS mM _ bB tT cC _ _ _ _ _ _ _ _ [sb, b] h 0 0 21 #[.val (.ref sb), .val (.int (Int32.ofNat p)), .val (.int (Int32.ofNat cs.length)), .val (.int (Int32.ofNat (cs.length + n)))] [.int (1 : Int32)]
  refine oGo.if_eq (pc1 := 24) (pc2 := 37) d21_21 rfl (by decide) (fun q => by first | exact absurd q (by decide) | exact absurd (by decide) q) (fun q10 => ?_)
  refine oGo.iload_n (pc' := 25) d21_24 rfl rfl ?_
  refine oGo.iload_n (pc' := 26) d21_25 rfl rfl ?_
  refine oGo.aload_n (pc' := 27) d21_26 rfl rfl rfl ?_
  refine oGo.getfield (pc' := 30) d21_27 rfl (w67 hG) Via.refl F1 ?_
  refine oGo.invokestatic (pc' := 33) (k' := 0) (n' := 0) (argsL := [.int (Int32.ofNat p), .int (Int32.ofNat (cs.length + n)), .ref b]) (rest := []) d21_30 rfl (w139 hG) (w140 hG) (w132 hG) (w141 hG) (by decide) pd16 rfl rfl rfl (c_getChars hG p n b dO dT vs cs.length hp hn (by omega) hO hT h B SO ST AO AT) (by simp) (by decide) (Nat.le_of_ble_eq_true rfl) rfl rfl (by decide) (by decide) ?_
  intro v11 h12 sh12 q13
  obtain ⟨⟨z, rfl⟩, K3, B3⟩ := q13
  refine ⟨_, fun _ hx => Or.inl hx, ?_⟩
  show oGo l Z a0 EL True pP eE sS mM _ bB tT cC _ _ _ _ _ _ _ _ [sb, b] h12 0 0 33 #[.val (.ref sb), .val (.int (Int32.ofNat p)), .val (.int (Int32.ofNat cs.length)), .val (.int (Int32.ofNat (cs.length + n)))] [.int z]
  refine oGo.pop (pc' := 34) d21_33 rfl rfl ?_
  refine oGo.goto (pc' := 48) d21_34 (by decide) ?_
  refine oGo.aload_n (pc' := 49) d21_48 rfl rfl rfl ?_
  refine oGo.iload_n (pc' := 50) d21_49 rfl rfl ?_
  have f14 := Fld.keep F3 K3 (own_nin1 hsb2)
  have f15 := Exa.keep E K3
  refine oGo.putfield (pc' := 53) (ty := .int) d21_50 rfl (w91 hG) Via.refl f14 f15 (Or.inl (w92 hG)) (w54 hG) (by decide) rfl rfl (by simp) ?_
  intro h16 W17 sh16
  have f18 := Fld.same W17 f14
  refine oGo.aload_n (pc' := 54) d21_53 rfl rfl rfl ?_
  have f19 := Exa.wr W17 f15
  have f20 := Fld.keep F1 K3 (own_nin1 hsb2)
  have f21 := Fld.other W17 f20 (Or.inr (slot_ne (C := "java/lang/StringBuilder") (Or.inl (w68 hG)) (Or.inl (w92 hG)) (by decide) (t := (.array .byte)) (t' := .int) (by decide) (by decide)))
  have f22 := Fld.keep F2 K3 (own_nin1 hsb2)
  have f23 := Fld.other W17 f22 (Or.inr (slot_ne (C := "java/lang/StringBuilder") (Or.inl (w70 hG)) (Or.inl (w92 hG)) (by decide) (t := .byte) (t' := .int) (by decide) (by decide)))
  have f24 := oArr.other W17 B3 (Ne.symm hsb2)
  exact oGo.areturn d21_54 rfl rfl rfl rfl (by decide) (by decide) ⟨rfl, ((Keep.refl h [sb, b]).trans K3 (by simp)).wr W17 (Or.inl (by simp)), f19, f21, f23, by rw [List.length_append, dgl_len]; exact f18, _, f24, by simp [dgl_len]; omega, by have e := own_app_take (ds := dgl p n) hvs (by rw [dgl_len]; omega); rw [dgl_len] at e; rw [List.length_append, dgl_len]; exact e, by rw [List.length_append, dgl_len]; exact hM⟩ (fun _ q => q.elim)
set_option maxRecDepth 65536 in
set_option maxHeartbeats 4000000 in
theorem c_appI {l : Launch} {Z : State} {a0 : Array Value} {EL : List (String × Nat)} (hG : oG a0 Z EL) (sb b p n dO dT : Nat) (cs : List Int32) (cap : Nat) (hp : p ≤ 65535) (hn : ndF p = n) (hM : cs.length + n ≤ cap) (hc : cap < 5000) (hO : dO ≠ b) (hT : dT ≠ b) (h : Heap) (SB : oSB Z h sb b cs cap) (SO : Sta Z Z.heap "java/lang/Integer" "DigitOnes" "[B" (.ref dO)) (ST : Sta Z Z.heap "java/lang/Integer" "DigitTens" "[B" (.ref dT)) (AO : oArr Z h dO .byte (oTab (fun j => 48 + j % 10))) (AT : oArr Z h dT .byte (oTab (fun j => 48 + j / 10))) :
    oCtr [] l Z a0 EL True (⟨"java/lang/StringBuilder", "append", "(I)Ljava/lang/StringBuilder;"⟩ : MethodName) jdk_67_method_15_code 2 (some (.object "java/lang/StringBuilder")) ({ frames := 2, cells := 0, slots := 0, locals := 33 } : Room) #[.ref sb, .int (Int32.ofNat p)] [sb, b] h ((q_append Z h sb b cs (dgl p n) cap)) oNo := by
  refine oCtr.enter (Ls := #[.val (.ref sb), .val (.int (Int32.ofNat p))]) (plainFor_of_name pn4) hG.2.1 (fun m => by first | (simp [entryFrame, mkF, argsToLocals, Value.category]; done) | rfl) ?_
  intro pP eE sS mM bB tT cC
  refine oGo.aload_n (pc' := 1) d20_0 rfl rfl rfl ?_
  refine oGo.iload_n (pc' := 2) d20_1 rfl rfl ?_
  refine oGo.invokesuper (pc' := 5) (k' := 0) (n' := 0) (a := sb) (argsL := [.int (Int32.ofNat p)]) (rest := []) d20_2 rfl (by decide) (w126 hG) (w78 hG) (w127 hG) (w96 hG) rfl (w63 hG) (w129 hG) (by decide) pd17 rfl rfl rfl SB.1 (c_asbAppI hG sb b p n dO dT cs cap hp hn hM hc hO hT h SB SO ST AO AT) (by simp) (by decide) (Nat.le_of_ble_eq_true rfl) rfl rfl (by decide) (by decide) ?_
  intro v1 h2 sh2 q3
  obtain ⟨rfl, K2, S2⟩ := q3
  refine ⟨_, fun _ hx => Or.inl hx, ?_⟩
  show oGo l Z a0 EL True pP eE sS mM _ bB tT cC _ _ _ _ _ _ _ _ [sb, b] h2 0 0 5 #[.val (.ref sb), .val (.int (Int32.ofNat p))] [.ref sb]
  refine oGo.pop (pc' := 6) d20_5 rfl rfl ?_
  refine oGo.aload_n (pc' := 7) d20_6 rfl rfl rfl ?_
  exact oGo.areturn d20_7 rfl rfl rfl rfl (by decide) (by decide) ⟨rfl, K2, S2⟩ (fun _ q => q.elim)
abbrev q_strSB (Z : State) (h : Heap) (x : Nat) (cs : List Int32) : Option Value → Heap → Prop := fun v h' => v = none ∧ Keep h h' [x] ∧ ∃ t : Nat, h.size ≤ t ∧ oS Z h' x t cs
set_option maxRecDepth 65536 in
set_option maxHeartbeats 4000000 in
theorem c_strASB {l : Launch} {Z : State} {a0 : Array Value} {EL : List (String × Nat)} (hG : oG a0 Z EL) (x sb b : Nat) (cs : List Int32) (cap : Nat) (hN : cs.length ≤ 9) (hne : cs.length < cap) (hcs : ∀ c ∈ cs, ¬ c < 0 ∧ ¬ 255 < c) (u w0 : Value) (hxs : x ≠ sb ∧ x ≠ b) (h : Heap) (SB : oSB Z h sb b cs cap) (EX : Exa Z h x "java/lang/String") (G1 : Fld Z h x "java/lang/String" "value" "[B" u) (G2 : Fld Z h x "java/lang/String" "coder" "B" w0) :
    oCtr [] l Z a0 EL True (⟨"java/lang/String", "<init>", "(Ljava/lang/AbstractStringBuilder;Ljava/lang/Void;)V"⟩ : MethodName) jdk_42_method_150_code 5 none ({ frames := 3, cells := 1, slots := 9, locals := 49 } : Room) #[.ref x, .ref sb, .null] [x] h ((q_strSB Z h x cs)) oNo := by
  have hxl := own_ltN EX.lt
  refine oCtr.enter (Ls := #[.val (.ref x), .val (.ref sb), .val .null, .unset, .unset]) (plainFor_of_name pn1) hG.2.1 (fun m => by first | (simp [entryFrame, mkF, argsToLocals, Value.category]; done) | rfl) ?_
  intro pP eE sS mM bB tT cC
  obtain ⟨E, F1, F2, F3, vs, B, hcap, hvs, hle⟩ := SB
  have hsl := own_ltN E.lt
  have hbl := own_ltN B.lt
  refine oGo.aload_n (pc' := 1) d27_0 rfl rfl rfl ?_
  refine oGo.objinit (pc' := 4) d27_1 rfl (w13 hG) (w14 hG) (w15 hG) rfl (by decide) (Nat.le_of_ble_eq_true rfl) ?_
  refine oGo.aload_n (pc' := 5) d27_4 rfl rfl rfl ?_
  refine oGo.invokevirtual (pc' := 8) (k' := 0) (n' := 0) (a := sb) (argsL := []) (rest := []) d27_5 rfl (w155 hG) (w156 hG) (w158 hG) (w158 hG) rfl (w157 hG) (w63 hG) (w159 hG) (by decide) pd18 rfl rfl rfl E (c_getValue hG sb b h F1) (by simp) (by decide) (Nat.le_of_ble_eq_true rfl) rfl rfl (by decide) (by decide) ?_
  intro v1 h2 sh2 q3
  obtain ⟨rfl, ee⟩ := q3
  obtain rfl := ee.symm
  refine ⟨_, fun _ hx => Or.inl hx, ?_⟩
  show oGo l Z a0 EL True pP eE sS mM _ bB tT cC _ _ _ _ _ _ _ _ [x] h 0 0 8 #[.val (.ref x), .val (.ref sb), .val .null, .unset, .unset] [.ref b]
  refine oGo.astore_n (pc' := 9) (Ls' := #[.val (.ref x), .val (.ref sb), .val .null, .val (.ref b), .unset]) d27_8 rfl rfl rfl ?_
  refine oGo.aload_n (pc' := 10) d27_9 rfl rfl rfl ?_
  refine oGo.invokevirtual (pc' := 13) (k' := 0) (n' := 0) (a := sb) (argsL := []) (rest := []) d27_10 rfl (w160 hG) (w161 hG) (w163 hG) (w96 hG) rfl (w164 hG) (w55 hG) (w165 hG) (by decide) pd11 rfl rfl rfl E (c_sbLen hG sb _ h E F3) (by simp) (by decide) (Nat.le_of_ble_eq_true rfl) rfl rfl (by decide) (by decide) ?_
  intro v4 h5 sh5 q6
  obtain ⟨rfl, ee⟩ := q6
  obtain rfl := ee.symm
  refine ⟨_, fun _ hx => Or.inl hx, ?_⟩
  show oGo l Z a0 EL True pP eE sS mM _ bB tT cC _ _ _ _ _ _ _ _ [x] h 0 0 13 #[.val (.ref x), .val (.ref sb), .val .null, .val (.ref b), .unset] [.int (Int32.ofNat cs.length)]
  refine oGo.istore (pc' := 15) (Ls' := #[.val (.ref x), .val (.ref sb), .val .null, .val (.ref b), .val (.int (Int32.ofNat cs.length))]) d27_13 rfl rfl ?_
  refine oGo.aload_n (pc' := 16) d27_15 rfl rfl rfl ?_
  refine oGo.invokevirtual (pc' := 19) (k' := 0) (n' := 0) (a := sb) (argsL := []) (rest := []) d27_16 rfl (w168 hG) (w135 hG) (w137 hG) (w137 hG) rfl (w136 hG) (w63 hG) (w138 hG) (by decide) pd15 rfl rfl rfl E (c_asbLat hG sb h F2) (by simp) (by decide) (Nat.le_of_ble_eq_true rfl) rfl rfl (by decide) (by decide) ?_
  intro v7 h8 sh8 q9
  obtain ⟨rfl, ee⟩ := q9
  obtain rfl := ee.symm
  refine ⟨_, fun _ hx => Or.inl hx, ?_⟩
  show oGo l Z a0 EL True pP eE sS mM _ bB tT cC _ _ _ _ _ _ _ _ [x] h 0 0 19 #[.val (.ref x), .val (.ref sb), .val .null, .val (.ref b), .val (.int (Int32.ofNat cs.length))] [.int (1 : Int32)]
  refine oGo.if_eq (pc1 := 22) (pc2 := 41) d27_19 rfl (by decide) (fun q => by first | exact absurd q (by decide) | exact absurd (by decide) q) (fun q10 => ?_)
  refine oGo.aload_n (pc' := 23) d27_22 rfl rfl rfl ?_
  refine oGo.iconst (pc' := 24) (v := 0) d27_23 rfl (by decide) ?_
  refine oGo.putfield (pc' := 27) (ty := .byte) d27_24 rfl (w28 hG) Via.refl G2 EX (Or.inr ⟨(w29 hG), rfl, rfl⟩) (w4 hG) (by decide) (by decide) (by decide) (by simp) ?_
  intro h11 W12 sh11
  have f13 := Fld.same W12 G2
  refine oGo.aload_n (pc' := 28) d27_27 rfl rfl rfl ?_
  refine oGo.aload_n (pc' := 29) d27_28 rfl rfl rfl ?_
  refine oGo.iconst (pc' := 30) (v := 0) d27_29 rfl (by decide) ?_
  refine oGo.iload (pc' := 32) d27_30 rfl rfl ?_
  have f14 := oArr.other W12 B (own_ne (by omega))
  refine oGo.invokestatic (pc' := 35) (k' := 1) (n' := 9) (argsL := [.ref b, .int (0 : Int32), .int (Int32.ofNat cs.length)]) (rest := [.ref x]) d27_32 rfl (w169 hG) (w170 hG) (w171 hG) (w172 hG) (by decide) pd7 rfl rfl rfl (c_cor hG b vs 0 cs.length (by omega) (by omega) (by omega) (by omega) _ f14) (by simp) (by decide) (Nat.le_of_ble_eq_true rfl) rfl rfl (by decide) (by decide) ?_
  intro v15 h16 sh16 q17
  obtain ⟨K2, t, rfl, ht, B2⟩ := q17
  rw [List.drop_zero, Nat.sub_zero, hvs] at B2
  refine ⟨[t, x], own_D1 (rfl), ?_⟩
  show oGo l Z a0 EL True pP eE sS mM _ bB tT cC _ _ _ _ _ _ _ _ [t, x] h16 1 9 35 #[.val (.ref x), .val (.ref sb), .val .null, .val (.ref b), .val (.int (Int32.ofNat cs.length))] [.ref t, .ref x]
  have f18 := Fld.other W12 G1 (Or.inr (slot_ne (C := "java/lang/String") (Or.inr (w31 hG)) (Or.inr (w29 hG)) (by decide) (t := (.array .byte)) (t' := .byte) (by decide) (by decide)))
  have f19 := Fld.keep f18 K2 nin0
  have f20 := Exa.wr W12 EX
  have f21 := Exa.keep f20 K2
  refine oGo.putfield (pc' := 38) (ty := (.array .byte)) d27_35 rfl (w30 hG) Via.refl f19 f21 (Or.inr ⟨(w31 hG), rfl, rfl⟩) (w4 hG) (by decide) rfl rfl (by simp) ?_
  intro h22 W23 sh22
  have f24 := Fld.same W23 f19
  refine oGo.goto (pc' := 97) d27_38 (by decide) ?_
  have f25 := Exa.wr W23 f21
  have f26 := Fld.keep f13 K2 nin0
  have f27 := Fld.other W23 f26 (Or.inr (slot_ne (C := "java/lang/String") (Or.inr (w29 hG)) (Or.inr (w31 hG)) (by decide) (t := .byte) (t' := (.array .byte)) (by decide) (by decide)))
  have f28 := oArr.other W23 B2 (own_ne (by omega))
  exact oGo.return_ d27_97 rfl (by decide) (by decide) ⟨rfl, (((Keep.refl h [x]).wr W12 (Or.inl (by simp))).trans K2 (by simp)).wr W23 (Or.inl (by simp)), t, by omega, f25, f24, f27, f28, hcs⟩ (fun _ q => q.elim)
set_option maxRecDepth 65536 in
set_option maxHeartbeats 4000000 in
theorem c_strSB {l : Launch} {Z : State} {a0 : Array Value} {EL : List (String × Nat)} (hG : oG a0 Z EL) (x sb b : Nat) (cs : List Int32) (cap : Nat) (hN : cs.length ≤ 9) (hne : cs.length < cap) (hcs : ∀ c ∈ cs, ¬ c < 0 ∧ ¬ 255 < c) (u w0 : Value) (hxs : x ≠ sb ∧ x ≠ b) (h : Heap) (SB : oSB Z h sb b cs cap) (EX : Exa Z h x "java/lang/String") (G1 : Fld Z h x "java/lang/String" "value" "[B" u) (G2 : Fld Z h x "java/lang/String" "coder" "B" w0) :
    oCtr [] l Z a0 EL True (⟨"java/lang/String", "<init>", "(Ljava/lang/StringBuilder;)V"⟩ : MethodName) jdk_42_method_53_code 2 none ({ frames := 4, cells := 1, slots := 9, locals := 65 } : Room) #[.ref x, .ref sb] [x] h ((q_strSB Z h x cs)) oNo := by
  refine oCtr.enter (Ls := #[.val (.ref x), .val (.ref sb)]) (plainFor_of_name pn1) hG.2.1 (fun m => by first | (simp [entryFrame, mkF, argsToLocals, Value.category]; done) | rfl) ?_
  intro pP eE sS mM bB tT cC
  refine oGo.aload_n (pc' := 1) d26_0 rfl rfl rfl ?_
  refine oGo.aload_n (pc' := 2) d26_1 rfl rfl rfl ?_
  refine oGo.aconst_null (pc' := 3) d26_2 rfl ?_
  refine oGo.invokespecial (pc' := 6) (k' := 1) (n' := 9) (a := x) (argsL := [.ref sb, .null]) (rest := []) d26_3 rfl rfl (w152 hG) (w153 hG) (w5 hG) (w154 hG) (by decide) pd19 rfl rfl rfl (c_strASB hG x sb b cs cap hN hne hcs u w0 hxs h SB EX G1 G2) (by simp) (by decide) (Nat.le_of_ble_eq_true rfl) rfl rfl (by decide) (by decide) ?_
  intro v1 h2 sh2 q3
  obtain ⟨rfl, hq⟩ := q3
  refine ⟨_, fun _ hx => Or.inl hx, ?_⟩
  show oGo l Z a0 EL True pP eE sS mM _ bB tT cC _ _ _ _ _ _ _ _ [x] h2 1 9 6 #[.val (.ref x), .val (.ref sb)] []
  exact oGo.return_ d26_6 rfl (by decide) (by decide) ⟨rfl, hq⟩ (fun _ q => q.elim)
abbrev q_toStr (Z : State) (h : Heap) (cs : List Int32) : Option Value → Heap → Prop := fun v h' => Keep h h' [] ∧ ∃ x t : Nat, v = some (.ref x) ∧ h.size ≤ x ∧ h.size ≤ t ∧ oS Z h' x t cs
set_option maxRecDepth 65536 in
set_option maxHeartbeats 4000000 in
theorem c_toStr {l : Launch} {Z : State} {a0 : Array Value} {EL : List (String × Nat)} (hG : oG a0 Z EL) (sb b : Nat) (cs : List Int32) (cap : Nat) (hN : cs.length ≤ 9) (hne : cs.length < cap) (hcs : ∀ c ∈ cs, ¬ c < 0 ∧ ¬ 255 < c) (h : Heap) (SB : oSB Z h sb b cs cap) :
    oCtr [] l Z a0 EL True (⟨"java/lang/StringBuilder", "toString", "()Ljava/lang/String;"⟩ : MethodName) jdk_67_method_42_code 1 (some (.object "java/lang/String")) ({ frames := 5, cells := 2, slots := 13, locals := 79 } : Room) #[.ref sb] [] h ((q_toStr Z h cs)) oNo := by
  have hsl := own_ltN SB.1.lt
  have hbl : b < h.size := by obtain ⟨_, _, _, _, _, B, _⟩ := SB; exact own_ltN B.lt
  refine oCtr.enter (Ls := #[.val (.ref sb)]) (plainFor_of_name pn4) hG.2.1 (fun m => by first | (simp [entryFrame, mkF, argsToLocals, Value.category]; done) | rfl) ?_
  intro pP eE sS mM bB tT cC
  refine oGo.new (pc' := 3) (k' := 1) (n' := 4) d25_0 rfl (w148 hG) (w4 hG) (w5 hG) rfl rfl (by decide) (by decide) ?_
  intro h1 a2 qa2 la2 E3 X4 F5
  have f6 := F5 (Or.inr (w29 hG)) (ty := .byte) (by decide)
  have f7 := F5 (Or.inr (w31 hG)) (ty := (.array .byte)) (by decide)
  refine oGo.dup (pc' := 4) d25_3 rfl rfl ?_
  refine oGo.aload_n (pc' := 5) d25_4 rfl rfl rfl ?_
  have f8 := SB.ext E3
  refine oGo.invokespecial (pc' := 8) (k' := 2) (n' := 13) (a := a2) (argsL := [.ref sb]) (rest := [.ref a2]) d25_5 rfl rfl (w149 hG) (w150 hG) (w5 hG) (w151 hG) (by decide) pd20 rfl rfl rfl (c_strSB hG a2 sb b cs cap hN hne hcs _ _ (by omega) _ f8 X4 f7 f6) (by simp) (by decide) (Nat.le_of_ble_eq_true rfl) rfl rfl (by decide) (by decide) ?_
  intro v9 h10 sh10 q11
  obtain ⟨rfl, K2, t, ht, S2⟩ := q11
  refine ⟨_, fun _ hx => Or.inl hx, ?_⟩
  show oGo l Z a0 EL True pP eE sS mM _ bB tT cC _ _ _ _ _ _ _ _ [a2] h10 2 13 8 #[.val (.ref sb)] [.ref a2]
  exact oGo.areturn d25_8 rfl rfl rfl rfl (by decide) (by decide) ⟨((Keep.refl h []).ext E3).trans K2 (own_new1 (by omega)), a2, t, rfl, by omega, by omega, S2⟩ (fun _ q => q.elim)
theorem own_bdA {hs ds : List Int32} (h1 : ∀ c ∈ hs, ¬ c < 0 ∧ ¬ 255 < c) (h2 : ∀ c ∈ ds, ¬ c < 0 ∧ ¬ 255 < c) : ∀ c ∈ hs ++ [58] ++ ds, ¬ c < 0 ∧ ¬ 255 < c := by
  intro c hc
  rcases List.mem_append.mp hc with hc | hc
  · rcases List.mem_append.mp hc with hc | hc
    · exact h1 c hc
    · rw [List.mem_singleton.mp hc]; decide
  · exact h2 c hc
theorem own_sub1 {i : Nat} (h : 1 ≤ i) (hi : i < 2147483648) : Int32.ofNat i - 1 = Int32.ofNat (i - 1) := own_subN (i := 1) h hi
theorem own_pow_ne {k : Nat} (h : k ≤ 4) : Int32.ofNat (10 ^ k) ≠ 0 := by
  rcases (show k = 0 ∨ k = 1 ∨ k = 2 ∨ k = 3 ∨ k = 4 by omega) with rfl | rfl | rfl | rfl | rfl <;> decide
theorem own_divN {a b : Nat} (ha : a < 2147483648) (hb : b < 2147483648) : Int32.ofNat a / Int32.ofNat b = Int32.ofNat (a / b) := by
  apply Int32.toInt_inj.mp
  have h1 := own_i32 ha
  have h2 := own_i32 hb
  have h3 := own_i32 (i := a / b) (Nat.lt_of_le_of_lt (Nat.div_le_self a b) ha)
  rw [Int32.toInt_div_of_ne_right _ _ (fun q => by have := congrArg Int32.toInt q; rw [h2, show (-1 : Int32).toInt = -1 from by decide] at this; omega), h1, h2, h3, Int.tdiv_eq_ediv_of_nonneg (by omega)]
  exact (Int.natCast_ediv a b).symm
theorem own_divp (p : Nat) {k : Nat} (h : k ≤ 4) (hp : p < 2147483648) : Int32.ofNat p / Int32.ofNat (10 ^ k) = Int32.ofNat (p / 10 ^ k) := by
  refine own_divN hp ?_
  rcases (show k = 0 ∨ k = 1 ∨ k = 2 ∨ k = 3 ∨ k = 4 by omega) with rfl | rfl | rfl | rfl | rfl <;> decide
theorem own_div_lt (p m : Nat) (hp : p < 2147483648) : p / m < 2147483648 := Nat.lt_of_le_of_lt (Nat.div_le_self p m) hp
theorem own_rem10 {a : Nat} (ha : a < 2147483648) : Int32.ofNat a % 10 = Int32.ofNat (a % 10) := by
  apply Int32.toInt_inj.mp
  have e : (10 : Int32).toInt = ((10 : Nat) : Int) := rfl
  rw [(c_irem (Int32.ofNat a) 10 (10 : Int) rfl).1 (by rw [own_i32 ha]; omega), own_i32 ha, own_i32 (i := a % 10) (by omega)]; omega
theorem own_c16 {n : Nat} (h : n < 128) : (Int32.ofNat n).toUInt32.toUInt16.toUInt32.toInt32 = Int32.ofNat n := by
  refine nar_char (own_nn (by omega)) ?_
  rw [show (65535 : Int32) = Int32.ofNat 65535 from rfl, own_lt (by omega) (by omega)]; omega
theorem own_at1 {as ds : List Int32} {i n : Nat} {c : Int32} (hc : as[i]? = some c) (h : i < n) : (as.take n ++ [58] ++ ds)[i]? = some c := by
  have hl : i < as.length := (List.getElem?_eq_some_iff.mp hc).1
  rw [List.append_assoc, List.getElem?_append_left (by rw [List.length_take]; omega), List.getElem?_take_of_lt h, hc]
theorem own_at2 {c0 c1 c2 : Int32} {ds : List Int32} {n : Nat} (h : n ≤ 3) : ([c0, c1, c2].take n ++ [58] ++ ds)[n]? = some 58 := by
  have hl : ([c0, c1, c2].take n).length = n := by simp; omega
  rw [List.append_assoc, List.getElem?_append_right (by omega), hl, Nat.sub_self]; rfl
theorem own_at3 {c0 c1 c2 : Int32} {p n nd i : Nat} (h : n ≤ 3) (h1 : ¬ i < n) (h2 : i ≠ n) (h3 : i < n + 1 + nd) : ([c0, c1, c2].take n ++ [58] ++ dgl p nd)[i]? = some (Int32.ofNat (48 + p / 10 ^ (nd - 1 - (i - n - 1)) % 10)) := by
  have hl : ([c0, c1, c2].take n ++ [58]).length = n + 1 := by simp; omega
  rw [List.getElem?_append_right (by omega), hl, show i - (n + 1) = i - n - 1 by omega]
  exact dgl_get p nd _ (by omega)
theorem own_and3 (x : Int32) : ∃ k : Nat, k < 4 ∧ x &&& 3 = Int32.ofNat k := by
  have h0 := own_ge0.mp (own_and_lo x 3 (by decide))
  have h1 := own_le.mp (own_and_hi x 3 (by decide))
  have e : (3 : Int32).toInt = 3 := rfl
  exact own_nat h0 (by omega)
theorem own_port (x : Int32) : ∃ q : Nat, q < 65535 ∧ (x &&& 2147483647) % 65535 = Int32.ofNat q := own_irem x 65535 65535 (by decide) (by decide) rfl
theorem own_1add (q : Nat) : 1 + Int32.ofNat q = Int32.ofNat (q + 1) := by rw [Int32.add_comm, own_succ]

set_option maxRecDepth 65536 in
set_option maxHeartbeats 4000000 in
theorem c_preCheck {l : Launch} {Z : State} {a0 : Array Value} {EL : List (String × Nat)} (hG : oG a0 Z EL) (i n : Int32) (fm : Value) (hf : fm.isRef = true) (h0 : ¬ i < 0) (h1 : i < n) (h : Heap)  :
    oCtr [] l Z a0 EL True (⟨"jdk/internal/util/Preconditions", "checkIndex", "(IILjava/util/function/BiFunction;)I"⟩ : MethodName) jdk_41_method_11_code 3 (some .int) ({ frames := 0, cells := 0, slots := 0, locals := 0 } : Room) #[.int i, .int n, fm] [] h (fun v h' => v = some (.int i) ∧ h' = h) oNo := by
  refine oCtr.enter (Ls := #[.val (.int i), .val (.int n), .val fm]) (plainFor_of_name pn6) hG.2.1 (fun m => by rcases ref_cases hf with rfl | ⟨_, rfl⟩ <;> first | (simp [entryFrame, mkF, argsToLocals, Value.category]; done) | rfl) ?_
  intro pP eE sS mM bB tT cC
  refine oGo.iload_n (pc' := 1) d40_0 rfl rfl ?_
  refine oGo.if_lt (pc1 := 4) (pc2 := 9) d40_1 rfl (by decide) (fun q => absurd q h0) (fun q1 => ?_)
  refine oGo.iload_n (pc' := 5) d40_4 rfl rfl ?_
  refine oGo.iload_n (pc' := 6) d40_5 rfl rfl ?_
  refine oGo.icmp_lt (pc1 := 9) (pc2 := 16) d40_6 rfl (by decide) (fun q2 => ?_) (fun q => absurd h1 q)
  refine oGo.iload_n (pc' := 17) d40_16 rfl rfl ?_
  exact oGo.ireturn d40_17 rfl (by decide) (by decide) ⟨rfl, rfl⟩ (fun _ q => q.elim)
set_option maxRecDepth 65536 in
set_option maxHeartbeats 4000000 in
theorem c_checkIndex {l : Launch} {Z : State} {a0 : Array Value} {EL : List (String × Nat)} (hG : oG a0 Z EL) (i n : Int32) (h0 : ¬ i < 0) (h1 : i < n) (h : Heap)  :
    oCtr [] l Z a0 EL True (⟨"java/lang/String", "checkIndex", "(II)V"⟩ : MethodName) jdk_42_method_155_code 2 none ({ frames := 1, cells := 0, slots := 0, locals := 14 } : Room) #[.int i, .int n] [] h (fun v h' => v = none ∧ h' = h) oNo := by
  obtain ⟨fm, hfs, hfr⟩ := sSIOOBE hG
  refine oCtr.enter (Ls := #[.val (.int i), .val (.int n)]) (plainFor_of_name pn1) hG.2.1 (fun m => by first | (simp [entryFrame, mkF, argsToLocals, Value.category]; done) | rfl) ?_
  intro pP eE sS mM bB tT cC
  refine oGo.iload_n (pc' := 1) d39_0 rfl rfl ?_
  refine oGo.iload_n (pc' := 2) d39_1 rfl rfl ?_
  refine oGo.getstatic (pc' := 5) d39_2 rfl (w206 hG) Via.refl hfs ?_
  refine oGo.invokestatic (pc' := 8) (k' := 0) (n' := 0) (argsL := [.int i, .int n, fm]) (rest := []) d39_5 rfl (w208 hG) (w209 hG) (w207 hG) (w210 hG) (by decide) pd21 rfl rfl rfl (c_preCheck hG i n fm hfr h0 h1 h) (by simp) (by decide) (Nat.le_of_ble_eq_true rfl) rfl rfl (by decide) (by decide) ?_
  intro v1 h2 sh2 q3
  obtain ⟨rfl, ee⟩ := q3
  obtain rfl := ee.symm
  refine ⟨_, fun _ hx => Or.inl hx, ?_⟩
  show oGo l Z a0 EL True pP eE sS mM _ bB tT cC _ _ _ _ _ _ _ _ [] h 0 0 8 #[.val (.int i), .val (.int n)] [.int i]
  refine oGo.pop (pc' := 9) d39_8 rfl rfl ?_
  exact oGo.return_ d39_9 rfl (by decide) (by decide) ⟨rfl, rfl⟩ (fun _ q => q.elim)
set_option maxRecDepth 65536 in
set_option maxHeartbeats 4000000 in
theorem c_isLatin1 {l : Launch} {Z : State} {a0 : Array Value} {EL : List (String × Nat)} (hG : oG a0 Z EL) (x : Nat) (cd : Int32) (h : Heap) (F : Fld Z h x "java/lang/String" "coder" "B" (.int cd)) :
    oCtr [] l Z a0 EL True (⟨"java/lang/String", "isLatin1", "()Z"⟩ : MethodName) jdk_42_method_154_code 1 (some .boolean) ({ frames := 0, cells := 0, slots := 0, locals := 0 } : Room) #[.ref x] [] h (fun v h' => v = some (.int (if cd = 0 then 1 else 0)) ∧ h' = h) oNo := by
  obtain ⟨z, hzs, hz⟩ := sCOMPACT hG
  refine oCtr.enter (Ls := #[.val (.ref x)]) (plainFor_of_name pn1) hG.2.1 (fun m => by first | (simp [entryFrame, mkF, argsToLocals, Value.category]; done) | rfl) ?_
  intro pP eE sS mM bB tT cC
  refine oGo.getstatic (pc' := 3) d37_0 rfl (w16 hG) Via.refl hzs ?_
  refine oGo.if_eq (pc1 := 6) (pc2 := 17) d37_3 rfl (by decide) (fun q => absurd q hz) (fun q1 => ?_)
  refine oGo.aload_n (pc' := 7) d37_6 rfl rfl rfl ?_
  refine oGo.getfield (pc' := 10) d37_7 rfl (w28 hG) Via.refl F ?_
  refine oGo.if_ne (pc1 := 13) (pc2 := 17) d37_10 rfl (by decide) (fun q => ?_) (fun q => ?_)
  · refine oGo.iconst (pc' := 18) (v := 0) d37_17 rfl (by decide) ?_
    exact oGo.nreturn d37_18 rfl (by simp) rfl (by decide) (by decide) ⟨by rw [if_neg q]; rfl, rfl⟩ (fun _ q => q.elim)
  · refine oGo.iconst (pc' := 14) (v := 1) d37_13 rfl (by decide) ?_
    refine oGo.goto (pc' := 18) d37_14 (by decide) ?_
    exact oGo.nreturn d37_18 rfl (by simp) rfl (by decide) (by decide) ⟨by rw [if_pos q]; rfl, rfl⟩ (fun _ q => q.elim)
set_option maxRecDepth 65536 in
set_option maxHeartbeats 4000000 in
theorem c_latCharAt {l : Launch} {Z : State} {a0 : Array Value} {EL : List (String × Nat)} (hG : oG a0 Z EL) (t : Nat) (cs : List Int32) (i : Nat) (c : Int32) (hc : ¬ c < 0 ∧ ¬ 255 < c) (hi : cs[i]? = some c) (h : Heap) (B : oArr Z h t .byte (oI (cs.map lo8))) :
    oCtr [] l Z a0 EL True (⟨"java/lang/StringLatin1", "charAt", "([BI)C"⟩ : MethodName) jdk_43_method_2_code 2 (some .char) ({ frames := 2, cells := 0, slots := 0, locals := 27 } : Room) #[.ref t, .int (Int32.ofNat i)] [] h (fun v h' => v = some (.int c) ∧ h' = h) oNo := by
  have hl : i < cs.length := (List.getElem?_eq_some_iff.mp hi).1
  have hb31 : cs.length < 2147483648 := by obtain ⟨_, _, _, q, _⟩ := B; simpa using q
  refine oCtr.enter (Ls := #[.val (.ref t), .val (.int (Int32.ofNat i))]) (plainFor_of_name pn7) hG.2.1 (fun m => by first | (simp [entryFrame, mkF, argsToLocals, Value.category]; done) | rfl) ?_
  intro pP eE sS mM bB tT cC
  refine oGo.iload_n (pc' := 1) d38_0 rfl rfl ?_
  refine oGo.aload_n (pc' := 2) d38_1 rfl rfl rfl ?_
  refine oGo.arraylength (pc' := 3) (z := (Int32.ofNat cs.length)) d38_2 rfl B (by rw [List.length_map, List.length_map]) ?_
  refine oGo.invokestatic (pc' := 6) (k' := 0) (n' := 0) (argsL := [.int (Int32.ofNat i), .int (Int32.ofNat cs.length)]) (rest := []) d38_3 rfl (w203 hG) (w204 hG) (w5 hG) (w205 hG) (by decide) pd5 rfl rfl rfl (c_checkIndex hG _ _ (own_nn (by omega)) ((own_lt (by omega) hb31).mpr hl) h) (by simp) (by decide) (Nat.le_of_ble_eq_true rfl) rfl rfl (by decide) (by decide) ?_
  intro v1 h2 sh2 q3
  obtain ⟨rfl, ee⟩ := q3
  obtain rfl := ee.symm
  refine ⟨_, fun _ hx => Or.inl hx, ?_⟩
  show oGo l Z a0 EL True pP eE sS mM _ bB tT cC _ _ _ _ _ _ _ _ [] h 0 0 6 #[.val (.ref t), .val (.int (Int32.ofNat i))] []
  refine oGo.aload_n (pc' := 7) d38_6 rfl rfl rfl ?_
  refine oGo.iload_n (pc' := 8) d38_7 rfl rfl ?_
  refine oGo.baload (pc' := 9) (i := i) d38_8 rfl B rfl (v := .int (lo8 c)) (by simp [hi]) ?_
  refine oGo.sipush (pc' := 12) (v := 255) d38_9 rfl (by decide) ?_
  refine oGo.iand (pc' := 13) d38_12 rfl ?_
  refine oGo.i2c (pc' := 14) d38_13 rfl ?_
  exact oGo.nreturn d38_14 rfl (by simp) (lat_says hc.1 hc.2) (by decide) (by decide) ⟨rfl, rfl⟩ (fun _ q => q.elim)
set_option maxRecDepth 65536 in
set_option maxHeartbeats 4000000 in
theorem c_charAt {l : Launch} {Z : State} {a0 : Array Value} {EL : List (String × Nat)} (hG : oG a0 Z EL) (x t : Nat) (cs : List Int32) (i : Nat) (c : Int32) (hi : cs[i]? = some c) (h : Heap) (Sx : oS Z h x t cs) :
    oCtr [] l Z a0 EL True (⟨"java/lang/String", "charAt", "(I)C"⟩ : MethodName) jdk_42_method_56_code 2 (some .char) ({ frames := 3, cells := 0, slots := 0, locals := 40 } : Room) #[.ref x, .int (Int32.ofNat i)] [] h (fun v h' => v = some (.int c) ∧ h' = h) oNo := by
  have hc := Sx.2.2.2.2 c (List.mem_of_getElem? hi)
  refine oCtr.enter (Ls := #[.val (.ref x), .val (.int (Int32.ofNat i))]) (plainFor_of_name pn1) hG.2.1 (fun m => by first | (simp [entryFrame, mkF, argsToLocals, Value.category]; done) | rfl) ?_
  intro pP eE sS mM bB tT cC
  refine oGo.aload_n (pc' := 1) d36_0 rfl rfl rfl ?_
  refine oGo.invokevirtual (pc' := 4) (k' := 0) (n' := 0) (a := x) (argsL := []) (rest := []) d36_1 rfl (w194 hG) (w195 hG) (w197 hG) (w197 hG) rfl (w196 hG) (w5 hG) (w198 hG) (by decide) pd15 rfl rfl rfl Sx.1 (c_isLatin1 hG x 0 h Sx.2.2.1) (by simp) (by decide) (Nat.le_of_ble_eq_true rfl) rfl rfl (by decide) (by decide) ?_
  intro v1 h2 sh2 q3
  obtain ⟨rfl, ee⟩ := q3
  obtain rfl := ee.symm
  refine ⟨_, fun _ hx => Or.inl hx, ?_⟩
  show oGo l Z a0 EL True pP eE sS mM _ bB tT cC _ _ _ _ _ _ _ _ [] h 0 0 4 #[.val (.ref x), .val (.int (Int32.ofNat i))] [.int (1 : Int32)]
  refine oGo.if_eq (pc1 := 7) (pc2 := 16) d36_4 rfl (by decide) (fun q => by first | exact absurd q (by decide) | exact absurd (by decide) q) (fun q4 => ?_)
  refine oGo.aload_n (pc' := 8) d36_7 rfl rfl rfl ?_
  refine oGo.getfield (pc' := 11) d36_8 rfl (w30 hG) Via.refl Sx.2.1 ?_
  refine oGo.iload_n (pc' := 12) d36_11 rfl rfl ?_
  refine oGo.invokestatic (pc' := 15) (k' := 0) (n' := 0) (argsL := [.ref t, .int (Int32.ofNat i)]) (rest := []) d36_12 rfl (w199 hG) (w200 hG) (w201 hG) (w202 hG) (by decide) pd22 rfl rfl rfl (c_latCharAt hG t cs i c hc hi h Sx.2.2.2.1) (by simp) (by decide) (Nat.le_of_ble_eq_true rfl) rfl rfl (by decide) (by decide) ?_
  intro v5 h6 sh6 q7
  obtain ⟨rfl, ee⟩ := q7
  obtain rfl := ee.symm
  refine ⟨_, fun _ hx => Or.inl hx, ?_⟩
  show oGo l Z a0 EL True pP eE sS mM _ bB tT cC _ _ _ _ _ _ _ _ [] h 0 0 15 #[.val (.ref x), .val (.int (Int32.ofNat i))] [.int c]
  exact oGo.nreturn d36_15 rfl (by simp) (nar_char hc.1 (own_255 hc.2)) (by decide) (by decide) ⟨rfl, rfl⟩ (fun _ q => q.elim)
set_option maxRecDepth 65536 in
set_option maxHeartbeats 4000000 in
theorem c_record {l : Launch} {Z : State} {a0 : Array Value} {EL : List (String × Nat)} (hG : oG a0 Z EL) (x : Nat) (h : Heap)  :
    oCtr [] l Z a0 EL True (⟨"java/lang/Record", "<init>", "()V"⟩ : MethodName) jdk_30_method_1_code 1 none ({ frames := 1, cells := 0, slots := 0, locals := 12 } : Room) #[.ref x] [] h (fun v h' => v = none ∧ h' = h) oNo := by
  refine oCtr.enter (Ls := #[.val (.ref x)]) (plainFor_of_name pn8) hG.2.1 (fun m => by first | (simp [entryFrame, mkF, argsToLocals, Value.category]; done) | rfl) ?_
  intro pP eE sS mM bB tT cC
  refine oGo.aload_n (pc' := 1) d8_0 rfl rfl rfl ?_
  refine oGo.objinit (pc' := 4) d8_1 rfl (w43 hG) (w14 hG) (w15 hG) rfl (by decide) (Nat.le_of_ble_eq_true rfl) ?_
  exact oGo.return_ d8_4 rfl (by decide) (by decide) ⟨rfl, rfl⟩ (fun _ q => q.elim)
set_option maxRecDepth 65536 in
set_option maxHeartbeats 4000000 in
theorem c_wa {l : Launch} {Z : State} {a0 : Array Value} {EL : List (String × Nat)} (hG : oG a0 Z EL) (wa p : Nat) (z : Int32) (h : Heap) (E : Exa Z h wa "com/example/meander/meander/cluster/WorkerAddress") (F1 : Fld Z h wa "com/example/meander/meander/cluster/WorkerAddress" "host" "Ljava/lang/String;" .null) (F2 : Fld Z h wa "com/example/meander/meander/cluster/WorkerAddress" "port" "I" (.int 0)) :
    oCtr [] l Z a0 EL True (⟨"com/example/meander/meander/cluster/WorkerAddress", "<init>", "(Ljava/lang/String;I)V"⟩ : MethodName) prog_5_method_1_code 3 none ({ frames := 2, cells := 0, slots := 0, locals := 24 } : Room) #[.ref wa, .ref p, .int z] [wa] h (fun v h' => v = none ∧ Keep h h' [wa] ∧ Exa Z h' wa "com/example/meander/meander/cluster/WorkerAddress" ∧ Fld Z h' wa "com/example/meander/meander/cluster/WorkerAddress" "host" "Ljava/lang/String;" (.ref p) ∧ Fld Z h' wa "com/example/meander/meander/cluster/WorkerAddress" "port" "I" (.int z)) oNo := by
  refine oCtr.enter (Ls := #[.val (.ref wa), .val (.ref p), .val (.int z)]) (plainFor_of_name pn9) hG.2.1 (fun m => by first | (simp [entryFrame, mkF, argsToLocals, Value.category]; done) | rfl) ?_
  intro pP eE sS mM bB tT cC
  refine oGo.aload_n (pc' := 1) d7_0 rfl rfl rfl ?_
  refine oGo.invokespecial (pc' := 4) (k' := 0) (n' := 0) (a := wa) (argsL := []) (rest := []) d7_1 rfl rfl (w38 hG) (w39 hG) (w41 hG) (w42 hG) (by decide) pd23 rfl rfl rfl (c_record hG wa h) (by simp) (by decide) (Nat.le_of_ble_eq_true rfl) rfl rfl (by decide) (by decide) ?_
  intro v1 h2 sh2 q3
  obtain ⟨rfl, ee⟩ := q3
  obtain rfl := ee.symm
  refine ⟨_, fun _ hx => Or.inl hx, ?_⟩
  show oGo l Z a0 EL True pP eE sS mM _ bB tT cC _ _ _ _ _ _ _ _ [wa] h 0 0 4 #[.val (.ref wa), .val (.ref p), .val (.int z)] []
  refine oGo.aload_n (pc' := 5) d7_4 rfl rfl rfl ?_
  refine oGo.aload_n (pc' := 6) d7_5 rfl rfl rfl ?_
  refine oGo.putfield (pc' := 9) (ty := (.object "java/lang/String")) d7_6 rfl (w44 hG) Via.refl F1 E (Or.inr ⟨(w45 hG), rfl, rfl⟩) (w33 hG) (by decide) rfl rfl (by simp) ?_
  intro h4 W5 sh4
  have f6 := Fld.same W5 F1
  refine oGo.aload_n (pc' := 10) d7_9 rfl rfl rfl ?_
  refine oGo.iload_n (pc' := 11) d7_10 rfl rfl ?_
  have f7 := Fld.other W5 F2 (Or.inr (slot_ne (C := "com/example/meander/meander/cluster/WorkerAddress") (Or.inr (w47 hG)) (Or.inr (w45 hG)) (by decide) (t := .int) (t' := (.object "java/lang/String")) (by decide) (by decide)))
  have f8 := Exa.wr W5 E
  refine oGo.putfield (pc' := 14) (ty := .int) d7_11 rfl (w46 hG) Via.refl f7 f8 (Or.inr ⟨(w47 hG), rfl, rfl⟩) (w33 hG) (by decide) rfl rfl (by simp) ?_
  intro h9 W10 sh9
  have f11 := Fld.same W10 f7
  have f12 := Exa.wr W10 f8
  have f13 := Fld.other W10 f6 (Or.inr (slot_ne (C := "com/example/meander/meander/cluster/WorkerAddress") (Or.inr (w45 hG)) (Or.inr (w47 hG)) (by decide) (t := (.object "java/lang/String")) (t' := .int) (by decide) (by decide)))
  exact oGo.return_ d7_14 rfl (by decide) (by decide) ⟨rfl, (((Keep.refl h [wa]).wr W5 (Or.inl (by simp))).wr W10 (Or.inl (by simp))), f12, f13, f11⟩ (fun _ q => q.elim)
set_option maxRecDepth 65536 in
set_option maxHeartbeats 4000000 in
theorem c_ts {l : Launch} {Z : State} {a0 : Array Value} {EL : List (String × Nat)} (hG : oG a0 Z EL) (wa p tp q n dO dT : Nat) (hs : List Int32) (hl : hs.length ≤ 3) (hq : q ≤ 65535) (hn : ndF q = n) (h : Heap) (F1 : Fld Z h wa "com/example/meander/meander/cluster/WorkerAddress" "host" "Ljava/lang/String;" (.ref p)) (F2 : Fld Z h wa "com/example/meander/meander/cluster/WorkerAddress" "port" "I" (.int (Int32.ofNat q))) (Sp : oS Z h p tp hs) (SO : Sta Z Z.heap "java/lang/Integer" "DigitOnes" "[B" (.ref dO)) (ST : Sta Z Z.heap "java/lang/Integer" "DigitTens" "[B" (.ref dT)) (AO : oArr Z h dO .byte (oTab (fun j => 48 + j % 10))) (AT : oArr Z h dT .byte (oTab (fun j => 48 + j / 10))) :
    oCtr [] l Z a0 EL True (⟨"com/example/meander/meander/cluster/WorkerAddress", "toString", "()Ljava/lang/String;"⟩ : MethodName) prog_5_method_3_code 1 (some (.object "java/lang/String")) ({ frames := 6, cells := 8, slots := 100, locals := 91 } : Room) #[.ref wa] [] h ((q_toStr Z h (hs ++ [58] ++ dgl q n))) oNo := by
  have lwa := own_ltN F1.lt
  have lp := own_ltN Sp.1.lt
  have ltp := own_ltN Sp.2.2.2.1.lt
  have lO := own_ltN AO.lt
  have lT := own_ltN AT.lt
  have hn5 : n ≤ 5 := by rcases nd_cases hn (by omega) with h1 | h1 | h1 | h1 | h1 <;> omega
  refine oCtr.enter (Ls := #[.val (.ref wa)]) (plainFor_of_name pn9) hG.2.1 (fun m => by first | (simp [entryFrame, mkF, argsToLocals, Value.category]; done) | rfl) ?_
  intro pP eE sS mM bB tT cC
  refine oGo.new (pc' := 3) (k' := 1) (n' := 4) d9_0 rfl (w53 hG) (w54 hG) (w55 hG) rfl rfl (by decide) (by decide) ?_
  intro h1 a2 qa2 la2 E3 X4 F5
  have f6 := F5 (Or.inl (w68 hG)) (ty := (.array .byte)) (by decide)
  have f7 := F5 (Or.inl (w70 hG)) (ty := .byte) (by decide)
  have f8 := F5 (Or.inl (w92 hG)) (ty := .int) (by decide)
  refine oGo.dup (pc' := 4) d9_3 rfl rfl ?_
  refine oGo.invokespecial (pc' := 7) (k' := 2) (n' := 20) (a := a2) (argsL := []) (rest := [.ref a2]) d9_4 rfl rfl (w56 hG) (w57 hG) (w55 hG) (w58 hG) (by decide) pd23 rfl rfl rfl (c_sbInit hG a2 _ _ X4 f6 f7 f8) (by simp) (by decide) (Nat.le_of_ble_eq_true rfl) rfl rfl (by decide) (by decide) ?_
  intro v9 h10 sh10 q11
  obtain ⟨rfl, Kc0, bc0, hbc0, SBc0⟩ := q11
  have lbc0 : bc0 < h10.size := by obtain ⟨_, _, _, _, _, B, _⟩ := SBc0; exact own_ltN B.lt
  refine ⟨[bc0, a2], own_D1 (SBc0.2.1), ?_⟩
  show oGo l Z a0 EL True pP eE sS mM _ bB tT cC _ _ _ _ _ _ _ _ [bc0, a2] h10 2 20 7 #[.val (.ref wa)] [.ref a2]
  refine oGo.aload_n (pc' := 8) d9_7 rfl rfl rfl ?_
  have f12 := Fld.ext E3 F1
  have f13 := Fld.keep f12 Kc0 (own_nin1 (own_ne_ge (x := wa) (y := a2) lwa (own_ge_eq qa2)))
  refine oGo.getfield (pc' := 11) d9_8 rfl (w44 hG) Via.refl f13 ?_
  have f14 := Sp.ext E3
  have f15 := f14.keep Kc0 (own_nin1 (own_ne_ge (x := p) (y := a2) lp (own_ge_eq qa2))) (own_nin1 (own_ne_ge (x := tp) (y := a2) ltp (own_ge_eq qa2)))
  have g16 := own_lt_le (x := p) lp E3.1
  have g17 := own_lt_le (x := tp) ltp E3.1
  refine oGo.invokevirtual (pc' := 14) (k' := 2) (n' := 20) (a := a2) (argsL := [.ref p]) (rest := []) d9_11 rfl (w71 hG) (w72 hG) (w74 hG) (w74 hG) rfl (w73 hG) (w55 hG) (w75 hG) (by decide) pd24 rfl rfl rfl SBc0.1 (c_append hG a2 bc0 p tp ([]) (hs) 16 (by simp; omega) (by decide) ⟨(own_ne_ge (x := p) (y := a2) lp (own_ge_eq qa2)), (own_ne_ge (x := p) (y := bc0) g16 hbc0), (own_ne_ge (x := tp) (y := a2) ltp (own_ge_eq qa2)), (own_ne_ge (x := tp) (y := bc0) g17 hbc0)⟩ _ SBc0 f15) (by simp) (by decide) (Nat.le_of_ble_eq_true rfl) rfl rfl (by decide) (by decide) ?_
  intro v18 h19 sh19 q20
  obtain ⟨rfl, Kc1, SBc1'⟩ := q20
  have SBc1 : oSB Z h19 a2 bc0 (hs) 16 := SBc1'
  refine ⟨_, fun _ hx => Or.inl hx, ?_⟩
  show oGo l Z a0 EL True pP eE sS mM _ bB tT cC _ _ _ _ _ _ _ _ [bc0, a2] h19 2 20 14 #[.val (.ref wa)] [.ref a2]
  refine oGo.ldc_str (pc' := 16) (k' := 4) (n' := 28) (vs := oI (([58] : List Int32).map lo8)) d9_14 rfl trivial (w118 hG) (strAt hG) (hG.2.2.2 _ (by decide)) (by decide) (by decide) rfl rfl (by decide) (by decide) ?_
  intro h21 a22 b23 E24 Xa22 Ca22 Va22 Ba22 la22 lb23 na22
  have S25 : oS Z h21 a22 b23 [58] := ⟨Xa22, Va22, Ca22, Ba22, by decide⟩
  have f26 := SBc1.ext E24
  have f30 := Exa.ext E24 SBc1.1
  refine oGo.invokevirtual (pc' := 19) (k' := 4) (n' := 28) (a := a2) (argsL := [.ref a22]) (rest := []) d9_16 rfl (w71 hG) (w72 hG) (w74 hG) (w74 hG) rfl (w73 hG) (w55 hG) (w75 hG) (by decide) pd24 rfl rfl rfl f30 (c_append hG a2 bc0 a22 b23 (hs) ([58]) 16 (by simp; omega) (by decide) ⟨(Ne.symm (na22 a2 (by simp)).1), (Ne.symm (na22 bc0 (by simp)).1), (Ne.symm (na22 a2 (by simp)).2), (Ne.symm (na22 bc0 (by simp)).2)⟩ _ f26 S25) (by simp) (by decide) (Nat.le_of_ble_eq_true rfl) rfl rfl (by decide) (by decide) ?_
  intro v27 h28 sh28 q29
  obtain ⟨rfl, Kc2, SBc2'⟩ := q29
  have SBc2 : oSB Z h28 a2 bc0 (hs ++ [58]) 16 := SBc2'
  refine ⟨_, fun _ hx => Or.inl hx, ?_⟩
  show oGo l Z a0 EL True pP eE sS mM _ bB tT cC _ _ _ _ _ _ _ _ [bc0, a2] h28 4 28 19 #[.val (.ref wa)] [.ref a2]
  refine oGo.aload_n (pc' := 20) d9_19 rfl rfl rfl ?_
  have f31 := Fld.ext E3 F2
  have f32 := Fld.keep f31 Kc0 (own_nin1 (own_ne_ge (x := wa) (y := a2) lwa (own_ge_eq qa2)))
  have g34 := own_lt_le (x := wa) lwa E3.1
  have f33 := Fld.keep f32 Kc1 (own_nin2 (own_ne_ge (x := wa) (y := a2) lwa (own_ge_eq qa2)) (own_ne_ge (x := wa) (y := bc0) g34 hbc0))
  have f35 := Fld.ext E24 f33
  have f36 := Fld.keep f35 Kc2 (own_nin2 (own_ne_ge (x := wa) (y := a2) lwa (own_ge_eq qa2)) (own_ne_ge (x := wa) (y := bc0) g34 hbc0))
  refine oGo.getfield (pc' := 23) d9_20 rfl (w46 hG) Via.refl f36 ?_
  have g37 := own_lt_le (x := dO) lO E3.1
  have g38 := own_lt_le (x := dT) lT E3.1
  have f39 := oArr.ext E3 AO
  have f40 := oArr.keep f39 Kc0 (own_nin1 (own_ne_ge (x := dO) (y := a2) lO (own_ge_eq qa2)))
  have f41 := oArr.keep f40 Kc1 (own_nin2 (own_ne_ge (x := dO) (y := a2) lO (own_ge_eq qa2)) (own_ne_ge (x := dO) (y := bc0) g37 hbc0))
  have f42 := oArr.ext E24 f41
  have f43 := oArr.keep f42 Kc2 (own_nin2 (own_ne_ge (x := dO) (y := a2) lO (own_ge_eq qa2)) (own_ne_ge (x := dO) (y := bc0) g37 hbc0))
  have f44 := oArr.ext E3 AT
  have f45 := oArr.keep f44 Kc0 (own_nin1 (own_ne_ge (x := dT) (y := a2) lT (own_ge_eq qa2)))
  have f46 := oArr.keep f45 Kc1 (own_nin2 (own_ne_ge (x := dT) (y := a2) lT (own_ge_eq qa2)) (own_ne_ge (x := dT) (y := bc0) g38 hbc0))
  have f47 := oArr.ext E24 f46
  have f48 := oArr.keep f47 Kc2 (own_nin2 (own_ne_ge (x := dT) (y := a2) lT (own_ge_eq qa2)) (own_ne_ge (x := dT) (y := bc0) g38 hbc0))
  refine oGo.invokevirtual (pc' := 26) (k' := 4) (n' := 28) (a := a2) (argsL := [.int (Int32.ofNat q)]) (rest := []) d9_23 rfl (w121 hG) (w122 hG) (w124 hG) (w124 hG) rfl (w123 hG) (w55 hG) (w125 hG) (by decide) pd25 rfl rfl rfl SBc2.1 (c_appI hG a2 bc0 q n dO dT (hs ++ [58]) 16 hq hn (by simp; omega) (by decide) (own_ne_ge (x := dO) (y := bc0) g37 hbc0) (own_ne_ge (x := dT) (y := bc0) g38 hbc0) _ SBc2 SO ST f43 f48) (by simp) (by decide) (Nat.le_of_ble_eq_true rfl) rfl rfl (by decide) (by decide) ?_
  intro v49 h50 sh50 q51
  obtain ⟨rfl, Kc3, SBc3⟩ := q51
  refine ⟨_, fun _ hx => Or.inl hx, ?_⟩
  show oGo l Z a0 EL True pP eE sS mM _ bB tT cC _ _ _ _ _ _ _ _ [bc0, a2] h50 4 28 26 #[.val (.ref wa)] [.ref a2]
  refine oGo.invokevirtual (pc' := 29) (k' := 6) (n' := 41) (a := a2) (argsL := []) (rest := []) d9_26 rfl (w143 hG) (w144 hG) (w146 hG) (w146 hG) rfl (w145 hG) (w55 hG) (w147 hG) (by decide) pd26 rfl rfl rfl SBc3.1 (c_toStr hG a2 bc0 (hs ++ [58] ++ dgl q n) 16 (by simp [dgl_len]; omega) (by simp [dgl_len]; omega) (own_bdA Sp.2.2.2.2 (dgl_bd q n)) _ SBc3) (by simp) (by decide) (Nat.le_of_ble_eq_true rfl) rfl rfl (by decide) (by decide) ?_
  intro v52 h53 sh53 q54
  obtain ⟨Kz, xz, tz, rfl, gxz, gtz, Sz⟩ := q54
  refine ⟨_, fun _ hx => Or.inl hx, ?_⟩
  show oGo l Z a0 EL True pP eE sS mM _ bB tT cC _ _ _ _ _ _ _ _ [bc0, a2] h53 6 41 29 #[.val (.ref wa)] [.ref xz]
  have z55 := own_le_le (x := h.size) (Nat.le_refl _) E3.1
  have K56 : Keep h h53 [] := ((((((((Keep.refl h []).ext E3).trans Kc0 (own_new1 (own_le_le (x := h.size) (Nat.le_refl _) (own_ge_eq qa2)))).trans Kc1 (own_new2 (own_le_le (x := h.size) (Nat.le_refl _) (own_ge_eq qa2)) (own_le_le (x := h.size) z55 hbc0))).ext E24).trans Kc2 (own_new2 (own_le_le (x := h.size) (Nat.le_refl _) (own_ge_eq qa2)) (own_le_le (x := h.size) z55 hbc0))).trans Kc3 (own_new2 (own_le_le (x := h.size) (Nat.le_refl _) (own_ge_eq qa2)) (own_le_le (x := h.size) z55 hbc0))).trans Kz (by simp))
  have z57 := own_le_le (x := h.size) z55 Kc0.1
  have z58 := own_le_le (x := h.size) z57 Kc1.1
  have z59 := own_le_le (x := h.size) z58 E24.1
  have z60 := own_le_le (x := h.size) z59 Kc2.1
  have z61 := own_le_le (x := h.size) z60 Kc3.1
  exact oGo.areturn d9_29 rfl rfl rfl rfl (by decide) (by decide) ⟨K56, xz, tz, rfl, (own_le_le (x := h.size) z61 gxz), (own_le_le (x := h.size) z61 gtz), Sz⟩ (fun _ q => q.elim)
set_option maxRecDepth 65536 in
set_option maxHeartbeats 4000000 in
theorem c_pow10 {l : Launch} {Z : State} {a0 : Array Value} {EL : List (String × Nat)} (hG : oG a0 Z EL) (k : Nat) (hk : k ≤ 4) (h : Heap)  :
    oCtr [] l Z a0 EL True (⟨"com/example/meander/meander/cluster/WorkerAddressToStringPinLaw", "pow10", "(I)I"⟩ : MethodName) method_3_code 1 (some .int) ({ frames := 0, cells := 0, slots := 0, locals := 0 } : Room) #[.int (Int32.ofNat k)] [] h (fun v h' => v = some (.int (Int32.ofNat (10 ^ k))) ∧ h' = h) oNo := by
  refine oCtr.enter (Ls := #[.val (.int (Int32.ofNat k))]) (plainFor_of_name pn10) hG.2.1 (fun m => by first | (simp [entryFrame, mkF, argsToLocals, Value.category]; done) | rfl) ?_
  intro pP eE sS mM bB tT cC
  rcases (show k = 0 ∨ k = 1 ∨ k = 2 ∨ k = 3 ∨ k = 4 by omega) with rfl | rfl | rfl | rfl | rfl
  · show oGo l Z a0 EL True pP eE sS mM _ bB tT cC _ _ _ _ _ _ _ _ [] h 0 0 0 #[.val (.int (0 : Int32))] []
    refine oGo.iload_n (pc' := 1) d41_0 rfl rfl ?_
    refine oGo.if_gt (pc1 := 4) (pc2 := 6) d41_1 rfl (by decide) (fun q => by first | exact absurd q (by decide) | exact absurd (by decide) q) (fun q1 => ?_)
    refine oGo.iconst (pc' := 5) (v := 1) d41_4 rfl (by decide) ?_
    exact oGo.ireturn d41_5 rfl (by decide) (by decide) ⟨rfl, rfl⟩ (fun _ q => q.elim)
  · show oGo l Z a0 EL True pP eE sS mM _ bB tT cC _ _ _ _ _ _ _ _ [] h 0 0 0 #[.val (.int (1 : Int32))] []
    refine oGo.iload_n (pc' := 1) d41_0 rfl rfl ?_
    refine oGo.if_gt (pc1 := 4) (pc2 := 6) d41_1 rfl (by decide) (fun q2 => ?_) (fun q => by first | exact absurd q (by decide) | exact absurd (by decide) q)
    refine oGo.iload_n (pc' := 7) d41_6 rfl rfl ?_
    refine oGo.iconst (pc' := 8) (v := 1) d41_7 rfl (by decide) ?_
    refine oGo.icmp_ne (pc1 := 11) (pc2 := 14) d41_8 rfl (by decide) (fun q => by first | exact absurd q (by decide) | exact absurd (by decide) q) (fun q3 => ?_)
    refine oGo.bipush (pc' := 13) (v := 10) d41_11 rfl (by decide) ?_
    exact oGo.ireturn d41_13 rfl (by decide) (by decide) ⟨rfl, rfl⟩ (fun _ q => q.elim)
  · show oGo l Z a0 EL True pP eE sS mM _ bB tT cC _ _ _ _ _ _ _ _ [] h 0 0 0 #[.val (.int (2 : Int32))] []
    refine oGo.iload_n (pc' := 1) d41_0 rfl rfl ?_
    refine oGo.if_gt (pc1 := 4) (pc2 := 6) d41_1 rfl (by decide) (fun q4 => ?_) (fun q => by first | exact absurd q (by decide) | exact absurd (by decide) q)
    refine oGo.iload_n (pc' := 7) d41_6 rfl rfl ?_
    refine oGo.iconst (pc' := 8) (v := 1) d41_7 rfl (by decide) ?_
    refine oGo.icmp_ne (pc1 := 11) (pc2 := 14) d41_8 rfl (by decide) (fun q5 => ?_) (fun q => by first | exact absurd q (by decide) | exact absurd (by decide) q)
    refine oGo.iload_n (pc' := 15) d41_14 rfl rfl ?_
    refine oGo.iconst (pc' := 16) (v := 2) d41_15 rfl (by decide) ?_
    refine oGo.icmp_ne (pc1 := 19) (pc2 := 22) d41_16 rfl (by decide) (fun q => by first | exact absurd q (by decide) | exact absurd (by decide) q) (fun q6 => ?_)
    refine oGo.bipush (pc' := 21) (v := 100) d41_19 rfl (by decide) ?_
    exact oGo.ireturn d41_21 rfl (by decide) (by decide) ⟨rfl, rfl⟩ (fun _ q => q.elim)
  · show oGo l Z a0 EL True pP eE sS mM _ bB tT cC _ _ _ _ _ _ _ _ [] h 0 0 0 #[.val (.int (3 : Int32))] []
    refine oGo.iload_n (pc' := 1) d41_0 rfl rfl ?_
    refine oGo.if_gt (pc1 := 4) (pc2 := 6) d41_1 rfl (by decide) (fun q7 => ?_) (fun q => by first | exact absurd q (by decide) | exact absurd (by decide) q)
    refine oGo.iload_n (pc' := 7) d41_6 rfl rfl ?_
    refine oGo.iconst (pc' := 8) (v := 1) d41_7 rfl (by decide) ?_
    refine oGo.icmp_ne (pc1 := 11) (pc2 := 14) d41_8 rfl (by decide) (fun q8 => ?_) (fun q => by first | exact absurd q (by decide) | exact absurd (by decide) q)
    refine oGo.iload_n (pc' := 15) d41_14 rfl rfl ?_
    refine oGo.iconst (pc' := 16) (v := 2) d41_15 rfl (by decide) ?_
    refine oGo.icmp_ne (pc1 := 19) (pc2 := 22) d41_16 rfl (by decide) (fun q9 => ?_) (fun q => by first | exact absurd q (by decide) | exact absurd (by decide) q)
    refine oGo.iload_n (pc' := 23) d41_22 rfl rfl ?_
    refine oGo.iconst (pc' := 24) (v := 3) d41_23 rfl (by decide) ?_
    refine oGo.icmp_ne (pc1 := 27) (pc2 := 31) d41_24 rfl (by decide) (fun q => by first | exact absurd q (by decide) | exact absurd (by decide) q) (fun q10 => ?_)
    refine oGo.sipush (pc' := 30) (v := 1000) d41_27 rfl (by decide) ?_
    exact oGo.ireturn d41_30 rfl (by decide) (by decide) ⟨rfl, rfl⟩ (fun _ q => q.elim)
  · show oGo l Z a0 EL True pP eE sS mM _ bB tT cC _ _ _ _ _ _ _ _ [] h 0 0 0 #[.val (.int (4 : Int32))] []
    refine oGo.iload_n (pc' := 1) d41_0 rfl rfl ?_
    refine oGo.if_gt (pc1 := 4) (pc2 := 6) d41_1 rfl (by decide) (fun q11 => ?_) (fun q => by first | exact absurd q (by decide) | exact absurd (by decide) q)
    refine oGo.iload_n (pc' := 7) d41_6 rfl rfl ?_
    refine oGo.iconst (pc' := 8) (v := 1) d41_7 rfl (by decide) ?_
    refine oGo.icmp_ne (pc1 := 11) (pc2 := 14) d41_8 rfl (by decide) (fun q12 => ?_) (fun q => by first | exact absurd q (by decide) | exact absurd (by decide) q)
    refine oGo.iload_n (pc' := 15) d41_14 rfl rfl ?_
    refine oGo.iconst (pc' := 16) (v := 2) d41_15 rfl (by decide) ?_
    refine oGo.icmp_ne (pc1 := 19) (pc2 := 22) d41_16 rfl (by decide) (fun q13 => ?_) (fun q => by first | exact absurd q (by decide) | exact absurd (by decide) q)
    refine oGo.iload_n (pc' := 23) d41_22 rfl rfl ?_
    refine oGo.iconst (pc' := 24) (v := 3) d41_23 rfl (by decide) ?_
    refine oGo.icmp_ne (pc1 := 27) (pc2 := 31) d41_24 rfl (by decide) (fun q14 => ?_) (fun q => by first | exact absurd q (by decide) | exact absurd (by decide) q)
    refine oGo.sipush (pc' := 34) (v := 10000) d41_31 rfl (by decide) ?_
    exact oGo.ireturn d41_34 rfl (by decide) (by decide) ⟨rfl, rfl⟩ (fun _ q => q.elim)
set_option maxRecDepth 65536 in
set_option maxHeartbeats 4000000 in
theorem c_at {l : Launch} {Z : State} {a0 : Array Value} {EL : List (String × Nat)} (hG : oG a0 Z EL) (r t al i n p nd : Nat) (c0 c1 c2 : Int32) (cs : List Int32) (hi : i < 9) (hn : n ≤ 3) (hp : p ≤ 65535) (h5 : nd ≤ 5) (hcs : cs = [c0, c1, c2].take n ++ [58] ++ dgl p nd) (h : Heap) (A : oArr Z h al .char (oI [c0, c1, c2])) (Sr : oS Z h r t cs) :
    oCtr [] l Z a0 EL True (⟨"com/example/meander/meander/cluster/WorkerAddressToStringPinLaw", "at", "(Ljava/lang/String;I[CIIII)Z"⟩ : MethodName) method_4_code 9 (some .boolean) ({ frames := 4, cells := 0, slots := 0, locals := 53 } : Room) #[.ref r, .int (Int32.ofNat i), .ref al, .int (Int32.ofNat n), .int (Int32.ofNat p), .int (Int32.ofNat nd), .int (Int32.ofNat (n + 1 + nd))] [] h (fun v h' => v = some (.int 1) ∧ h' = h) oNo := by
  refine oCtr.enter (Ls := #[.val (.ref r), .val (.int (Int32.ofNat i)), .val (.ref al), .val (.int (Int32.ofNat n)), .val (.int (Int32.ofNat p)), .val (.int (Int32.ofNat nd)), .val (.int (Int32.ofNat (n + 1 + nd))), .unset, .unset]) (plainFor_of_name pn10) hG.2.1 (fun m => by first | (simp [entryFrame, mkF, argsToLocals, Value.category]; done) | rfl) ?_
  intro pP eE sS mM bB tT cC
  refine oGo.iload_n (pc' := 1) d35_0 rfl rfl ?_
  refine oGo.iload (pc' := 3) d35_1 rfl rfl ?_
  refine oGo.icmp_lt (pc1 := 6) (pc2 := 8) d35_3 rfl (by decide) (fun q1 => ?_) (fun q1 => ?_)
  · have hit := (own_lt (by omega) (by omega)).mp q1
    refine oGo.iload_n (pc' := 9) d35_8 rfl rfl ?_
    refine oGo.iload_n (pc' := 10) d35_9 rfl rfl ?_
    refine oGo.icmp_ge (pc1 := 13) (pc2 := 21) d35_10 rfl (by decide) (fun q2 => ?_) (fun q2 => ?_)
    · have hin : ¬ i < n := fun q => q2 ((own_lt (by omega) (by omega)).mpr q)
      refine oGo.iload_n (pc' := 22) d35_21 rfl rfl ?_
      refine oGo.iload_n (pc' := 23) d35_22 rfl rfl ?_
      refine oGo.icmp_ne (pc1 := 26) (pc2 := 33) d35_23 rfl (by decide) (fun q3 => ?_) (fun q3 => ?_)
      · have hne : i ≠ n := fun q => q3 (by rw [q])
        refine oGo.iload_n (pc' := 34) d35_33 rfl rfl ?_
        refine oGo.iload_n (pc' := 35) d35_34 rfl rfl ?_
        refine oGo.isub (pc' := 36) d35_35 rfl ?_
        rw [own_subN (i := n) (j := i) (by omega) (by omega)]
        refine oGo.iconst (pc' := 37) (v := 1) d35_36 rfl (by decide) ?_
        refine oGo.isub (pc' := 38) d35_37 rfl ?_
        rw [own_sub1 (i := i - n) (by omega) (by omega)]
        refine oGo.istore (pc' := 40) (Ls' := #[.val (.ref r), .val (.int (Int32.ofNat i)), .val (.ref al), .val (.int (Int32.ofNat n)), .val (.int (Int32.ofNat p)), .val (.int (Int32.ofNat nd)), .val (.int (Int32.ofNat (n + 1 + nd))), .unset, .val (.int (Int32.ofNat (i - n - 1)))]) d35_38 rfl rfl ?_
        refine oGo.bipush (pc' := 42) (v := 48) d35_40 rfl (by decide) ?_
        refine oGo.iload (pc' := 44) d35_42 rfl rfl ?_
        refine oGo.iload (pc' := 46) d35_44 rfl rfl ?_
        refine oGo.iconst (pc' := 47) (v := 1) d35_46 rfl (by decide) ?_
        refine oGo.isub (pc' := 48) d35_47 rfl ?_
        rw [own_sub1 (i := nd) (by omega) (by omega)]
        refine oGo.iload (pc' := 50) d35_48 rfl rfl ?_
        refine oGo.isub (pc' := 51) d35_50 rfl ?_
        rw [own_subN (i := i - n - 1) (j := nd - 1) (by omega) (by omega)]
        refine oGo.invokestatic (pc' := 54) (k' := 0) (n' := 0) (argsL := [.int (Int32.ofNat (nd - 1 - (i - n - 1)))]) (rest := [.int (Int32.ofNat p), .int (48 : Int32)]) d35_51 rfl (w211 hG) (w212 hG) (w187 hG) (w213 hG) (by decide) pd14 rfl rfl rfl (c_pow10 hG (nd - 1 - (i - n - 1)) (by omega) h) (by simp) (by decide) (Nat.le_of_ble_eq_true rfl) rfl rfl (by decide) (by decide) ?_
        intro v1 h2 sh2 q3
        obtain ⟨rfl, ee⟩ := q3
        obtain rfl := ee.symm
        refine ⟨_, fun _ hx => Or.inl hx, ?_⟩
        show oGo l Z a0 EL True pP eE sS mM _ bB tT cC _ _ _ _ _ _ _ _ [] h 0 0 54 #[.val (.ref r), .val (.int (Int32.ofNat i)), .val (.ref al), .val (.int (Int32.ofNat n)), .val (.int (Int32.ofNat p)), .val (.int (Int32.ofNat nd)), .val (.int (Int32.ofNat (n + 1 + nd))), .unset, .val (.int (Int32.ofNat (i - n - 1)))] [.int (Int32.ofNat (10 ^ (nd - 1 - (i - n - 1)))), .int (Int32.ofNat p), .int (48 : Int32)]
        have hk4 : nd - 1 - (i - n - 1) ≤ 4 := by omega
        refine oGo.idiv (pc' := 55) d35_54 rfl (own_pow_ne hk4) ?_
        rw [own_divp p hk4 (by omega)]
        refine oGo.bipush (pc' := 57) (v := 10) d35_55 rfl (by decide) ?_
        refine oGo.irem (pc' := 58) d35_57 rfl (by decide) ?_
        rw [own_rem10 (own_div_lt p _ (by omega))]
        refine oGo.iadd (pc' := 59) d35_58 rfl ?_
        rw [show (48 : Int32) + Int32.ofNat (p / 10 ^ (nd - 1 - (i - n - 1)) % 10) = Int32.ofNat (48 + p / 10 ^ (nd - 1 - (i - n - 1)) % 10) from (Int32.ofNat_add 48 _).symm]
        refine oGo.i2c (pc' := 60) d35_59 rfl ?_
        rw [own_c16 (n := 48 + p / 10 ^ (nd - 1 - (i - n - 1)) % 10) (by omega)]
        refine oGo.istore (pc' := 62) (Ls' := #[.val (.ref r), .val (.int (Int32.ofNat i)), .val (.ref al), .val (.int (Int32.ofNat n)), .val (.int (Int32.ofNat p)), .val (.int (Int32.ofNat nd)), .val (.int (Int32.ofNat (n + 1 + nd))), .val (.int (Int32.ofNat (48 + p / 10 ^ (nd - 1 - (i - n - 1)) % 10))), .val (.int (Int32.ofNat (i - n - 1)))]) d35_60 rfl rfl ?_
        refine oGo.aload_n (pc' := 63) d35_62 rfl rfl rfl ?_
        refine oGo.iload_n (pc' := 64) d35_63 rfl rfl ?_
        refine oGo.invokevirtual (pc' := 67) (k' := 0) (n' := 0) (a := r) (argsL := [.int (Int32.ofNat i)]) (rest := []) d35_64 rfl (w189 hG) (w190 hG) (w192 hG) (w192 hG) rfl (w191 hG) (w5 hG) (w193 hG) (by decide) pd27 rfl rfl rfl Sr.1 (c_charAt hG r t cs i (Int32.ofNat (48 + p / 10 ^ (nd - 1 - (i - n - 1)) % 10)) (by rw [hcs]; exact own_at3 hn hin hne hit) h Sr) (by simp) (by decide) (Nat.le_of_ble_eq_true rfl) rfl rfl (by decide) (by decide) ?_
        intro v4 h5 sh5 q6
        obtain ⟨rfl, ee⟩ := q6
        obtain rfl := ee.symm
        refine ⟨_, fun _ hx => Or.inl hx, ?_⟩
        show oGo l Z a0 EL True pP eE sS mM _ bB tT cC _ _ _ _ _ _ _ _ [] h 0 0 67 #[.val (.ref r), .val (.int (Int32.ofNat i)), .val (.ref al), .val (.int (Int32.ofNat n)), .val (.int (Int32.ofNat p)), .val (.int (Int32.ofNat nd)), .val (.int (Int32.ofNat (n + 1 + nd))), .val (.int (Int32.ofNat (48 + p / 10 ^ (nd - 1 - (i - n - 1)) % 10))), .val (.int (Int32.ofNat (i - n - 1)))] [.int (Int32.ofNat (48 + p / 10 ^ (nd - 1 - (i - n - 1)) % 10))]
        refine oGo.iload (pc' := 69) d35_67 rfl rfl ?_
        refine oGo.icmp_ne (pc1 := 72) (pc2 := 76) d35_69 rfl (by decide) (fun q => absurd rfl q) (fun q7 => ?_)
        refine oGo.iconst (pc' := 73) (v := 1) d35_72 rfl (by decide) ?_
        refine oGo.goto (pc' := 77) d35_73 (by decide) ?_
        exact oGo.nreturn d35_77 rfl (by simp) rfl (by decide) (by decide) ⟨rfl, rfl⟩ (fun _ q => q.elim)
      · have hie := (own_eq (by omega) (by omega)).mp q3
        refine oGo.bipush (pc' := 28) (v := 58) d35_26 rfl (by decide) ?_
        refine oGo.istore (pc' := 30) (Ls' := #[.val (.ref r), .val (.int (Int32.ofNat i)), .val (.ref al), .val (.int (Int32.ofNat n)), .val (.int (Int32.ofNat p)), .val (.int (Int32.ofNat nd)), .val (.int (Int32.ofNat (n + 1 + nd))), .val (.int (58 : Int32)), .unset]) d35_28 rfl rfl ?_
        refine oGo.goto (pc' := 62) d35_30 (by decide) ?_
        refine oGo.aload_n (pc' := 63) d35_62 rfl rfl rfl ?_
        refine oGo.iload_n (pc' := 64) d35_63 rfl rfl ?_
        refine oGo.invokevirtual (pc' := 67) (k' := 0) (n' := 0) (a := r) (argsL := [.int (Int32.ofNat i)]) (rest := []) d35_64 rfl (w189 hG) (w190 hG) (w192 hG) (w192 hG) rfl (w191 hG) (w5 hG) (w193 hG) (by decide) pd27 rfl rfl rfl Sr.1 (c_charAt hG r t cs i (58 : Int32) (by rw [hcs]; rw [hie]; exact own_at2 hn) h Sr) (by simp) (by decide) (Nat.le_of_ble_eq_true rfl) rfl rfl (by decide) (by decide) ?_
        intro v8 h9 sh9 q10
        obtain ⟨rfl, ee⟩ := q10
        obtain rfl := ee.symm
        refine ⟨_, fun _ hx => Or.inl hx, ?_⟩
        show oGo l Z a0 EL True pP eE sS mM _ bB tT cC _ _ _ _ _ _ _ _ [] h 0 0 67 #[.val (.ref r), .val (.int (Int32.ofNat i)), .val (.ref al), .val (.int (Int32.ofNat n)), .val (.int (Int32.ofNat p)), .val (.int (Int32.ofNat nd)), .val (.int (Int32.ofNat (n + 1 + nd))), .val (.int (58 : Int32)), .unset] [.int (58 : Int32)]
        refine oGo.iload (pc' := 69) d35_67 rfl rfl ?_
        refine oGo.icmp_ne (pc1 := 72) (pc2 := 76) d35_69 rfl (by decide) (fun q => absurd rfl q) (fun q11 => ?_)
        refine oGo.iconst (pc' := 73) (v := 1) d35_72 rfl (by decide) ?_
        refine oGo.goto (pc' := 77) d35_73 (by decide) ?_
        exact oGo.nreturn d35_77 rfl (by simp) rfl (by decide) (by decide) ⟨rfl, rfl⟩ (fun _ q => q.elim)
    · have hin := (own_lt (by omega) (by omega)).mp q2
      obtain ⟨c, hc⟩ : ∃ c, [c0, c1, c2][i]? = some c := ⟨_, List.getElem?_eq_getElem (by simp; omega)⟩
      refine oGo.aload_n (pc' := 14) d35_13 rfl rfl rfl ?_
      refine oGo.iload_n (pc' := 15) d35_14 rfl rfl ?_
      refine oGo.caload (pc' := 16) (i := i) d35_15 rfl A rfl (v := .int c) (by rw [List.getElem?_map, hc]; rfl) ?_
      refine oGo.istore (pc' := 18) (Ls' := #[.val (.ref r), .val (.int (Int32.ofNat i)), .val (.ref al), .val (.int (Int32.ofNat n)), .val (.int (Int32.ofNat p)), .val (.int (Int32.ofNat nd)), .val (.int (Int32.ofNat (n + 1 + nd))), .val (.int c), .unset]) d35_16 rfl rfl ?_
      refine oGo.goto (pc' := 62) d35_18 (by decide) ?_
      refine oGo.aload_n (pc' := 63) d35_62 rfl rfl rfl ?_
      refine oGo.iload_n (pc' := 64) d35_63 rfl rfl ?_
      refine oGo.invokevirtual (pc' := 67) (k' := 0) (n' := 0) (a := r) (argsL := [.int (Int32.ofNat i)]) (rest := []) d35_64 rfl (w189 hG) (w190 hG) (w192 hG) (w192 hG) rfl (w191 hG) (w5 hG) (w193 hG) (by decide) pd27 rfl rfl rfl Sr.1 (c_charAt hG r t cs i c (by rw [hcs]; exact own_at1 hc hin) h Sr) (by simp) (by decide) (Nat.le_of_ble_eq_true rfl) rfl rfl (by decide) (by decide) ?_
      intro v12 h13 sh13 q14
      obtain ⟨rfl, ee⟩ := q14
      obtain rfl := ee.symm
      refine ⟨_, fun _ hx => Or.inl hx, ?_⟩
      show oGo l Z a0 EL True pP eE sS mM _ bB tT cC _ _ _ _ _ _ _ _ [] h 0 0 67 #[.val (.ref r), .val (.int (Int32.ofNat i)), .val (.ref al), .val (.int (Int32.ofNat n)), .val (.int (Int32.ofNat p)), .val (.int (Int32.ofNat nd)), .val (.int (Int32.ofNat (n + 1 + nd))), .val (.int c), .unset] [.int c]
      refine oGo.iload (pc' := 69) d35_67 rfl rfl ?_
      refine oGo.icmp_ne (pc1 := 72) (pc2 := 76) d35_69 rfl (by decide) (fun q => absurd rfl q) (fun q15 => ?_)
      refine oGo.iconst (pc' := 73) (v := 1) d35_72 rfl (by decide) ?_
      refine oGo.goto (pc' := 77) d35_73 (by decide) ?_
      exact oGo.nreturn d35_77 rfl (by simp) rfl (by decide) (by decide) ⟨rfl, rfl⟩ (fun _ q => q.elim)
  · refine oGo.iconst (pc' := 7) (v := 1) d35_6 rfl (by decide) ?_
    exact oGo.nreturn d35_7 rfl (by simp) rfl (by decide) (by decide) ⟨rfl, rfl⟩ (fun _ q => q.elim)
set_option maxRecDepth 65536 in
set_option maxHeartbeats 4000000 in
theorem c_law {l : Launch} {Z : State} {a0 : Array Value} {EL : List (String × Nat)} (hG : oG a0 Z EL) (i0 i1 i2 i3 i4 : Int32) (h : Heap)  :
    oCtr tables_1 l Z a0 EL True (⟨"com/example/meander/meander/cluster/WorkerAddressToStringPinLaw", "law", "(IIIII)Z"⟩ : MethodName) code 13 (some .boolean) room_1 #[.int i0, .int i1, .int i2, .int i3, .int i4] [] h (fun v h' => v = some (.int 1)) oNo := by
  refine oCtr.enter (Ls := #[.val (.int i0), .val (.int i1), .val (.int i2), .val (.int i3), .val (.int i4), .unset, .unset, .unset, .unset, .unset, .unset, .unset, .unset]) (plainFor_of_name pn10) hG.2.1 (fun m => by first | (simp [entryFrame, mkF, argsToLocals, Value.category]; done) | rfl) ?_
  intro pP eE sS mM bB tT cC
  obtain ⟨dO, SO, AO⟩ := sONES hG
  obtain ⟨dT, ST, AT⟩ := sTENS hG
  refine oGo.old (fun hO1 hO1' => ?_)
  have f2 := oArr.ext hO1 AO
  refine oGo.old (fun hO3 hO3' => ?_)
  have f4 := oArr.ext hO3 AT
  refine oGo.iload_n (pc' := 1) at_0 rfl rfl ?_
  refine oGo.iconst (pc' := 2) (v := 3) at_1 rfl (by decide) ?_
  refine oGo.iand (pc' := 3) at_2 rfl ?_
  obtain ⟨n, hn, en⟩ := own_and3 i3
  rw [en]
  refine oGo.istore (pc' := 5) (Ls' := #[.val (.int i0), .val (.int i1), .val (.int i2), .val (.int i3), .val (.int i4), .val (.int (Int32.ofNat n)), .unset, .unset, .unset, .unset, .unset, .unset, .unset]) at_3 rfl rfl ?_
  refine oGo.iconst (pc' := 6) (v := 3) at_5 rfl (by decide) ?_
  refine oGo.newarray (pc' := 8) (k' := 1) (n' := 3) (i := 3) at_6 rfl (w0 hG) rfl 3 (by decide) (by decide) rfl rfl (by decide) (by decide) (by decide) ?_
  intro h5 a6 qa6 la6 E7 A8'
  have A8 : oArr Z h5 a6 .char (List.replicate (3) (.int 0)) := A8'
  refine oGo.dup (pc' := 9) at_8 rfl rfl ?_
  refine oGo.iconst (pc' := 10) (v := 0) at_9 rfl (by decide) ?_
  refine oGo.iload_n (pc' := 11) at_10 rfl rfl ?_
  refine oGo.sipush (pc' := 14) (v := 255) at_11 rfl (by decide) ?_
  refine oGo.iand (pc' := 15) at_14 rfl ?_
  refine oGo.i2c (pc' := 16) at_15 rfl ?_
  obtain ⟨c0, hc0⟩ : ∃ c, c = ((i0 &&& (255 : Int32)).toUInt32.toUInt16.toUInt32.toInt32) := ⟨_, rfl⟩
  rw [← hc0]
  have bc0 : ¬ c0 < 0 ∧ ¬ 255 < c0 := by rw [hc0]; exact own_b255 _
  refine oGo.castore (pc' := 17) (i := 0) (w := c0) at_16 rfl A8 rfl (by simp) (nar_char bc0.1 (own_255 bc0.2)) (by simp) ?_
  intro h9 W10 sh9 A11
  refine oGo.dup (pc' := 18) at_17 rfl rfl ?_
  refine oGo.iconst (pc' := 19) (v := 1) at_18 rfl (by decide) ?_
  refine oGo.iload_n (pc' := 20) at_19 rfl rfl ?_
  refine oGo.sipush (pc' := 23) (v := 255) at_20 rfl (by decide) ?_
  refine oGo.iand (pc' := 24) at_23 rfl ?_
  refine oGo.i2c (pc' := 25) at_24 rfl ?_
  obtain ⟨c1, hc1⟩ : ∃ c, c = ((i1 &&& (255 : Int32)).toUInt32.toUInt16.toUInt32.toInt32) := ⟨_, rfl⟩
  rw [← hc1]
  have bc1 : ¬ c1 < 0 ∧ ¬ 255 < c1 := by rw [hc1]; exact own_b255 _
  refine oGo.castore (pc' := 26) (i := 1) (w := c1) at_25 rfl A11 rfl (by simp) (nar_char bc1.1 (own_255 bc1.2)) (by simp) ?_
  intro h12 W13 sh12 A14
  refine oGo.dup (pc' := 27) at_26 rfl rfl ?_
  refine oGo.iconst (pc' := 28) (v := 2) at_27 rfl (by decide) ?_
  refine oGo.iload_n (pc' := 29) at_28 rfl rfl ?_
  refine oGo.sipush (pc' := 32) (v := 255) at_29 rfl (by decide) ?_
  refine oGo.iand (pc' := 33) at_32 rfl ?_
  refine oGo.i2c (pc' := 34) at_33 rfl ?_
  obtain ⟨c2, hc2⟩ : ∃ c, c = ((i2 &&& (255 : Int32)).toUInt32.toUInt16.toUInt32.toInt32) := ⟨_, rfl⟩
  rw [← hc2]
  have bc2 : ¬ c2 < 0 ∧ ¬ 255 < c2 := by rw [hc2]; exact own_b255 _
  refine oGo.castore (pc' := 35) (i := 2) (w := c2) at_34 rfl A14 rfl (by simp) (nar_char bc2.1 (own_255 bc2.2)) (by simp) ?_
  intro h15 W16 sh15 A17
  have A18 : oArr Z h15 a6 .char (oI [c0, c1, c2]) := A17
  refine oGo.astore (pc' := 37) (Ls' := #[.val (.int i0), .val (.int i1), .val (.int i2), .val (.int i3), .val (.int i4), .val (.int (Int32.ofNat n)), .val (.ref a6), .unset, .unset, .unset, .unset, .unset, .unset]) at_35 rfl rfl rfl ?_
  rcases (show n = 0 ∨ n = 1 ∨ n = 2 ∨ n = 3 by omega) with rfl | rfl | rfl | rfl
  · show oGo l Z a0 EL True pP eE sS mM _ bB tT cC _ _ _ _ _ _ _ _ [a6] h15 1 3 37 #[.val (.int i0), .val (.int i1), .val (.int i2), .val (.int i3), .val (.int i4), .val (.int (0 : Int32)), .val (.ref a6), .unset, .unset, .unset, .unset, .unset, .unset] []
    refine oGo.iload (pc' := 39) at_37 rfl rfl ?_
    refine oGo.if_ne (pc1 := 42) (pc2 := 50) at_39 rfl (by decide) (fun q => by first | exact absurd q (by decide) | exact absurd (by decide) q) (fun q19 => ?_)
    refine oGo.iconst (pc' := 43) (v := 0) at_42 rfl (by decide) ?_
    refine oGo.newarray (pc' := 45) (k' := 2) (n' := 3) (i := 0) at_43 rfl (w0 hG) rfl 0 (by decide) (by decide) rfl rfl (by decide) (by decide) (by decide) ?_
    intro h20 a21 qa21 la21 E22 A23'
    have A23 : oArr Z h20 a21 .char (List.replicate (0) (.int 0)) := A23'
    refine oGo.astore (pc' := 47) (Ls' := #[.val (.int i0), .val (.int i1), .val (.int i2), .val (.int i3), .val (.int i4), .val (.int (0 : Int32)), .val (.ref a6), .val (.ref a21), .unset, .unset, .unset, .unset, .unset]) at_45 rfl rfl rfl ?_
    refine oGo.goto (pc' := 125) at_47 (by decide) ?_
    refine oGo.iconst (pc' := 126) (v := 1) at_125 rfl (by decide) ?_
    refine oGo.iload (pc' := 128) at_126 rfl rfl ?_
    refine oGo.ldc_int (pc' := 130) at_128 rfl (w1 hG) ?_
    refine oGo.iand (pc' := 131) at_130 rfl ?_
    refine oGo.ldc_int (pc' := 133) at_131 rfl (w2 hG) ?_
    refine oGo.irem (pc' := 134) at_133 rfl (by decide) ?_
    obtain ⟨q, hq, eqp⟩ := own_port i4
    rw [eqp]
    refine oGo.iadd (pc' := 135) at_134 rfl ?_
    rw [own_1add]
    obtain ⟨p, hp⟩ : ∃ p, p = q + 1 := ⟨_, rfl⟩
    rw [← hp]
    obtain ⟨nd, hnd⟩ : ∃ nd, ndF p = nd := ⟨_, rfl⟩
    have hcs := nd_cases hnd (by omega)
    have h5 : nd ≤ 5 := by omega
    refine oGo.istore (pc' := 137) (Ls' := #[.val (.int i0), .val (.int i1), .val (.int i2), .val (.int i3), .val (.int i4), .val (.int (0 : Int32)), .val (.ref a6), .val (.ref a21), .val (.int (Int32.ofNat p)), .unset, .unset, .unset, .unset]) at_135 rfl rfl ?_
    refine oGo.new (pc' := 140) (k' := 3) (n' := 7) at_137 rfl (w3 hG) (w4 hG) (w5 hG) rfl rfl (by decide) (by decide) ?_
    intro h24 a25 qa25 la25 E26 X27 F28
    have f29 := F28 (Or.inr (w29 hG)) (ty := .byte) (by decide)
    have f30 := F28 (Or.inr (w31 hG)) (ty := (.array .byte)) (by decide)
    refine oGo.dup (pc' := 141) at_140 rfl rfl ?_
    refine oGo.aload (pc' := 143) at_141 rfl rfl rfl ?_
    have f31 := oArr.ext E26 A23
    have A32 : oArr Z h24 a21 .char (oI []) := f31
    refine oGo.invokespecial (pc' := 146) (k' := 7) (n' := 15) (a := a25) (argsL := [.ref a21]) (rest := [.ref a25]) at_143 rfl rfl (w6 hG) (w7 hG) (w5 hG) (w8 hG) (by decide) pd28 rfl rfl rfl (c_strI1 hG a25 a21 [] (by simp) (by simp) _ _ _ A32 X27 f30 f29) (by simp) (by decide) (Nat.le_of_ble_eq_true rfl) rfl rfl (by decide) (by decide) ?_
    intro v33 h34 sh34 q35
    obtain ⟨rfl, KX, tX, SX⟩ := q35
    have lxX := own_ltN SX.1.lt
    have ltX := own_ltN SX.2.2.2.1.lt
    refine ⟨_, fun _ hx => Or.inl hx, ?_⟩
    show oGo l Z a0 EL True pP eE sS mM _ bB tT cC _ _ _ _ _ _ _ _ [a25, a21, a6] h34 7 15 146 #[.val (.int i0), .val (.int i1), .val (.int i2), .val (.int i3), .val (.int i4), .val (.int (0 : Int32)), .val (.ref a6), .val (.ref a21), .val (.int (Int32.ofNat p)), .unset, .unset, .unset, .unset] [.ref a25]
    refine oGo.astore (pc' := 148) (Ls' := #[.val (.int i0), .val (.int i1), .val (.int i2), .val (.int i3), .val (.int i4), .val (.int (0 : Int32)), .val (.ref a6), .val (.ref a21), .val (.int (Int32.ofNat p)), .val (.ref a25), .unset, .unset, .unset]) at_146 rfl rfl rfl ?_
    refine oGo.new (pc' := 151) (k' := 8) (n' := 17) at_148 rfl (w32 hG) (w33 hG) (w34 hG) rfl rfl (by decide) (by decide) ?_
    intro h36 a37 qa37 la37 E38 X39 F40
    have f41 := F40 (Or.inr (w45 hG)) (ty := (.object "java/lang/String")) (by decide)
    have f42 := F40 (Or.inr (w47 hG)) (ty := .int) (by decide)
    refine oGo.dup (pc' := 152) at_151 rfl rfl ?_
    refine oGo.aload (pc' := 154) at_152 rfl rfl rfl ?_
    refine oGo.iload (pc' := 156) at_154 rfl rfl ?_
    refine oGo.invokespecial (pc' := 159) (k' := 8) (n' := 17) (a := a37) (argsL := [.ref a25, .int (Int32.ofNat p)]) (rest := [.ref a37]) at_156 rfl rfl (w35 hG) (w36 hG) (w34 hG) (w37 hG) (by decide) pd29 rfl rfl rfl (c_wa hG a37 a25 _ _ X39 f41 f42) (by simp) (by decide) (Nat.le_of_ble_eq_true rfl) rfl rfl (by decide) (by decide) ?_
    intro v43 h44 sh44 q45
    obtain ⟨rfl, KA, EA, GA1, GA2⟩ := q45
    refine ⟨_, fun _ hx => Or.inl hx, ?_⟩
    show oGo l Z a0 EL True pP eE sS mM _ bB tT cC _ _ _ _ _ _ _ _ [a37, a25, a21, a6] h44 8 17 159 #[.val (.int i0), .val (.int i1), .val (.int i2), .val (.int i3), .val (.int i4), .val (.int (0 : Int32)), .val (.ref a6), .val (.ref a21), .val (.int (Int32.ofNat p)), .val (.ref a25), .unset, .unset, .unset] [.ref a37]
    have f46 := SX.ext E38
    have g48 := own_lt_le (x := a25) la25 KX.1
    have f47 := f46.keep KA (own_nin1 (own_ne_ge (x := a25) (y := a37) g48 (own_ge_eq qa37))) (own_nin1 (own_ne_ge (x := tX) (y := a37) ltX (own_ge_eq qa37)))
    have f49 := oArr.ext E7 f2
    have f50 := oArr.other W10 f49 (own_ne_ge (x := dO) (y := a6) (own_ltN f2.lt) (own_ge_eq qa6))
    have f51 := oArr.other W13 f50 (own_ne_ge (x := dO) (y := a6) (own_ltN f2.lt) (own_ge_eq qa6))
    have f52 := oArr.other W16 f51 (own_ne_ge (x := dO) (y := a6) (own_ltN f2.lt) (own_ge_eq qa6))
    have f53 := oArr.ext E22 f52
    have f54 := oArr.ext E26 f53
    have g56 := own_lt_le (x := dO) (own_ltN f2.lt) E7.1
    have g57 := own_lt_le (x := dO) g56 (Nat.le_of_eq (Wr.size W10).symm)
    have g58 := own_lt_le (x := dO) g57 (Nat.le_of_eq (Wr.size W13).symm)
    have g59 := own_lt_le (x := dO) g58 (Nat.le_of_eq (Wr.size W16).symm)
    have g60 := own_lt_le (x := dO) g59 E22.1
    have f55 := oArr.keep f54 KX (own_nin1 (own_ne_ge (x := dO) (y := a25) g60 (own_ge_eq qa25)))
    have f61 := oArr.ext E38 f55
    have g63 := own_lt_le (x := dO) g60 E26.1
    have g64 := own_lt_le (x := dO) g63 KX.1
    have f62 := oArr.keep f61 KA (own_nin1 (own_ne_ge (x := dO) (y := a37) g64 (own_ge_eq qa37)))
    have f65 := oArr.ext E7 f4
    have f66 := oArr.other W10 f65 (own_ne_ge (x := dT) (y := a6) (own_ltN f4.lt) (own_ge_eq qa6))
    have f67 := oArr.other W13 f66 (own_ne_ge (x := dT) (y := a6) (own_ltN f4.lt) (own_ge_eq qa6))
    have f68 := oArr.other W16 f67 (own_ne_ge (x := dT) (y := a6) (own_ltN f4.lt) (own_ge_eq qa6))
    have f69 := oArr.ext E22 f68
    have f70 := oArr.ext E26 f69
    have g72 := own_lt_le (x := dT) (own_ltN f4.lt) E7.1
    have g73 := own_lt_le (x := dT) g72 (Nat.le_of_eq (Wr.size W10).symm)
    have g74 := own_lt_le (x := dT) g73 (Nat.le_of_eq (Wr.size W13).symm)
    have g75 := own_lt_le (x := dT) g74 (Nat.le_of_eq (Wr.size W16).symm)
    have g76 := own_lt_le (x := dT) g75 E22.1
    have f71 := oArr.keep f70 KX (own_nin1 (own_ne_ge (x := dT) (y := a25) g76 (own_ge_eq qa25)))
    have f77 := oArr.ext E38 f71
    have g79 := own_lt_le (x := dT) g76 E26.1
    have g80 := own_lt_le (x := dT) g79 KX.1
    have f78 := oArr.keep f77 KA (own_nin1 (own_ne_ge (x := dT) (y := a37) g80 (own_ge_eq qa37)))
    refine oGo.invokevirtual (pc' := 162) (k' := 16) (n' := 117) (a := a37) (argsL := []) (rest := []) at_159 rfl (w48 hG) (w49 hG) (w51 hG) (w51 hG) rfl (w50 hG) (w34 hG) (w52 hG) (by decide) pd26 rfl rfl rfl EA (c_ts hG a37 a25 tX p nd dO dT [] (by simp) (by omega) hnd _ GA1 GA2 f47 SO ST f62 f78) (by simp) (by decide) (Nat.le_of_ble_eq_true rfl) rfl rfl (by decide) (by decide) ?_
    intro v81 h82 sh82 q83
    obtain ⟨KT, y, ty, rfl, gy, gty, Sy⟩ := q83
    refine ⟨_, fun _ hx => Or.inl hx, ?_⟩
    show oGo l Z a0 EL True pP eE sS mM _ bB tT cC _ _ _ _ _ _ _ _ [a37, a25, a21, a6] h82 16 117 162 #[.val (.int i0), .val (.int i1), .val (.int i2), .val (.int i3), .val (.int i4), .val (.int (0 : Int32)), .val (.ref a6), .val (.ref a21), .val (.int (Int32.ofNat p)), .val (.ref a25), .unset, .unset, .unset] [.ref y]
    refine oGo.astore (pc' := 164) (Ls' := #[.val (.int i0), .val (.int i1), .val (.int i2), .val (.int i3), .val (.int i4), .val (.int (0 : Int32)), .val (.ref a6), .val (.ref a21), .val (.int (Int32.ofNat p)), .val (.ref a25), .val (.ref y), .unset, .unset]) at_162 rfl rfl rfl ?_
    have f84 := oArr.ext E22 A18
    have f85 := oArr.ext E26 f84
    have g87 := own_lt_le (x := a6) la6 (Nat.le_of_eq (Wr.size W10).symm)
    have g88 := own_lt_le (x := a6) g87 (Nat.le_of_eq (Wr.size W13).symm)
    have g89 := own_lt_le (x := a6) g88 (Nat.le_of_eq (Wr.size W16).symm)
    have g90 := own_lt_le (x := a6) g89 E22.1
    have f86 := oArr.keep f85 KX (own_nin1 (own_ne_ge (x := a6) (y := a25) g90 (own_ge_eq qa25)))
    have f91 := oArr.ext E38 f86
    have g93 := own_lt_le (x := a6) g90 E26.1
    have g94 := own_lt_le (x := a6) g93 KX.1
    have f92 := oArr.keep f91 KA (own_nin1 (own_ne_ge (x := a6) (y := a37) g94 (own_ge_eq qa37)))
    have f95 := oArr.keep f92 KT nin0
    have J : oGo l Z a0 EL True pP eE sS mM #[.int i0, .int i1, .int i2, .int i3, .int i4] bB tT cC room_1 "com/example/meander/meander/cluster/WorkerAddressToStringPinLaw" code 13 (some .boolean) "law" (fun v h' => v = some (.int 1)) oNo [a37, a25, a21, a6] h82 16 117 211 #[.val (.int i0), .val (.int i1), .val (.int i2), .val (.int i3), .val (.int i4), .val (.int (0 : Int32)), .val (.ref a6), .val (.ref a21), .val (.int (Int32.ofNat p)), .val (.ref a25), .val (.ref y), .unset, .unset] [.int (Int32.ofNat nd)] := by
      refine oGo.istore (pc' := 213) (Ls' := #[.val (.int i0), .val (.int i1), .val (.int i2), .val (.int i3), .val (.int i4), .val (.int (0 : Int32)), .val (.ref a6), .val (.ref a21), .val (.int (Int32.ofNat p)), .val (.ref a25), .val (.ref y), .val (.int (Int32.ofNat nd)), .unset]) at_211 rfl rfl ?_
      refine oGo.iload (pc' := 215) at_213 rfl rfl ?_
      refine oGo.iconst (pc' := 216) (v := 1) at_215 rfl (by decide) ?_
      refine oGo.iadd (pc' := 217) at_216 rfl ?_
      rw [show (0 : Int32) + (1 : Int32) = (1 : Int32) from by decide]
      refine oGo.iload (pc' := 219) at_217 rfl rfl ?_
      refine oGo.iadd (pc' := 220) at_219 rfl ?_
      rw [show (1 : Int32) + Int32.ofNat nd = Int32.ofNat (0 + 1 + nd) from (Int32.ofNat_add 1 nd).symm]
      refine oGo.istore (pc' := 222) (Ls' := #[.val (.int i0), .val (.int i1), .val (.int i2), .val (.int i3), .val (.int i4), .val (.int (0 : Int32)), .val (.ref a6), .val (.ref a21), .val (.int (Int32.ofNat p)), .val (.ref a25), .val (.ref y), .val (.int (Int32.ofNat nd)), .val (.int (Int32.ofNat (0 + 1 + nd)))]) at_220 rfl rfl ?_
      refine oGo.aload (pc' := 224) at_222 rfl rfl rfl ?_
      refine oGo.ifnull_n (pc1 := 227) at_224 rfl ?_
      refine oGo.aload (pc' := 229) at_227 rfl rfl rfl ?_
      refine oGo.invokevirtual (pc' := 232) (k' := 16) (n' := 117) (a := y) (argsL := []) (rest := []) at_229 rfl (w184 hG) (w82 hG) (w84 hG) (w84 hG) rfl (w83 hG) (w5 hG) (w85 hG) (by decide) pd11 rfl rfl rfl Sy.1 (c_length hG y ty ([] ++ [58] ++ dgl p nd) _ Sy) (by simp) (by decide) (Nat.le_of_ble_eq_true rfl) rfl rfl (by decide) (by decide) ?_
      intro v96 h97 sh97 q98
      obtain ⟨rfl, ee⟩ := q98
      obtain rfl := ee.symm
      refine ⟨_, fun _ hx => Or.inl hx, ?_⟩
      show oGo l Z a0 EL True pP eE sS mM _ bB tT cC _ _ _ _ _ _ _ _ [a37, a25, a21, a6] h82 16 117 232 #[.val (.int i0), .val (.int i1), .val (.int i2), .val (.int i3), .val (.int i4), .val (.int (0 : Int32)), .val (.ref a6), .val (.ref a21), .val (.int (Int32.ofNat p)), .val (.ref a25), .val (.ref y), .val (.int (Int32.ofNat nd)), .val (.int (Int32.ofNat (0 + 1 + nd)))] [.int (Int32.ofNat ([] ++ [58] ++ dgl p nd).length)]
      rw [show (([] ++ [58] ++ dgl p nd) : List Int32).length = 0 + 1 + nd from (by simp [dgl_len]; try omega)]
      refine oGo.iload (pc' := 234) at_232 rfl rfl ?_
      refine oGo.icmp_eq (pc1 := 237) (pc2 := 239) at_234 rfl (by decide) (fun q99 => ?_) (fun q => absurd rfl q)
      refine oGo.aload (pc' := 241) at_239 rfl rfl rfl ?_
      refine oGo.iconst (pc' := 242) (v := 0) at_241 rfl (by decide) ?_
      refine oGo.aload (pc' := 244) at_242 rfl rfl rfl ?_
      refine oGo.iload (pc' := 246) at_244 rfl rfl ?_
      refine oGo.iload (pc' := 248) at_246 rfl rfl ?_
      refine oGo.iload (pc' := 250) at_248 rfl rfl ?_
      refine oGo.iload (pc' := 252) at_250 rfl rfl ?_
      refine oGo.invokestatic (pc' := 255) (k' := 16) (n' := 117) (argsL := [.ref y, .int (0 : Int32), .ref a6, .int (0 : Int32), .int (Int32.ofNat p), .int (Int32.ofNat nd), .int (Int32.ofNat (0 + 1 + nd))]) (rest := []) at_252 rfl (w185 hG) (w186 hG) (w187 hG) (w188 hG) (by decide) pd30 rfl rfl rfl (c_at hG y ty a6 0 0 p nd c0 c1 c2 ([] ++ [58] ++ dgl p nd) (by decide) (by decide) (by omega) h5 rfl _ f95 Sy) (by simp) (by decide) (Nat.le_of_ble_eq_true rfl) rfl rfl (by decide) (by decide) ?_
      intro v100 h101 sh101 q102
      obtain ⟨rfl, ee⟩ := q102
      obtain rfl := ee.symm
      refine ⟨_, fun _ hx => Or.inl hx, ?_⟩
      show oGo l Z a0 EL True pP eE sS mM _ bB tT cC _ _ _ _ _ _ _ _ [a37, a25, a21, a6] h82 16 117 255 #[.val (.int i0), .val (.int i1), .val (.int i2), .val (.int i3), .val (.int i4), .val (.int (0 : Int32)), .val (.ref a6), .val (.ref a21), .val (.int (Int32.ofNat p)), .val (.ref a25), .val (.ref y), .val (.int (Int32.ofNat nd)), .val (.int (Int32.ofNat (0 + 1 + nd)))] [.int (1 : Int32)]
      refine oGo.if_eq (pc1 := 258) (pc2 := 417) at_255 rfl (by decide) (fun q => by first | exact absurd q (by decide) | exact absurd (by decide) q) (fun q103 => ?_)
      refine oGo.aload (pc' := 260) at_258 rfl rfl rfl ?_
      refine oGo.iconst (pc' := 261) (v := 1) at_260 rfl (by decide) ?_
      refine oGo.aload (pc' := 263) at_261 rfl rfl rfl ?_
      refine oGo.iload (pc' := 265) at_263 rfl rfl ?_
      refine oGo.iload (pc' := 267) at_265 rfl rfl ?_
      refine oGo.iload (pc' := 269) at_267 rfl rfl ?_
      refine oGo.iload (pc' := 271) at_269 rfl rfl ?_
      refine oGo.invokestatic (pc' := 274) (k' := 16) (n' := 117) (argsL := [.ref y, .int (1 : Int32), .ref a6, .int (0 : Int32), .int (Int32.ofNat p), .int (Int32.ofNat nd), .int (Int32.ofNat (0 + 1 + nd))]) (rest := []) at_271 rfl (w185 hG) (w186 hG) (w187 hG) (w188 hG) (by decide) pd30 rfl rfl rfl (c_at hG y ty a6 1 0 p nd c0 c1 c2 ([] ++ [58] ++ dgl p nd) (by decide) (by decide) (by omega) h5 rfl _ f95 Sy) (by simp) (by decide) (Nat.le_of_ble_eq_true rfl) rfl rfl (by decide) (by decide) ?_
      intro v104 h105 sh105 q106
      obtain ⟨rfl, ee⟩ := q106
      obtain rfl := ee.symm
      refine ⟨_, fun _ hx => Or.inl hx, ?_⟩
      show oGo l Z a0 EL True pP eE sS mM _ bB tT cC _ _ _ _ _ _ _ _ [a37, a25, a21, a6] h82 16 117 274 #[.val (.int i0), .val (.int i1), .val (.int i2), .val (.int i3), .val (.int i4), .val (.int (0 : Int32)), .val (.ref a6), .val (.ref a21), .val (.int (Int32.ofNat p)), .val (.ref a25), .val (.ref y), .val (.int (Int32.ofNat nd)), .val (.int (Int32.ofNat (0 + 1 + nd)))] [.int (1 : Int32)]
      refine oGo.if_eq (pc1 := 277) (pc2 := 417) at_274 rfl (by decide) (fun q => by first | exact absurd q (by decide) | exact absurd (by decide) q) (fun q107 => ?_)
      refine oGo.aload (pc' := 279) at_277 rfl rfl rfl ?_
      refine oGo.iconst (pc' := 280) (v := 2) at_279 rfl (by decide) ?_
      refine oGo.aload (pc' := 282) at_280 rfl rfl rfl ?_
      refine oGo.iload (pc' := 284) at_282 rfl rfl ?_
      refine oGo.iload (pc' := 286) at_284 rfl rfl ?_
      refine oGo.iload (pc' := 288) at_286 rfl rfl ?_
      refine oGo.iload (pc' := 290) at_288 rfl rfl ?_
      refine oGo.invokestatic (pc' := 293) (k' := 16) (n' := 117) (argsL := [.ref y, .int (2 : Int32), .ref a6, .int (0 : Int32), .int (Int32.ofNat p), .int (Int32.ofNat nd), .int (Int32.ofNat (0 + 1 + nd))]) (rest := []) at_290 rfl (w185 hG) (w186 hG) (w187 hG) (w188 hG) (by decide) pd30 rfl rfl rfl (c_at hG y ty a6 2 0 p nd c0 c1 c2 ([] ++ [58] ++ dgl p nd) (by decide) (by decide) (by omega) h5 rfl _ f95 Sy) (by simp) (by decide) (Nat.le_of_ble_eq_true rfl) rfl rfl (by decide) (by decide) ?_
      intro v108 h109 sh109 q110
      obtain ⟨rfl, ee⟩ := q110
      obtain rfl := ee.symm
      refine ⟨_, fun _ hx => Or.inl hx, ?_⟩
      show oGo l Z a0 EL True pP eE sS mM _ bB tT cC _ _ _ _ _ _ _ _ [a37, a25, a21, a6] h82 16 117 293 #[.val (.int i0), .val (.int i1), .val (.int i2), .val (.int i3), .val (.int i4), .val (.int (0 : Int32)), .val (.ref a6), .val (.ref a21), .val (.int (Int32.ofNat p)), .val (.ref a25), .val (.ref y), .val (.int (Int32.ofNat nd)), .val (.int (Int32.ofNat (0 + 1 + nd)))] [.int (1 : Int32)]
      refine oGo.if_eq (pc1 := 296) (pc2 := 417) at_293 rfl (by decide) (fun q => by first | exact absurd q (by decide) | exact absurd (by decide) q) (fun q111 => ?_)
      refine oGo.aload (pc' := 298) at_296 rfl rfl rfl ?_
      refine oGo.iconst (pc' := 299) (v := 3) at_298 rfl (by decide) ?_
      refine oGo.aload (pc' := 301) at_299 rfl rfl rfl ?_
      refine oGo.iload (pc' := 303) at_301 rfl rfl ?_
      refine oGo.iload (pc' := 305) at_303 rfl rfl ?_
      refine oGo.iload (pc' := 307) at_305 rfl rfl ?_
      refine oGo.iload (pc' := 309) at_307 rfl rfl ?_
      refine oGo.invokestatic (pc' := 312) (k' := 16) (n' := 117) (argsL := [.ref y, .int (3 : Int32), .ref a6, .int (0 : Int32), .int (Int32.ofNat p), .int (Int32.ofNat nd), .int (Int32.ofNat (0 + 1 + nd))]) (rest := []) at_309 rfl (w185 hG) (w186 hG) (w187 hG) (w188 hG) (by decide) pd30 rfl rfl rfl (c_at hG y ty a6 3 0 p nd c0 c1 c2 ([] ++ [58] ++ dgl p nd) (by decide) (by decide) (by omega) h5 rfl _ f95 Sy) (by simp) (by decide) (Nat.le_of_ble_eq_true rfl) rfl rfl (by decide) (by decide) ?_
      intro v112 h113 sh113 q114
      obtain ⟨rfl, ee⟩ := q114
      obtain rfl := ee.symm
      refine ⟨_, fun _ hx => Or.inl hx, ?_⟩
      show oGo l Z a0 EL True pP eE sS mM _ bB tT cC _ _ _ _ _ _ _ _ [a37, a25, a21, a6] h82 16 117 312 #[.val (.int i0), .val (.int i1), .val (.int i2), .val (.int i3), .val (.int i4), .val (.int (0 : Int32)), .val (.ref a6), .val (.ref a21), .val (.int (Int32.ofNat p)), .val (.ref a25), .val (.ref y), .val (.int (Int32.ofNat nd)), .val (.int (Int32.ofNat (0 + 1 + nd)))] [.int (1 : Int32)]
      refine oGo.if_eq (pc1 := 315) (pc2 := 417) at_312 rfl (by decide) (fun q => by first | exact absurd q (by decide) | exact absurd (by decide) q) (fun q115 => ?_)
      refine oGo.aload (pc' := 317) at_315 rfl rfl rfl ?_
      refine oGo.iconst (pc' := 318) (v := 4) at_317 rfl (by decide) ?_
      refine oGo.aload (pc' := 320) at_318 rfl rfl rfl ?_
      refine oGo.iload (pc' := 322) at_320 rfl rfl ?_
      refine oGo.iload (pc' := 324) at_322 rfl rfl ?_
      refine oGo.iload (pc' := 326) at_324 rfl rfl ?_
      refine oGo.iload (pc' := 328) at_326 rfl rfl ?_
      refine oGo.invokestatic (pc' := 331) (k' := 16) (n' := 117) (argsL := [.ref y, .int (4 : Int32), .ref a6, .int (0 : Int32), .int (Int32.ofNat p), .int (Int32.ofNat nd), .int (Int32.ofNat (0 + 1 + nd))]) (rest := []) at_328 rfl (w185 hG) (w186 hG) (w187 hG) (w188 hG) (by decide) pd30 rfl rfl rfl (c_at hG y ty a6 4 0 p nd c0 c1 c2 ([] ++ [58] ++ dgl p nd) (by decide) (by decide) (by omega) h5 rfl _ f95 Sy) (by simp) (by decide) (Nat.le_of_ble_eq_true rfl) rfl rfl (by decide) (by decide) ?_
      intro v116 h117 sh117 q118
      obtain ⟨rfl, ee⟩ := q118
      obtain rfl := ee.symm
      refine ⟨_, fun _ hx => Or.inl hx, ?_⟩
      show oGo l Z a0 EL True pP eE sS mM _ bB tT cC _ _ _ _ _ _ _ _ [a37, a25, a21, a6] h82 16 117 331 #[.val (.int i0), .val (.int i1), .val (.int i2), .val (.int i3), .val (.int i4), .val (.int (0 : Int32)), .val (.ref a6), .val (.ref a21), .val (.int (Int32.ofNat p)), .val (.ref a25), .val (.ref y), .val (.int (Int32.ofNat nd)), .val (.int (Int32.ofNat (0 + 1 + nd)))] [.int (1 : Int32)]
      refine oGo.if_eq (pc1 := 334) (pc2 := 417) at_331 rfl (by decide) (fun q => by first | exact absurd q (by decide) | exact absurd (by decide) q) (fun q119 => ?_)
      refine oGo.aload (pc' := 336) at_334 rfl rfl rfl ?_
      refine oGo.iconst (pc' := 337) (v := 5) at_336 rfl (by decide) ?_
      refine oGo.aload (pc' := 339) at_337 rfl rfl rfl ?_
      refine oGo.iload (pc' := 341) at_339 rfl rfl ?_
      refine oGo.iload (pc' := 343) at_341 rfl rfl ?_
      refine oGo.iload (pc' := 345) at_343 rfl rfl ?_
      refine oGo.iload (pc' := 347) at_345 rfl rfl ?_
      refine oGo.invokestatic (pc' := 350) (k' := 16) (n' := 117) (argsL := [.ref y, .int (5 : Int32), .ref a6, .int (0 : Int32), .int (Int32.ofNat p), .int (Int32.ofNat nd), .int (Int32.ofNat (0 + 1 + nd))]) (rest := []) at_347 rfl (w185 hG) (w186 hG) (w187 hG) (w188 hG) (by decide) pd30 rfl rfl rfl (c_at hG y ty a6 5 0 p nd c0 c1 c2 ([] ++ [58] ++ dgl p nd) (by decide) (by decide) (by omega) h5 rfl _ f95 Sy) (by simp) (by decide) (Nat.le_of_ble_eq_true rfl) rfl rfl (by decide) (by decide) ?_
      intro v120 h121 sh121 q122
      obtain ⟨rfl, ee⟩ := q122
      obtain rfl := ee.symm
      refine ⟨_, fun _ hx => Or.inl hx, ?_⟩
      show oGo l Z a0 EL True pP eE sS mM _ bB tT cC _ _ _ _ _ _ _ _ [a37, a25, a21, a6] h82 16 117 350 #[.val (.int i0), .val (.int i1), .val (.int i2), .val (.int i3), .val (.int i4), .val (.int (0 : Int32)), .val (.ref a6), .val (.ref a21), .val (.int (Int32.ofNat p)), .val (.ref a25), .val (.ref y), .val (.int (Int32.ofNat nd)), .val (.int (Int32.ofNat (0 + 1 + nd)))] [.int (1 : Int32)]
      refine oGo.if_eq (pc1 := 353) (pc2 := 417) at_350 rfl (by decide) (fun q => by first | exact absurd q (by decide) | exact absurd (by decide) q) (fun q123 => ?_)
      refine oGo.aload (pc' := 355) at_353 rfl rfl rfl ?_
      refine oGo.bipush (pc' := 357) (v := 6) at_355 rfl (by decide) ?_
      refine oGo.aload (pc' := 359) at_357 rfl rfl rfl ?_
      refine oGo.iload (pc' := 361) at_359 rfl rfl ?_
      refine oGo.iload (pc' := 363) at_361 rfl rfl ?_
      refine oGo.iload (pc' := 365) at_363 rfl rfl ?_
      refine oGo.iload (pc' := 367) at_365 rfl rfl ?_
      refine oGo.invokestatic (pc' := 370) (k' := 16) (n' := 117) (argsL := [.ref y, .int (6 : Int32), .ref a6, .int (0 : Int32), .int (Int32.ofNat p), .int (Int32.ofNat nd), .int (Int32.ofNat (0 + 1 + nd))]) (rest := []) at_367 rfl (w185 hG) (w186 hG) (w187 hG) (w188 hG) (by decide) pd30 rfl rfl rfl (c_at hG y ty a6 6 0 p nd c0 c1 c2 ([] ++ [58] ++ dgl p nd) (by decide) (by decide) (by omega) h5 rfl _ f95 Sy) (by simp) (by decide) (Nat.le_of_ble_eq_true rfl) rfl rfl (by decide) (by decide) ?_
      intro v124 h125 sh125 q126
      obtain ⟨rfl, ee⟩ := q126
      obtain rfl := ee.symm
      refine ⟨_, fun _ hx => Or.inl hx, ?_⟩
      show oGo l Z a0 EL True pP eE sS mM _ bB tT cC _ _ _ _ _ _ _ _ [a37, a25, a21, a6] h82 16 117 370 #[.val (.int i0), .val (.int i1), .val (.int i2), .val (.int i3), .val (.int i4), .val (.int (0 : Int32)), .val (.ref a6), .val (.ref a21), .val (.int (Int32.ofNat p)), .val (.ref a25), .val (.ref y), .val (.int (Int32.ofNat nd)), .val (.int (Int32.ofNat (0 + 1 + nd)))] [.int (1 : Int32)]
      refine oGo.if_eq (pc1 := 373) (pc2 := 417) at_370 rfl (by decide) (fun q => by first | exact absurd q (by decide) | exact absurd (by decide) q) (fun q127 => ?_)
      refine oGo.aload (pc' := 375) at_373 rfl rfl rfl ?_
      refine oGo.bipush (pc' := 377) (v := 7) at_375 rfl (by decide) ?_
      refine oGo.aload (pc' := 379) at_377 rfl rfl rfl ?_
      refine oGo.iload (pc' := 381) at_379 rfl rfl ?_
      refine oGo.iload (pc' := 383) at_381 rfl rfl ?_
      refine oGo.iload (pc' := 385) at_383 rfl rfl ?_
      refine oGo.iload (pc' := 387) at_385 rfl rfl ?_
      refine oGo.invokestatic (pc' := 390) (k' := 16) (n' := 117) (argsL := [.ref y, .int (7 : Int32), .ref a6, .int (0 : Int32), .int (Int32.ofNat p), .int (Int32.ofNat nd), .int (Int32.ofNat (0 + 1 + nd))]) (rest := []) at_387 rfl (w185 hG) (w186 hG) (w187 hG) (w188 hG) (by decide) pd30 rfl rfl rfl (c_at hG y ty a6 7 0 p nd c0 c1 c2 ([] ++ [58] ++ dgl p nd) (by decide) (by decide) (by omega) h5 rfl _ f95 Sy) (by simp) (by decide) (Nat.le_of_ble_eq_true rfl) rfl rfl (by decide) (by decide) ?_
      intro v128 h129 sh129 q130
      obtain ⟨rfl, ee⟩ := q130
      obtain rfl := ee.symm
      refine ⟨_, fun _ hx => Or.inl hx, ?_⟩
      show oGo l Z a0 EL True pP eE sS mM _ bB tT cC _ _ _ _ _ _ _ _ [a37, a25, a21, a6] h82 16 117 390 #[.val (.int i0), .val (.int i1), .val (.int i2), .val (.int i3), .val (.int i4), .val (.int (0 : Int32)), .val (.ref a6), .val (.ref a21), .val (.int (Int32.ofNat p)), .val (.ref a25), .val (.ref y), .val (.int (Int32.ofNat nd)), .val (.int (Int32.ofNat (0 + 1 + nd)))] [.int (1 : Int32)]
      refine oGo.if_eq (pc1 := 393) (pc2 := 417) at_390 rfl (by decide) (fun q => by first | exact absurd q (by decide) | exact absurd (by decide) q) (fun q131 => ?_)
      refine oGo.aload (pc' := 395) at_393 rfl rfl rfl ?_
      refine oGo.bipush (pc' := 397) (v := 8) at_395 rfl (by decide) ?_
      refine oGo.aload (pc' := 399) at_397 rfl rfl rfl ?_
      refine oGo.iload (pc' := 401) at_399 rfl rfl ?_
      refine oGo.iload (pc' := 403) at_401 rfl rfl ?_
      refine oGo.iload (pc' := 405) at_403 rfl rfl ?_
      refine oGo.iload (pc' := 407) at_405 rfl rfl ?_
      refine oGo.invokestatic (pc' := 410) (k' := 16) (n' := 117) (argsL := [.ref y, .int (8 : Int32), .ref a6, .int (0 : Int32), .int (Int32.ofNat p), .int (Int32.ofNat nd), .int (Int32.ofNat (0 + 1 + nd))]) (rest := []) at_407 rfl (w185 hG) (w186 hG) (w187 hG) (w188 hG) (by decide) pd30 rfl rfl rfl (c_at hG y ty a6 8 0 p nd c0 c1 c2 ([] ++ [58] ++ dgl p nd) (by decide) (by decide) (by omega) h5 rfl _ f95 Sy) (by simp) (by decide) (Nat.le_of_ble_eq_true rfl) rfl rfl (by decide) (by decide) ?_
      intro v132 h133 sh133 q134
      obtain ⟨rfl, ee⟩ := q134
      obtain rfl := ee.symm
      refine ⟨_, fun _ hx => Or.inl hx, ?_⟩
      show oGo l Z a0 EL True pP eE sS mM _ bB tT cC _ _ _ _ _ _ _ _ [a37, a25, a21, a6] h82 16 117 410 #[.val (.int i0), .val (.int i1), .val (.int i2), .val (.int i3), .val (.int i4), .val (.int (0 : Int32)), .val (.ref a6), .val (.ref a21), .val (.int (Int32.ofNat p)), .val (.ref a25), .val (.ref y), .val (.int (Int32.ofNat nd)), .val (.int (Int32.ofNat (0 + 1 + nd)))] [.int (1 : Int32)]
      refine oGo.if_eq (pc1 := 413) (pc2 := 417) at_410 rfl (by decide) (fun q => by first | exact absurd q (by decide) | exact absurd (by decide) q) (fun q135 => ?_)
      refine oGo.iconst (pc' := 414) (v := 1) at_413 rfl (by decide) ?_
      refine oGo.goto (pc' := 418) at_414 (by decide) ?_
      exact oGo.nreturn at_418 rfl (by simp) rfl (by decide) (by decide) rfl (fun _ q => q.elim)
    refine oGo.iload (pc' := 166) at_164 rfl rfl ?_
    refine oGo.sipush (pc' := 169) (v := 10000) at_166 rfl (by decide) ?_
    refine oGo.icmp_lt (pc1 := 172) (pc2 := 176) at_169 rfl (by decide) (fun q5 => ?_) (fun q5 => ?_)
    rotate_left
    · rw [show (10000 : Int32) = Int32.ofNat 10000 from rfl, own_lt (by omega) (by omega)] at q5
      obtain rfl : nd = 5 := by omega
      refine oGo.iconst (pc' := 173) (v := 5) at_172 rfl (by decide) ?_
      refine oGo.goto (pc' := 211) at_173 (by decide) ?_
      exact J
    rw [show (10000 : Int32) = Int32.ofNat 10000 from rfl, own_lt (by omega) (by omega)] at q5
    refine oGo.iload (pc' := 178) at_176 rfl rfl ?_
    refine oGo.sipush (pc' := 181) (v := 1000) at_178 rfl (by decide) ?_
    refine oGo.icmp_lt (pc1 := 184) (pc2 := 188) at_181 rfl (by decide) (fun q4 => ?_) (fun q4 => ?_)
    rotate_left
    · rw [show (1000 : Int32) = Int32.ofNat 1000 from rfl, own_lt (by omega) (by omega)] at q4
      obtain rfl : nd = 4 := by omega
      refine oGo.iconst (pc' := 185) (v := 4) at_184 rfl (by decide) ?_
      refine oGo.goto (pc' := 211) at_185 (by decide) ?_
      exact J
    rw [show (1000 : Int32) = Int32.ofNat 1000 from rfl, own_lt (by omega) (by omega)] at q4
    refine oGo.iload (pc' := 190) at_188 rfl rfl ?_
    refine oGo.bipush (pc' := 192) (v := 100) at_190 rfl (by decide) ?_
    refine oGo.icmp_lt (pc1 := 195) (pc2 := 199) at_192 rfl (by decide) (fun q3 => ?_) (fun q3 => ?_)
    rotate_left
    · rw [show (100 : Int32) = Int32.ofNat 100 from rfl, own_lt (by omega) (by omega)] at q3
      obtain rfl : nd = 3 := by omega
      refine oGo.iconst (pc' := 196) (v := 3) at_195 rfl (by decide) ?_
      refine oGo.goto (pc' := 211) at_196 (by decide) ?_
      exact J
    rw [show (100 : Int32) = Int32.ofNat 100 from rfl, own_lt (by omega) (by omega)] at q3
    refine oGo.iload (pc' := 201) at_199 rfl rfl ?_
    refine oGo.bipush (pc' := 203) (v := 10) at_201 rfl (by decide) ?_
    refine oGo.icmp_lt (pc1 := 206) (pc2 := 210) at_203 rfl (by decide) (fun q2 => ?_) (fun q2 => ?_)
    rotate_left
    · rw [show (10 : Int32) = Int32.ofNat 10 from rfl, own_lt (by omega) (by omega)] at q2
      obtain rfl : nd = 2 := by omega
      refine oGo.iconst (pc' := 207) (v := 2) at_206 rfl (by decide) ?_
      refine oGo.goto (pc' := 211) at_207 (by decide) ?_
      exact J
    rw [show (10 : Int32) = Int32.ofNat 10 from rfl, own_lt (by omega) (by omega)] at q2
    obtain rfl : nd = 1 := by omega
    refine oGo.iconst (pc' := 211) (v := 1) at_210 rfl (by decide) ?_
    exact J
  · show oGo l Z a0 EL True pP eE sS mM _ bB tT cC _ _ _ _ _ _ _ _ [a6] h15 1 3 37 #[.val (.int i0), .val (.int i1), .val (.int i2), .val (.int i3), .val (.int i4), .val (.int (1 : Int32)), .val (.ref a6), .unset, .unset, .unset, .unset, .unset, .unset] []
    refine oGo.iload (pc' := 39) at_37 rfl rfl ?_
    refine oGo.if_ne (pc1 := 42) (pc2 := 50) at_39 rfl (by decide) (fun q136 => ?_) (fun q => by first | exact absurd q (by decide) | exact absurd (by decide) q)
    refine oGo.iload (pc' := 52) at_50 rfl rfl ?_
    refine oGo.iconst (pc' := 53) (v := 1) at_52 rfl (by decide) ?_
    refine oGo.icmp_ne (pc1 := 56) (pc2 := 71) at_53 rfl (by decide) (fun q => by first | exact absurd q (by decide) | exact absurd (by decide) q) (fun q137 => ?_)
    refine oGo.iconst (pc' := 57) (v := 1) at_56 rfl (by decide) ?_
    refine oGo.newarray (pc' := 59) (k' := 2) (n' := 4) (i := 1) at_57 rfl (w0 hG) rfl 1 (by decide) (by decide) rfl rfl (by decide) (by decide) (by decide) ?_
    intro h138 a139 qa139 la139 E140 A141'
    have A141 : oArr Z h138 a139 .char (List.replicate (1) (.int 0)) := A141'
    refine oGo.dup (pc' := 60) at_59 rfl rfl ?_
    refine oGo.iconst (pc' := 61) (v := 0) at_60 rfl (by decide) ?_
    refine oGo.aload (pc' := 63) at_61 rfl rfl rfl ?_
    refine oGo.iconst (pc' := 64) (v := 0) at_63 rfl (by decide) ?_
    have f142 := oArr.ext E140 A18
    refine oGo.caload (pc' := 65) (i := 0) at_64 rfl f142 rfl (v := .int c0) rfl ?_
    refine oGo.castore (pc' := 66) (i := 0) (w := c0) at_65 rfl A141 rfl (by simp) (nar_char bc0.1 (own_255 bc0.2)) (by simp) ?_
    intro h143 W144 sh143 A145
    refine oGo.astore (pc' := 68) (Ls' := #[.val (.int i0), .val (.int i1), .val (.int i2), .val (.int i3), .val (.int i4), .val (.int (1 : Int32)), .val (.ref a6), .val (.ref a139), .unset, .unset, .unset, .unset, .unset]) at_66 rfl rfl rfl ?_
    refine oGo.goto (pc' := 125) at_68 (by decide) ?_
    refine oGo.iconst (pc' := 126) (v := 1) at_125 rfl (by decide) ?_
    refine oGo.iload (pc' := 128) at_126 rfl rfl ?_
    refine oGo.ldc_int (pc' := 130) at_128 rfl (w1 hG) ?_
    refine oGo.iand (pc' := 131) at_130 rfl ?_
    refine oGo.ldc_int (pc' := 133) at_131 rfl (w2 hG) ?_
    refine oGo.irem (pc' := 134) at_133 rfl (by decide) ?_
    obtain ⟨q, hq, eqp⟩ := own_port i4
    rw [eqp]
    refine oGo.iadd (pc' := 135) at_134 rfl ?_
    rw [own_1add]
    obtain ⟨p, hp⟩ : ∃ p, p = q + 1 := ⟨_, rfl⟩
    rw [← hp]
    obtain ⟨nd, hnd⟩ : ∃ nd, ndF p = nd := ⟨_, rfl⟩
    have hcs := nd_cases hnd (by omega)
    have h5 : nd ≤ 5 := by omega
    refine oGo.istore (pc' := 137) (Ls' := #[.val (.int i0), .val (.int i1), .val (.int i2), .val (.int i3), .val (.int i4), .val (.int (1 : Int32)), .val (.ref a6), .val (.ref a139), .val (.int (Int32.ofNat p)), .unset, .unset, .unset, .unset]) at_135 rfl rfl ?_
    refine oGo.new (pc' := 140) (k' := 3) (n' := 8) at_137 rfl (w3 hG) (w4 hG) (w5 hG) rfl rfl (by decide) (by decide) ?_
    intro h146 a147 qa147 la147 E148 X149 F150
    have f151 := F150 (Or.inr (w29 hG)) (ty := .byte) (by decide)
    have f152 := F150 (Or.inr (w31 hG)) (ty := (.array .byte)) (by decide)
    refine oGo.dup (pc' := 141) at_140 rfl rfl ?_
    refine oGo.aload (pc' := 143) at_141 rfl rfl rfl ?_
    have f153 := oArr.ext E148 A145
    have A154 : oArr Z h146 a139 .char (oI [c0]) := f153
    refine oGo.invokespecial (pc' := 146) (k' := 7) (n' := 16) (a := a147) (argsL := [.ref a139]) (rest := [.ref a147]) at_143 rfl rfl (w6 hG) (w7 hG) (w5 hG) (w8 hG) (by decide) pd28 rfl rfl rfl (c_strI1 hG a147 a139 [c0] (by simp) (by intro c hc; simp only [List.mem_cons, List.not_mem_nil, or_false] at hc; rcases hc with rfl <;> first | decide | assumption) _ _ _ A154 X149 f152 f151) (by simp) (by decide) (Nat.le_of_ble_eq_true rfl) rfl rfl (by decide) (by decide) ?_
    intro v155 h156 sh156 q157
    obtain ⟨rfl, KX, tX, SX⟩ := q157
    have lxX := own_ltN SX.1.lt
    have ltX := own_ltN SX.2.2.2.1.lt
    refine ⟨_, fun _ hx => Or.inl hx, ?_⟩
    show oGo l Z a0 EL True pP eE sS mM _ bB tT cC _ _ _ _ _ _ _ _ [a147, a139, a6] h156 7 16 146 #[.val (.int i0), .val (.int i1), .val (.int i2), .val (.int i3), .val (.int i4), .val (.int (1 : Int32)), .val (.ref a6), .val (.ref a139), .val (.int (Int32.ofNat p)), .unset, .unset, .unset, .unset] [.ref a147]
    refine oGo.astore (pc' := 148) (Ls' := #[.val (.int i0), .val (.int i1), .val (.int i2), .val (.int i3), .val (.int i4), .val (.int (1 : Int32)), .val (.ref a6), .val (.ref a139), .val (.int (Int32.ofNat p)), .val (.ref a147), .unset, .unset, .unset]) at_146 rfl rfl rfl ?_
    refine oGo.new (pc' := 151) (k' := 8) (n' := 18) at_148 rfl (w32 hG) (w33 hG) (w34 hG) rfl rfl (by decide) (by decide) ?_
    intro h158 a159 qa159 la159 E160 X161 F162
    have f163 := F162 (Or.inr (w45 hG)) (ty := (.object "java/lang/String")) (by decide)
    have f164 := F162 (Or.inr (w47 hG)) (ty := .int) (by decide)
    refine oGo.dup (pc' := 152) at_151 rfl rfl ?_
    refine oGo.aload (pc' := 154) at_152 rfl rfl rfl ?_
    refine oGo.iload (pc' := 156) at_154 rfl rfl ?_
    refine oGo.invokespecial (pc' := 159) (k' := 8) (n' := 18) (a := a159) (argsL := [.ref a147, .int (Int32.ofNat p)]) (rest := [.ref a159]) at_156 rfl rfl (w35 hG) (w36 hG) (w34 hG) (w37 hG) (by decide) pd29 rfl rfl rfl (c_wa hG a159 a147 _ _ X161 f163 f164) (by simp) (by decide) (Nat.le_of_ble_eq_true rfl) rfl rfl (by decide) (by decide) ?_
    intro v165 h166 sh166 q167
    obtain ⟨rfl, KA, EA, GA1, GA2⟩ := q167
    refine ⟨_, fun _ hx => Or.inl hx, ?_⟩
    show oGo l Z a0 EL True pP eE sS mM _ bB tT cC _ _ _ _ _ _ _ _ [a159, a147, a139, a6] h166 8 18 159 #[.val (.int i0), .val (.int i1), .val (.int i2), .val (.int i3), .val (.int i4), .val (.int (1 : Int32)), .val (.ref a6), .val (.ref a139), .val (.int (Int32.ofNat p)), .val (.ref a147), .unset, .unset, .unset] [.ref a159]
    have f168 := SX.ext E160
    have g170 := own_lt_le (x := a147) la147 KX.1
    have f169 := f168.keep KA (own_nin1 (own_ne_ge (x := a147) (y := a159) g170 (own_ge_eq qa159))) (own_nin1 (own_ne_ge (x := tX) (y := a159) ltX (own_ge_eq qa159)))
    have f171 := oArr.ext E7 f2
    have f172 := oArr.other W10 f171 (own_ne_ge (x := dO) (y := a6) (own_ltN f2.lt) (own_ge_eq qa6))
    have f173 := oArr.other W13 f172 (own_ne_ge (x := dO) (y := a6) (own_ltN f2.lt) (own_ge_eq qa6))
    have f174 := oArr.other W16 f173 (own_ne_ge (x := dO) (y := a6) (own_ltN f2.lt) (own_ge_eq qa6))
    have f175 := oArr.ext E140 f174
    have g177 := own_lt_le (x := dO) (own_ltN f2.lt) E7.1
    have g178 := own_lt_le (x := dO) g177 (Nat.le_of_eq (Wr.size W10).symm)
    have g179 := own_lt_le (x := dO) g178 (Nat.le_of_eq (Wr.size W13).symm)
    have g180 := own_lt_le (x := dO) g179 (Nat.le_of_eq (Wr.size W16).symm)
    have f176 := oArr.other W144 f175 (own_ne_ge (x := dO) (y := a139) g180 (own_ge_eq qa139))
    have f181 := oArr.ext E148 f176
    have g183 := own_lt_le (x := dO) g180 E140.1
    have g184 := own_lt_le (x := dO) g183 (Nat.le_of_eq (Wr.size W144).symm)
    have f182 := oArr.keep f181 KX (own_nin1 (own_ne_ge (x := dO) (y := a147) g184 (own_ge_eq qa147)))
    have f185 := oArr.ext E160 f182
    have g187 := own_lt_le (x := dO) g184 E148.1
    have g188 := own_lt_le (x := dO) g187 KX.1
    have f186 := oArr.keep f185 KA (own_nin1 (own_ne_ge (x := dO) (y := a159) g188 (own_ge_eq qa159)))
    have f189 := oArr.ext E7 f4
    have f190 := oArr.other W10 f189 (own_ne_ge (x := dT) (y := a6) (own_ltN f4.lt) (own_ge_eq qa6))
    have f191 := oArr.other W13 f190 (own_ne_ge (x := dT) (y := a6) (own_ltN f4.lt) (own_ge_eq qa6))
    have f192 := oArr.other W16 f191 (own_ne_ge (x := dT) (y := a6) (own_ltN f4.lt) (own_ge_eq qa6))
    have f193 := oArr.ext E140 f192
    have g195 := own_lt_le (x := dT) (own_ltN f4.lt) E7.1
    have g196 := own_lt_le (x := dT) g195 (Nat.le_of_eq (Wr.size W10).symm)
    have g197 := own_lt_le (x := dT) g196 (Nat.le_of_eq (Wr.size W13).symm)
    have g198 := own_lt_le (x := dT) g197 (Nat.le_of_eq (Wr.size W16).symm)
    have f194 := oArr.other W144 f193 (own_ne_ge (x := dT) (y := a139) g198 (own_ge_eq qa139))
    have f199 := oArr.ext E148 f194
    have g201 := own_lt_le (x := dT) g198 E140.1
    have g202 := own_lt_le (x := dT) g201 (Nat.le_of_eq (Wr.size W144).symm)
    have f200 := oArr.keep f199 KX (own_nin1 (own_ne_ge (x := dT) (y := a147) g202 (own_ge_eq qa147)))
    have f203 := oArr.ext E160 f200
    have g205 := own_lt_le (x := dT) g202 E148.1
    have g206 := own_lt_le (x := dT) g205 KX.1
    have f204 := oArr.keep f203 KA (own_nin1 (own_ne_ge (x := dT) (y := a159) g206 (own_ge_eq qa159)))
    refine oGo.invokevirtual (pc' := 162) (k' := 16) (n' := 118) (a := a159) (argsL := []) (rest := []) at_159 rfl (w48 hG) (w49 hG) (w51 hG) (w51 hG) rfl (w50 hG) (w34 hG) (w52 hG) (by decide) pd26 rfl rfl rfl EA (c_ts hG a159 a147 tX p nd dO dT [c0] (by simp) (by omega) hnd _ GA1 GA2 f169 SO ST f186 f204) (by simp) (by decide) (Nat.le_of_ble_eq_true rfl) rfl rfl (by decide) (by decide) ?_
    intro v207 h208 sh208 q209
    obtain ⟨KT, y, ty, rfl, gy, gty, Sy⟩ := q209
    refine ⟨_, fun _ hx => Or.inl hx, ?_⟩
    show oGo l Z a0 EL True pP eE sS mM _ bB tT cC _ _ _ _ _ _ _ _ [a159, a147, a139, a6] h208 16 118 162 #[.val (.int i0), .val (.int i1), .val (.int i2), .val (.int i3), .val (.int i4), .val (.int (1 : Int32)), .val (.ref a6), .val (.ref a139), .val (.int (Int32.ofNat p)), .val (.ref a147), .unset, .unset, .unset] [.ref y]
    refine oGo.astore (pc' := 164) (Ls' := #[.val (.int i0), .val (.int i1), .val (.int i2), .val (.int i3), .val (.int i4), .val (.int (1 : Int32)), .val (.ref a6), .val (.ref a139), .val (.int (Int32.ofNat p)), .val (.ref a147), .val (.ref y), .unset, .unset]) at_162 rfl rfl rfl ?_
    have g211 := own_lt_le (x := a6) la6 (Nat.le_of_eq (Wr.size W10).symm)
    have g212 := own_lt_le (x := a6) g211 (Nat.le_of_eq (Wr.size W13).symm)
    have g213 := own_lt_le (x := a6) g212 (Nat.le_of_eq (Wr.size W16).symm)
    have f210 := oArr.other W144 f142 (own_ne_ge (x := a6) (y := a139) g213 (own_ge_eq qa139))
    have f214 := oArr.ext E148 f210
    have g216 := own_lt_le (x := a6) g213 E140.1
    have g217 := own_lt_le (x := a6) g216 (Nat.le_of_eq (Wr.size W144).symm)
    have f215 := oArr.keep f214 KX (own_nin1 (own_ne_ge (x := a6) (y := a147) g217 (own_ge_eq qa147)))
    have f218 := oArr.ext E160 f215
    have g220 := own_lt_le (x := a6) g217 E148.1
    have g221 := own_lt_le (x := a6) g220 KX.1
    have f219 := oArr.keep f218 KA (own_nin1 (own_ne_ge (x := a6) (y := a159) g221 (own_ge_eq qa159)))
    have f222 := oArr.keep f219 KT nin0
    have J : oGo l Z a0 EL True pP eE sS mM #[.int i0, .int i1, .int i2, .int i3, .int i4] bB tT cC room_1 "com/example/meander/meander/cluster/WorkerAddressToStringPinLaw" code 13 (some .boolean) "law" (fun v h' => v = some (.int 1)) oNo [a159, a147, a139, a6] h208 16 118 211 #[.val (.int i0), .val (.int i1), .val (.int i2), .val (.int i3), .val (.int i4), .val (.int (1 : Int32)), .val (.ref a6), .val (.ref a139), .val (.int (Int32.ofNat p)), .val (.ref a147), .val (.ref y), .unset, .unset] [.int (Int32.ofNat nd)] := by
      refine oGo.istore (pc' := 213) (Ls' := #[.val (.int i0), .val (.int i1), .val (.int i2), .val (.int i3), .val (.int i4), .val (.int (1 : Int32)), .val (.ref a6), .val (.ref a139), .val (.int (Int32.ofNat p)), .val (.ref a147), .val (.ref y), .val (.int (Int32.ofNat nd)), .unset]) at_211 rfl rfl ?_
      refine oGo.iload (pc' := 215) at_213 rfl rfl ?_
      refine oGo.iconst (pc' := 216) (v := 1) at_215 rfl (by decide) ?_
      refine oGo.iadd (pc' := 217) at_216 rfl ?_
      rw [show (1 : Int32) + (1 : Int32) = (2 : Int32) from by decide]
      refine oGo.iload (pc' := 219) at_217 rfl rfl ?_
      refine oGo.iadd (pc' := 220) at_219 rfl ?_
      rw [show (2 : Int32) + Int32.ofNat nd = Int32.ofNat (1 + 1 + nd) from (Int32.ofNat_add 2 nd).symm]
      refine oGo.istore (pc' := 222) (Ls' := #[.val (.int i0), .val (.int i1), .val (.int i2), .val (.int i3), .val (.int i4), .val (.int (1 : Int32)), .val (.ref a6), .val (.ref a139), .val (.int (Int32.ofNat p)), .val (.ref a147), .val (.ref y), .val (.int (Int32.ofNat nd)), .val (.int (Int32.ofNat (1 + 1 + nd)))]) at_220 rfl rfl ?_
      refine oGo.aload (pc' := 224) at_222 rfl rfl rfl ?_
      refine oGo.ifnull_n (pc1 := 227) at_224 rfl ?_
      refine oGo.aload (pc' := 229) at_227 rfl rfl rfl ?_
      refine oGo.invokevirtual (pc' := 232) (k' := 16) (n' := 118) (a := y) (argsL := []) (rest := []) at_229 rfl (w184 hG) (w82 hG) (w84 hG) (w84 hG) rfl (w83 hG) (w5 hG) (w85 hG) (by decide) pd11 rfl rfl rfl Sy.1 (c_length hG y ty ([c0] ++ [58] ++ dgl p nd) _ Sy) (by simp) (by decide) (Nat.le_of_ble_eq_true rfl) rfl rfl (by decide) (by decide) ?_
      intro v223 h224 sh224 q225
      obtain ⟨rfl, ee⟩ := q225
      obtain rfl := ee.symm
      refine ⟨_, fun _ hx => Or.inl hx, ?_⟩
      show oGo l Z a0 EL True pP eE sS mM _ bB tT cC _ _ _ _ _ _ _ _ [a159, a147, a139, a6] h208 16 118 232 #[.val (.int i0), .val (.int i1), .val (.int i2), .val (.int i3), .val (.int i4), .val (.int (1 : Int32)), .val (.ref a6), .val (.ref a139), .val (.int (Int32.ofNat p)), .val (.ref a147), .val (.ref y), .val (.int (Int32.ofNat nd)), .val (.int (Int32.ofNat (1 + 1 + nd)))] [.int (Int32.ofNat ([c0] ++ [58] ++ dgl p nd).length)]
      rw [show (([c0] ++ [58] ++ dgl p nd) : List Int32).length = 1 + 1 + nd from (by simp [dgl_len]; try omega)]
      refine oGo.iload (pc' := 234) at_232 rfl rfl ?_
      refine oGo.icmp_eq (pc1 := 237) (pc2 := 239) at_234 rfl (by decide) (fun q226 => ?_) (fun q => absurd rfl q)
      refine oGo.aload (pc' := 241) at_239 rfl rfl rfl ?_
      refine oGo.iconst (pc' := 242) (v := 0) at_241 rfl (by decide) ?_
      refine oGo.aload (pc' := 244) at_242 rfl rfl rfl ?_
      refine oGo.iload (pc' := 246) at_244 rfl rfl ?_
      refine oGo.iload (pc' := 248) at_246 rfl rfl ?_
      refine oGo.iload (pc' := 250) at_248 rfl rfl ?_
      refine oGo.iload (pc' := 252) at_250 rfl rfl ?_
      refine oGo.invokestatic (pc' := 255) (k' := 16) (n' := 118) (argsL := [.ref y, .int (0 : Int32), .ref a6, .int (1 : Int32), .int (Int32.ofNat p), .int (Int32.ofNat nd), .int (Int32.ofNat (1 + 1 + nd))]) (rest := []) at_252 rfl (w185 hG) (w186 hG) (w187 hG) (w188 hG) (by decide) pd30 rfl rfl rfl (c_at hG y ty a6 0 1 p nd c0 c1 c2 ([c0] ++ [58] ++ dgl p nd) (by decide) (by decide) (by omega) h5 rfl _ f222 Sy) (by simp) (by decide) (Nat.le_of_ble_eq_true rfl) rfl rfl (by decide) (by decide) ?_
      intro v227 h228 sh228 q229
      obtain ⟨rfl, ee⟩ := q229
      obtain rfl := ee.symm
      refine ⟨_, fun _ hx => Or.inl hx, ?_⟩
      show oGo l Z a0 EL True pP eE sS mM _ bB tT cC _ _ _ _ _ _ _ _ [a159, a147, a139, a6] h208 16 118 255 #[.val (.int i0), .val (.int i1), .val (.int i2), .val (.int i3), .val (.int i4), .val (.int (1 : Int32)), .val (.ref a6), .val (.ref a139), .val (.int (Int32.ofNat p)), .val (.ref a147), .val (.ref y), .val (.int (Int32.ofNat nd)), .val (.int (Int32.ofNat (1 + 1 + nd)))] [.int (1 : Int32)]
      refine oGo.if_eq (pc1 := 258) (pc2 := 417) at_255 rfl (by decide) (fun q => by first | exact absurd q (by decide) | exact absurd (by decide) q) (fun q230 => ?_)
      refine oGo.aload (pc' := 260) at_258 rfl rfl rfl ?_
      refine oGo.iconst (pc' := 261) (v := 1) at_260 rfl (by decide) ?_
      refine oGo.aload (pc' := 263) at_261 rfl rfl rfl ?_
      refine oGo.iload (pc' := 265) at_263 rfl rfl ?_
      refine oGo.iload (pc' := 267) at_265 rfl rfl ?_
      refine oGo.iload (pc' := 269) at_267 rfl rfl ?_
      refine oGo.iload (pc' := 271) at_269 rfl rfl ?_
      refine oGo.invokestatic (pc' := 274) (k' := 16) (n' := 118) (argsL := [.ref y, .int (1 : Int32), .ref a6, .int (1 : Int32), .int (Int32.ofNat p), .int (Int32.ofNat nd), .int (Int32.ofNat (1 + 1 + nd))]) (rest := []) at_271 rfl (w185 hG) (w186 hG) (w187 hG) (w188 hG) (by decide) pd30 rfl rfl rfl (c_at hG y ty a6 1 1 p nd c0 c1 c2 ([c0] ++ [58] ++ dgl p nd) (by decide) (by decide) (by omega) h5 rfl _ f222 Sy) (by simp) (by decide) (Nat.le_of_ble_eq_true rfl) rfl rfl (by decide) (by decide) ?_
      intro v231 h232 sh232 q233
      obtain ⟨rfl, ee⟩ := q233
      obtain rfl := ee.symm
      refine ⟨_, fun _ hx => Or.inl hx, ?_⟩
      show oGo l Z a0 EL True pP eE sS mM _ bB tT cC _ _ _ _ _ _ _ _ [a159, a147, a139, a6] h208 16 118 274 #[.val (.int i0), .val (.int i1), .val (.int i2), .val (.int i3), .val (.int i4), .val (.int (1 : Int32)), .val (.ref a6), .val (.ref a139), .val (.int (Int32.ofNat p)), .val (.ref a147), .val (.ref y), .val (.int (Int32.ofNat nd)), .val (.int (Int32.ofNat (1 + 1 + nd)))] [.int (1 : Int32)]
      refine oGo.if_eq (pc1 := 277) (pc2 := 417) at_274 rfl (by decide) (fun q => by first | exact absurd q (by decide) | exact absurd (by decide) q) (fun q234 => ?_)
      refine oGo.aload (pc' := 279) at_277 rfl rfl rfl ?_
      refine oGo.iconst (pc' := 280) (v := 2) at_279 rfl (by decide) ?_
      refine oGo.aload (pc' := 282) at_280 rfl rfl rfl ?_
      refine oGo.iload (pc' := 284) at_282 rfl rfl ?_
      refine oGo.iload (pc' := 286) at_284 rfl rfl ?_
      refine oGo.iload (pc' := 288) at_286 rfl rfl ?_
      refine oGo.iload (pc' := 290) at_288 rfl rfl ?_
      refine oGo.invokestatic (pc' := 293) (k' := 16) (n' := 118) (argsL := [.ref y, .int (2 : Int32), .ref a6, .int (1 : Int32), .int (Int32.ofNat p), .int (Int32.ofNat nd), .int (Int32.ofNat (1 + 1 + nd))]) (rest := []) at_290 rfl (w185 hG) (w186 hG) (w187 hG) (w188 hG) (by decide) pd30 rfl rfl rfl (c_at hG y ty a6 2 1 p nd c0 c1 c2 ([c0] ++ [58] ++ dgl p nd) (by decide) (by decide) (by omega) h5 rfl _ f222 Sy) (by simp) (by decide) (Nat.le_of_ble_eq_true rfl) rfl rfl (by decide) (by decide) ?_
      intro v235 h236 sh236 q237
      obtain ⟨rfl, ee⟩ := q237
      obtain rfl := ee.symm
      refine ⟨_, fun _ hx => Or.inl hx, ?_⟩
      show oGo l Z a0 EL True pP eE sS mM _ bB tT cC _ _ _ _ _ _ _ _ [a159, a147, a139, a6] h208 16 118 293 #[.val (.int i0), .val (.int i1), .val (.int i2), .val (.int i3), .val (.int i4), .val (.int (1 : Int32)), .val (.ref a6), .val (.ref a139), .val (.int (Int32.ofNat p)), .val (.ref a147), .val (.ref y), .val (.int (Int32.ofNat nd)), .val (.int (Int32.ofNat (1 + 1 + nd)))] [.int (1 : Int32)]
      refine oGo.if_eq (pc1 := 296) (pc2 := 417) at_293 rfl (by decide) (fun q => by first | exact absurd q (by decide) | exact absurd (by decide) q) (fun q238 => ?_)
      refine oGo.aload (pc' := 298) at_296 rfl rfl rfl ?_
      refine oGo.iconst (pc' := 299) (v := 3) at_298 rfl (by decide) ?_
      refine oGo.aload (pc' := 301) at_299 rfl rfl rfl ?_
      refine oGo.iload (pc' := 303) at_301 rfl rfl ?_
      refine oGo.iload (pc' := 305) at_303 rfl rfl ?_
      refine oGo.iload (pc' := 307) at_305 rfl rfl ?_
      refine oGo.iload (pc' := 309) at_307 rfl rfl ?_
      refine oGo.invokestatic (pc' := 312) (k' := 16) (n' := 118) (argsL := [.ref y, .int (3 : Int32), .ref a6, .int (1 : Int32), .int (Int32.ofNat p), .int (Int32.ofNat nd), .int (Int32.ofNat (1 + 1 + nd))]) (rest := []) at_309 rfl (w185 hG) (w186 hG) (w187 hG) (w188 hG) (by decide) pd30 rfl rfl rfl (c_at hG y ty a6 3 1 p nd c0 c1 c2 ([c0] ++ [58] ++ dgl p nd) (by decide) (by decide) (by omega) h5 rfl _ f222 Sy) (by simp) (by decide) (Nat.le_of_ble_eq_true rfl) rfl rfl (by decide) (by decide) ?_
      intro v239 h240 sh240 q241
      obtain ⟨rfl, ee⟩ := q241
      obtain rfl := ee.symm
      refine ⟨_, fun _ hx => Or.inl hx, ?_⟩
      show oGo l Z a0 EL True pP eE sS mM _ bB tT cC _ _ _ _ _ _ _ _ [a159, a147, a139, a6] h208 16 118 312 #[.val (.int i0), .val (.int i1), .val (.int i2), .val (.int i3), .val (.int i4), .val (.int (1 : Int32)), .val (.ref a6), .val (.ref a139), .val (.int (Int32.ofNat p)), .val (.ref a147), .val (.ref y), .val (.int (Int32.ofNat nd)), .val (.int (Int32.ofNat (1 + 1 + nd)))] [.int (1 : Int32)]
      refine oGo.if_eq (pc1 := 315) (pc2 := 417) at_312 rfl (by decide) (fun q => by first | exact absurd q (by decide) | exact absurd (by decide) q) (fun q242 => ?_)
      refine oGo.aload (pc' := 317) at_315 rfl rfl rfl ?_
      refine oGo.iconst (pc' := 318) (v := 4) at_317 rfl (by decide) ?_
      refine oGo.aload (pc' := 320) at_318 rfl rfl rfl ?_
      refine oGo.iload (pc' := 322) at_320 rfl rfl ?_
      refine oGo.iload (pc' := 324) at_322 rfl rfl ?_
      refine oGo.iload (pc' := 326) at_324 rfl rfl ?_
      refine oGo.iload (pc' := 328) at_326 rfl rfl ?_
      refine oGo.invokestatic (pc' := 331) (k' := 16) (n' := 118) (argsL := [.ref y, .int (4 : Int32), .ref a6, .int (1 : Int32), .int (Int32.ofNat p), .int (Int32.ofNat nd), .int (Int32.ofNat (1 + 1 + nd))]) (rest := []) at_328 rfl (w185 hG) (w186 hG) (w187 hG) (w188 hG) (by decide) pd30 rfl rfl rfl (c_at hG y ty a6 4 1 p nd c0 c1 c2 ([c0] ++ [58] ++ dgl p nd) (by decide) (by decide) (by omega) h5 rfl _ f222 Sy) (by simp) (by decide) (Nat.le_of_ble_eq_true rfl) rfl rfl (by decide) (by decide) ?_
      intro v243 h244 sh244 q245
      obtain ⟨rfl, ee⟩ := q245
      obtain rfl := ee.symm
      refine ⟨_, fun _ hx => Or.inl hx, ?_⟩
      show oGo l Z a0 EL True pP eE sS mM _ bB tT cC _ _ _ _ _ _ _ _ [a159, a147, a139, a6] h208 16 118 331 #[.val (.int i0), .val (.int i1), .val (.int i2), .val (.int i3), .val (.int i4), .val (.int (1 : Int32)), .val (.ref a6), .val (.ref a139), .val (.int (Int32.ofNat p)), .val (.ref a147), .val (.ref y), .val (.int (Int32.ofNat nd)), .val (.int (Int32.ofNat (1 + 1 + nd)))] [.int (1 : Int32)]
      refine oGo.if_eq (pc1 := 334) (pc2 := 417) at_331 rfl (by decide) (fun q => by first | exact absurd q (by decide) | exact absurd (by decide) q) (fun q246 => ?_)
      refine oGo.aload (pc' := 336) at_334 rfl rfl rfl ?_
      refine oGo.iconst (pc' := 337) (v := 5) at_336 rfl (by decide) ?_
      refine oGo.aload (pc' := 339) at_337 rfl rfl rfl ?_
      refine oGo.iload (pc' := 341) at_339 rfl rfl ?_
      refine oGo.iload (pc' := 343) at_341 rfl rfl ?_
      refine oGo.iload (pc' := 345) at_343 rfl rfl ?_
      refine oGo.iload (pc' := 347) at_345 rfl rfl ?_
      refine oGo.invokestatic (pc' := 350) (k' := 16) (n' := 118) (argsL := [.ref y, .int (5 : Int32), .ref a6, .int (1 : Int32), .int (Int32.ofNat p), .int (Int32.ofNat nd), .int (Int32.ofNat (1 + 1 + nd))]) (rest := []) at_347 rfl (w185 hG) (w186 hG) (w187 hG) (w188 hG) (by decide) pd30 rfl rfl rfl (c_at hG y ty a6 5 1 p nd c0 c1 c2 ([c0] ++ [58] ++ dgl p nd) (by decide) (by decide) (by omega) h5 rfl _ f222 Sy) (by simp) (by decide) (Nat.le_of_ble_eq_true rfl) rfl rfl (by decide) (by decide) ?_
      intro v247 h248 sh248 q249
      obtain ⟨rfl, ee⟩ := q249
      obtain rfl := ee.symm
      refine ⟨_, fun _ hx => Or.inl hx, ?_⟩
      show oGo l Z a0 EL True pP eE sS mM _ bB tT cC _ _ _ _ _ _ _ _ [a159, a147, a139, a6] h208 16 118 350 #[.val (.int i0), .val (.int i1), .val (.int i2), .val (.int i3), .val (.int i4), .val (.int (1 : Int32)), .val (.ref a6), .val (.ref a139), .val (.int (Int32.ofNat p)), .val (.ref a147), .val (.ref y), .val (.int (Int32.ofNat nd)), .val (.int (Int32.ofNat (1 + 1 + nd)))] [.int (1 : Int32)]
      refine oGo.if_eq (pc1 := 353) (pc2 := 417) at_350 rfl (by decide) (fun q => by first | exact absurd q (by decide) | exact absurd (by decide) q) (fun q250 => ?_)
      refine oGo.aload (pc' := 355) at_353 rfl rfl rfl ?_
      refine oGo.bipush (pc' := 357) (v := 6) at_355 rfl (by decide) ?_
      refine oGo.aload (pc' := 359) at_357 rfl rfl rfl ?_
      refine oGo.iload (pc' := 361) at_359 rfl rfl ?_
      refine oGo.iload (pc' := 363) at_361 rfl rfl ?_
      refine oGo.iload (pc' := 365) at_363 rfl rfl ?_
      refine oGo.iload (pc' := 367) at_365 rfl rfl ?_
      refine oGo.invokestatic (pc' := 370) (k' := 16) (n' := 118) (argsL := [.ref y, .int (6 : Int32), .ref a6, .int (1 : Int32), .int (Int32.ofNat p), .int (Int32.ofNat nd), .int (Int32.ofNat (1 + 1 + nd))]) (rest := []) at_367 rfl (w185 hG) (w186 hG) (w187 hG) (w188 hG) (by decide) pd30 rfl rfl rfl (c_at hG y ty a6 6 1 p nd c0 c1 c2 ([c0] ++ [58] ++ dgl p nd) (by decide) (by decide) (by omega) h5 rfl _ f222 Sy) (by simp) (by decide) (Nat.le_of_ble_eq_true rfl) rfl rfl (by decide) (by decide) ?_
      intro v251 h252 sh252 q253
      obtain ⟨rfl, ee⟩ := q253
      obtain rfl := ee.symm
      refine ⟨_, fun _ hx => Or.inl hx, ?_⟩
      show oGo l Z a0 EL True pP eE sS mM _ bB tT cC _ _ _ _ _ _ _ _ [a159, a147, a139, a6] h208 16 118 370 #[.val (.int i0), .val (.int i1), .val (.int i2), .val (.int i3), .val (.int i4), .val (.int (1 : Int32)), .val (.ref a6), .val (.ref a139), .val (.int (Int32.ofNat p)), .val (.ref a147), .val (.ref y), .val (.int (Int32.ofNat nd)), .val (.int (Int32.ofNat (1 + 1 + nd)))] [.int (1 : Int32)]
      refine oGo.if_eq (pc1 := 373) (pc2 := 417) at_370 rfl (by decide) (fun q => by first | exact absurd q (by decide) | exact absurd (by decide) q) (fun q254 => ?_)
      refine oGo.aload (pc' := 375) at_373 rfl rfl rfl ?_
      refine oGo.bipush (pc' := 377) (v := 7) at_375 rfl (by decide) ?_
      refine oGo.aload (pc' := 379) at_377 rfl rfl rfl ?_
      refine oGo.iload (pc' := 381) at_379 rfl rfl ?_
      refine oGo.iload (pc' := 383) at_381 rfl rfl ?_
      refine oGo.iload (pc' := 385) at_383 rfl rfl ?_
      refine oGo.iload (pc' := 387) at_385 rfl rfl ?_
      refine oGo.invokestatic (pc' := 390) (k' := 16) (n' := 118) (argsL := [.ref y, .int (7 : Int32), .ref a6, .int (1 : Int32), .int (Int32.ofNat p), .int (Int32.ofNat nd), .int (Int32.ofNat (1 + 1 + nd))]) (rest := []) at_387 rfl (w185 hG) (w186 hG) (w187 hG) (w188 hG) (by decide) pd30 rfl rfl rfl (c_at hG y ty a6 7 1 p nd c0 c1 c2 ([c0] ++ [58] ++ dgl p nd) (by decide) (by decide) (by omega) h5 rfl _ f222 Sy) (by simp) (by decide) (Nat.le_of_ble_eq_true rfl) rfl rfl (by decide) (by decide) ?_
      intro v255 h256 sh256 q257
      obtain ⟨rfl, ee⟩ := q257
      obtain rfl := ee.symm
      refine ⟨_, fun _ hx => Or.inl hx, ?_⟩
      show oGo l Z a0 EL True pP eE sS mM _ bB tT cC _ _ _ _ _ _ _ _ [a159, a147, a139, a6] h208 16 118 390 #[.val (.int i0), .val (.int i1), .val (.int i2), .val (.int i3), .val (.int i4), .val (.int (1 : Int32)), .val (.ref a6), .val (.ref a139), .val (.int (Int32.ofNat p)), .val (.ref a147), .val (.ref y), .val (.int (Int32.ofNat nd)), .val (.int (Int32.ofNat (1 + 1 + nd)))] [.int (1 : Int32)]
      refine oGo.if_eq (pc1 := 393) (pc2 := 417) at_390 rfl (by decide) (fun q => by first | exact absurd q (by decide) | exact absurd (by decide) q) (fun q258 => ?_)
      refine oGo.aload (pc' := 395) at_393 rfl rfl rfl ?_
      refine oGo.bipush (pc' := 397) (v := 8) at_395 rfl (by decide) ?_
      refine oGo.aload (pc' := 399) at_397 rfl rfl rfl ?_
      refine oGo.iload (pc' := 401) at_399 rfl rfl ?_
      refine oGo.iload (pc' := 403) at_401 rfl rfl ?_
      refine oGo.iload (pc' := 405) at_403 rfl rfl ?_
      refine oGo.iload (pc' := 407) at_405 rfl rfl ?_
      refine oGo.invokestatic (pc' := 410) (k' := 16) (n' := 118) (argsL := [.ref y, .int (8 : Int32), .ref a6, .int (1 : Int32), .int (Int32.ofNat p), .int (Int32.ofNat nd), .int (Int32.ofNat (1 + 1 + nd))]) (rest := []) at_407 rfl (w185 hG) (w186 hG) (w187 hG) (w188 hG) (by decide) pd30 rfl rfl rfl (c_at hG y ty a6 8 1 p nd c0 c1 c2 ([c0] ++ [58] ++ dgl p nd) (by decide) (by decide) (by omega) h5 rfl _ f222 Sy) (by simp) (by decide) (Nat.le_of_ble_eq_true rfl) rfl rfl (by decide) (by decide) ?_
      intro v259 h260 sh260 q261
      obtain ⟨rfl, ee⟩ := q261
      obtain rfl := ee.symm
      refine ⟨_, fun _ hx => Or.inl hx, ?_⟩
      show oGo l Z a0 EL True pP eE sS mM _ bB tT cC _ _ _ _ _ _ _ _ [a159, a147, a139, a6] h208 16 118 410 #[.val (.int i0), .val (.int i1), .val (.int i2), .val (.int i3), .val (.int i4), .val (.int (1 : Int32)), .val (.ref a6), .val (.ref a139), .val (.int (Int32.ofNat p)), .val (.ref a147), .val (.ref y), .val (.int (Int32.ofNat nd)), .val (.int (Int32.ofNat (1 + 1 + nd)))] [.int (1 : Int32)]
      refine oGo.if_eq (pc1 := 413) (pc2 := 417) at_410 rfl (by decide) (fun q => by first | exact absurd q (by decide) | exact absurd (by decide) q) (fun q262 => ?_)
      refine oGo.iconst (pc' := 414) (v := 1) at_413 rfl (by decide) ?_
      refine oGo.goto (pc' := 418) at_414 (by decide) ?_
      exact oGo.nreturn at_418 rfl (by simp) rfl (by decide) (by decide) rfl (fun _ q => q.elim)
    refine oGo.iload (pc' := 166) at_164 rfl rfl ?_
    refine oGo.sipush (pc' := 169) (v := 10000) at_166 rfl (by decide) ?_
    refine oGo.icmp_lt (pc1 := 172) (pc2 := 176) at_169 rfl (by decide) (fun q5 => ?_) (fun q5 => ?_)
    rotate_left
    · rw [show (10000 : Int32) = Int32.ofNat 10000 from rfl, own_lt (by omega) (by omega)] at q5
      obtain rfl : nd = 5 := by omega
      refine oGo.iconst (pc' := 173) (v := 5) at_172 rfl (by decide) ?_
      refine oGo.goto (pc' := 211) at_173 (by decide) ?_
      exact J
    rw [show (10000 : Int32) = Int32.ofNat 10000 from rfl, own_lt (by omega) (by omega)] at q5
    refine oGo.iload (pc' := 178) at_176 rfl rfl ?_
    refine oGo.sipush (pc' := 181) (v := 1000) at_178 rfl (by decide) ?_
    refine oGo.icmp_lt (pc1 := 184) (pc2 := 188) at_181 rfl (by decide) (fun q4 => ?_) (fun q4 => ?_)
    rotate_left
    · rw [show (1000 : Int32) = Int32.ofNat 1000 from rfl, own_lt (by omega) (by omega)] at q4
      obtain rfl : nd = 4 := by omega
      refine oGo.iconst (pc' := 185) (v := 4) at_184 rfl (by decide) ?_
      refine oGo.goto (pc' := 211) at_185 (by decide) ?_
      exact J
    rw [show (1000 : Int32) = Int32.ofNat 1000 from rfl, own_lt (by omega) (by omega)] at q4
    refine oGo.iload (pc' := 190) at_188 rfl rfl ?_
    refine oGo.bipush (pc' := 192) (v := 100) at_190 rfl (by decide) ?_
    refine oGo.icmp_lt (pc1 := 195) (pc2 := 199) at_192 rfl (by decide) (fun q3 => ?_) (fun q3 => ?_)
    rotate_left
    · rw [show (100 : Int32) = Int32.ofNat 100 from rfl, own_lt (by omega) (by omega)] at q3
      obtain rfl : nd = 3 := by omega
      refine oGo.iconst (pc' := 196) (v := 3) at_195 rfl (by decide) ?_
      refine oGo.goto (pc' := 211) at_196 (by decide) ?_
      exact J
    rw [show (100 : Int32) = Int32.ofNat 100 from rfl, own_lt (by omega) (by omega)] at q3
    refine oGo.iload (pc' := 201) at_199 rfl rfl ?_
    refine oGo.bipush (pc' := 203) (v := 10) at_201 rfl (by decide) ?_
    refine oGo.icmp_lt (pc1 := 206) (pc2 := 210) at_203 rfl (by decide) (fun q2 => ?_) (fun q2 => ?_)
    rotate_left
    · rw [show (10 : Int32) = Int32.ofNat 10 from rfl, own_lt (by omega) (by omega)] at q2
      obtain rfl : nd = 2 := by omega
      refine oGo.iconst (pc' := 207) (v := 2) at_206 rfl (by decide) ?_
      refine oGo.goto (pc' := 211) at_207 (by decide) ?_
      exact J
    rw [show (10 : Int32) = Int32.ofNat 10 from rfl, own_lt (by omega) (by omega)] at q2
    obtain rfl : nd = 1 := by omega
    refine oGo.iconst (pc' := 211) (v := 1) at_210 rfl (by decide) ?_
    exact J
  · show oGo l Z a0 EL True pP eE sS mM _ bB tT cC _ _ _ _ _ _ _ _ [a6] h15 1 3 37 #[.val (.int i0), .val (.int i1), .val (.int i2), .val (.int i3), .val (.int i4), .val (.int (2 : Int32)), .val (.ref a6), .unset, .unset, .unset, .unset, .unset, .unset] []
    refine oGo.iload (pc' := 39) at_37 rfl rfl ?_
    refine oGo.if_ne (pc1 := 42) (pc2 := 50) at_39 rfl (by decide) (fun q263 => ?_) (fun q => by first | exact absurd q (by decide) | exact absurd (by decide) q)
    refine oGo.iload (pc' := 52) at_50 rfl rfl ?_
    refine oGo.iconst (pc' := 53) (v := 1) at_52 rfl (by decide) ?_
    refine oGo.icmp_ne (pc1 := 56) (pc2 := 71) at_53 rfl (by decide) (fun q264 => ?_) (fun q => by first | exact absurd q (by decide) | exact absurd (by decide) q)
    refine oGo.iload (pc' := 73) at_71 rfl rfl ?_
    refine oGo.iconst (pc' := 74) (v := 2) at_73 rfl (by decide) ?_
    refine oGo.icmp_ne (pc1 := 77) (pc2 := 99) at_74 rfl (by decide) (fun q => by first | exact absurd q (by decide) | exact absurd (by decide) q) (fun q265 => ?_)
    refine oGo.iconst (pc' := 78) (v := 2) at_77 rfl (by decide) ?_
    refine oGo.newarray (pc' := 80) (k' := 2) (n' := 5) (i := 2) at_78 rfl (w0 hG) rfl 2 (by decide) (by decide) rfl rfl (by decide) (by decide) (by decide) ?_
    intro h266 a267 qa267 la267 E268 A269'
    have A269 : oArr Z h266 a267 .char (List.replicate (2) (.int 0)) := A269'
    refine oGo.dup (pc' := 81) at_80 rfl rfl ?_
    refine oGo.iconst (pc' := 82) (v := 0) at_81 rfl (by decide) ?_
    refine oGo.aload (pc' := 84) at_82 rfl rfl rfl ?_
    refine oGo.iconst (pc' := 85) (v := 0) at_84 rfl (by decide) ?_
    have f270 := oArr.ext E268 A18
    refine oGo.caload (pc' := 86) (i := 0) at_85 rfl f270 rfl (v := .int c0) rfl ?_
    refine oGo.castore (pc' := 87) (i := 0) (w := c0) at_86 rfl A269 rfl (by simp) (nar_char bc0.1 (own_255 bc0.2)) (by simp) ?_
    intro h271 W272 sh271 A273
    refine oGo.dup (pc' := 88) at_87 rfl rfl ?_
    refine oGo.iconst (pc' := 89) (v := 1) at_88 rfl (by decide) ?_
    refine oGo.aload (pc' := 91) at_89 rfl rfl rfl ?_
    refine oGo.iconst (pc' := 92) (v := 1) at_91 rfl (by decide) ?_
    have g275 := own_lt_le (x := a6) la6 (Nat.le_of_eq (Wr.size W10).symm)
    have g276 := own_lt_le (x := a6) g275 (Nat.le_of_eq (Wr.size W13).symm)
    have g277 := own_lt_le (x := a6) g276 (Nat.le_of_eq (Wr.size W16).symm)
    have f274 := oArr.other W272 f270 (own_ne_ge (x := a6) (y := a267) g277 (own_ge_eq qa267))
    refine oGo.caload (pc' := 93) (i := 1) at_92 rfl f274 rfl (v := .int c1) rfl ?_
    refine oGo.castore (pc' := 94) (i := 1) (w := c1) at_93 rfl A273 rfl (by simp) (nar_char bc1.1 (own_255 bc1.2)) (by simp) ?_
    intro h278 W279 sh278 A280
    refine oGo.astore (pc' := 96) (Ls' := #[.val (.int i0), .val (.int i1), .val (.int i2), .val (.int i3), .val (.int i4), .val (.int (2 : Int32)), .val (.ref a6), .val (.ref a267), .unset, .unset, .unset, .unset, .unset]) at_94 rfl rfl rfl ?_
    refine oGo.goto (pc' := 125) at_96 (by decide) ?_
    refine oGo.iconst (pc' := 126) (v := 1) at_125 rfl (by decide) ?_
    refine oGo.iload (pc' := 128) at_126 rfl rfl ?_
    refine oGo.ldc_int (pc' := 130) at_128 rfl (w1 hG) ?_
    refine oGo.iand (pc' := 131) at_130 rfl ?_
    refine oGo.ldc_int (pc' := 133) at_131 rfl (w2 hG) ?_
    refine oGo.irem (pc' := 134) at_133 rfl (by decide) ?_
    obtain ⟨q, hq, eqp⟩ := own_port i4
    rw [eqp]
    refine oGo.iadd (pc' := 135) at_134 rfl ?_
    rw [own_1add]
    obtain ⟨p, hp⟩ : ∃ p, p = q + 1 := ⟨_, rfl⟩
    rw [← hp]
    obtain ⟨nd, hnd⟩ : ∃ nd, ndF p = nd := ⟨_, rfl⟩
    have hcs := nd_cases hnd (by omega)
    have h5 : nd ≤ 5 := by omega
    refine oGo.istore (pc' := 137) (Ls' := #[.val (.int i0), .val (.int i1), .val (.int i2), .val (.int i3), .val (.int i4), .val (.int (2 : Int32)), .val (.ref a6), .val (.ref a267), .val (.int (Int32.ofNat p)), .unset, .unset, .unset, .unset]) at_135 rfl rfl ?_
    refine oGo.new (pc' := 140) (k' := 3) (n' := 9) at_137 rfl (w3 hG) (w4 hG) (w5 hG) rfl rfl (by decide) (by decide) ?_
    intro h281 a282 qa282 la282 E283 X284 F285
    have f286 := F285 (Or.inr (w29 hG)) (ty := .byte) (by decide)
    have f287 := F285 (Or.inr (w31 hG)) (ty := (.array .byte)) (by decide)
    refine oGo.dup (pc' := 141) at_140 rfl rfl ?_
    refine oGo.aload (pc' := 143) at_141 rfl rfl rfl ?_
    have f288 := oArr.ext E283 A280
    have A289 : oArr Z h281 a267 .char (oI [c0, c1]) := f288
    refine oGo.invokespecial (pc' := 146) (k' := 7) (n' := 17) (a := a282) (argsL := [.ref a267]) (rest := [.ref a282]) at_143 rfl rfl (w6 hG) (w7 hG) (w5 hG) (w8 hG) (by decide) pd28 rfl rfl rfl (c_strI1 hG a282 a267 [c0, c1] (by simp) (by intro c hc; simp only [List.mem_cons, List.not_mem_nil, or_false] at hc; rcases hc with rfl | rfl <;> first | decide | assumption) _ _ _ A289 X284 f287 f286) (by simp) (by decide) (Nat.le_of_ble_eq_true rfl) rfl rfl (by decide) (by decide) ?_
    intro v290 h291 sh291 q292
    obtain ⟨rfl, KX, tX, SX⟩ := q292
    have lxX := own_ltN SX.1.lt
    have ltX := own_ltN SX.2.2.2.1.lt
    refine ⟨_, fun _ hx => Or.inl hx, ?_⟩
    show oGo l Z a0 EL True pP eE sS mM _ bB tT cC _ _ _ _ _ _ _ _ [a282, a267, a6] h291 7 17 146 #[.val (.int i0), .val (.int i1), .val (.int i2), .val (.int i3), .val (.int i4), .val (.int (2 : Int32)), .val (.ref a6), .val (.ref a267), .val (.int (Int32.ofNat p)), .unset, .unset, .unset, .unset] [.ref a282]
    refine oGo.astore (pc' := 148) (Ls' := #[.val (.int i0), .val (.int i1), .val (.int i2), .val (.int i3), .val (.int i4), .val (.int (2 : Int32)), .val (.ref a6), .val (.ref a267), .val (.int (Int32.ofNat p)), .val (.ref a282), .unset, .unset, .unset]) at_146 rfl rfl rfl ?_
    refine oGo.new (pc' := 151) (k' := 8) (n' := 19) at_148 rfl (w32 hG) (w33 hG) (w34 hG) rfl rfl (by decide) (by decide) ?_
    intro h293 a294 qa294 la294 E295 X296 F297
    have f298 := F297 (Or.inr (w45 hG)) (ty := (.object "java/lang/String")) (by decide)
    have f299 := F297 (Or.inr (w47 hG)) (ty := .int) (by decide)
    refine oGo.dup (pc' := 152) at_151 rfl rfl ?_
    refine oGo.aload (pc' := 154) at_152 rfl rfl rfl ?_
    refine oGo.iload (pc' := 156) at_154 rfl rfl ?_
    refine oGo.invokespecial (pc' := 159) (k' := 8) (n' := 19) (a := a294) (argsL := [.ref a282, .int (Int32.ofNat p)]) (rest := [.ref a294]) at_156 rfl rfl (w35 hG) (w36 hG) (w34 hG) (w37 hG) (by decide) pd29 rfl rfl rfl (c_wa hG a294 a282 _ _ X296 f298 f299) (by simp) (by decide) (Nat.le_of_ble_eq_true rfl) rfl rfl (by decide) (by decide) ?_
    intro v300 h301 sh301 q302
    obtain ⟨rfl, KA, EA, GA1, GA2⟩ := q302
    refine ⟨_, fun _ hx => Or.inl hx, ?_⟩
    show oGo l Z a0 EL True pP eE sS mM _ bB tT cC _ _ _ _ _ _ _ _ [a294, a282, a267, a6] h301 8 19 159 #[.val (.int i0), .val (.int i1), .val (.int i2), .val (.int i3), .val (.int i4), .val (.int (2 : Int32)), .val (.ref a6), .val (.ref a267), .val (.int (Int32.ofNat p)), .val (.ref a282), .unset, .unset, .unset] [.ref a294]
    have f303 := SX.ext E295
    have g305 := own_lt_le (x := a282) la282 KX.1
    have f304 := f303.keep KA (own_nin1 (own_ne_ge (x := a282) (y := a294) g305 (own_ge_eq qa294))) (own_nin1 (own_ne_ge (x := tX) (y := a294) ltX (own_ge_eq qa294)))
    have f306 := oArr.ext E7 f2
    have f307 := oArr.other W10 f306 (own_ne_ge (x := dO) (y := a6) (own_ltN f2.lt) (own_ge_eq qa6))
    have f308 := oArr.other W13 f307 (own_ne_ge (x := dO) (y := a6) (own_ltN f2.lt) (own_ge_eq qa6))
    have f309 := oArr.other W16 f308 (own_ne_ge (x := dO) (y := a6) (own_ltN f2.lt) (own_ge_eq qa6))
    have f310 := oArr.ext E268 f309
    have g312 := own_lt_le (x := dO) (own_ltN f2.lt) E7.1
    have g313 := own_lt_le (x := dO) g312 (Nat.le_of_eq (Wr.size W10).symm)
    have g314 := own_lt_le (x := dO) g313 (Nat.le_of_eq (Wr.size W13).symm)
    have g315 := own_lt_le (x := dO) g314 (Nat.le_of_eq (Wr.size W16).symm)
    have f311 := oArr.other W272 f310 (own_ne_ge (x := dO) (y := a267) g315 (own_ge_eq qa267))
    have f316 := oArr.other W279 f311 (own_ne_ge (x := dO) (y := a267) g315 (own_ge_eq qa267))
    have f317 := oArr.ext E283 f316
    have g319 := own_lt_le (x := dO) g315 E268.1
    have g320 := own_lt_le (x := dO) g319 (Nat.le_of_eq (Wr.size W272).symm)
    have g321 := own_lt_le (x := dO) g320 (Nat.le_of_eq (Wr.size W279).symm)
    have f318 := oArr.keep f317 KX (own_nin1 (own_ne_ge (x := dO) (y := a282) g321 (own_ge_eq qa282)))
    have f322 := oArr.ext E295 f318
    have g324 := own_lt_le (x := dO) g321 E283.1
    have g325 := own_lt_le (x := dO) g324 KX.1
    have f323 := oArr.keep f322 KA (own_nin1 (own_ne_ge (x := dO) (y := a294) g325 (own_ge_eq qa294)))
    have f326 := oArr.ext E7 f4
    have f327 := oArr.other W10 f326 (own_ne_ge (x := dT) (y := a6) (own_ltN f4.lt) (own_ge_eq qa6))
    have f328 := oArr.other W13 f327 (own_ne_ge (x := dT) (y := a6) (own_ltN f4.lt) (own_ge_eq qa6))
    have f329 := oArr.other W16 f328 (own_ne_ge (x := dT) (y := a6) (own_ltN f4.lt) (own_ge_eq qa6))
    have f330 := oArr.ext E268 f329
    have g332 := own_lt_le (x := dT) (own_ltN f4.lt) E7.1
    have g333 := own_lt_le (x := dT) g332 (Nat.le_of_eq (Wr.size W10).symm)
    have g334 := own_lt_le (x := dT) g333 (Nat.le_of_eq (Wr.size W13).symm)
    have g335 := own_lt_le (x := dT) g334 (Nat.le_of_eq (Wr.size W16).symm)
    have f331 := oArr.other W272 f330 (own_ne_ge (x := dT) (y := a267) g335 (own_ge_eq qa267))
    have f336 := oArr.other W279 f331 (own_ne_ge (x := dT) (y := a267) g335 (own_ge_eq qa267))
    have f337 := oArr.ext E283 f336
    have g339 := own_lt_le (x := dT) g335 E268.1
    have g340 := own_lt_le (x := dT) g339 (Nat.le_of_eq (Wr.size W272).symm)
    have g341 := own_lt_le (x := dT) g340 (Nat.le_of_eq (Wr.size W279).symm)
    have f338 := oArr.keep f337 KX (own_nin1 (own_ne_ge (x := dT) (y := a282) g341 (own_ge_eq qa282)))
    have f342 := oArr.ext E295 f338
    have g344 := own_lt_le (x := dT) g341 E283.1
    have g345 := own_lt_le (x := dT) g344 KX.1
    have f343 := oArr.keep f342 KA (own_nin1 (own_ne_ge (x := dT) (y := a294) g345 (own_ge_eq qa294)))
    refine oGo.invokevirtual (pc' := 162) (k' := 16) (n' := 119) (a := a294) (argsL := []) (rest := []) at_159 rfl (w48 hG) (w49 hG) (w51 hG) (w51 hG) rfl (w50 hG) (w34 hG) (w52 hG) (by decide) pd26 rfl rfl rfl EA (c_ts hG a294 a282 tX p nd dO dT [c0, c1] (by simp) (by omega) hnd _ GA1 GA2 f304 SO ST f323 f343) (by simp) (by decide) (Nat.le_of_ble_eq_true rfl) rfl rfl (by decide) (by decide) ?_
    intro v346 h347 sh347 q348
    obtain ⟨KT, y, ty, rfl, gy, gty, Sy⟩ := q348
    refine ⟨_, fun _ hx => Or.inl hx, ?_⟩
    show oGo l Z a0 EL True pP eE sS mM _ bB tT cC _ _ _ _ _ _ _ _ [a294, a282, a267, a6] h347 16 119 162 #[.val (.int i0), .val (.int i1), .val (.int i2), .val (.int i3), .val (.int i4), .val (.int (2 : Int32)), .val (.ref a6), .val (.ref a267), .val (.int (Int32.ofNat p)), .val (.ref a282), .unset, .unset, .unset] [.ref y]
    refine oGo.astore (pc' := 164) (Ls' := #[.val (.int i0), .val (.int i1), .val (.int i2), .val (.int i3), .val (.int i4), .val (.int (2 : Int32)), .val (.ref a6), .val (.ref a267), .val (.int (Int32.ofNat p)), .val (.ref a282), .val (.ref y), .unset, .unset]) at_162 rfl rfl rfl ?_
    have f349 := oArr.other W279 f274 (own_ne_ge (x := a6) (y := a267) g277 (own_ge_eq qa267))
    have f350 := oArr.ext E283 f349
    have g352 := own_lt_le (x := a6) g277 E268.1
    have g353 := own_lt_le (x := a6) g352 (Nat.le_of_eq (Wr.size W272).symm)
    have g354 := own_lt_le (x := a6) g353 (Nat.le_of_eq (Wr.size W279).symm)
    have f351 := oArr.keep f350 KX (own_nin1 (own_ne_ge (x := a6) (y := a282) g354 (own_ge_eq qa282)))
    have f355 := oArr.ext E295 f351
    have g357 := own_lt_le (x := a6) g354 E283.1
    have g358 := own_lt_le (x := a6) g357 KX.1
    have f356 := oArr.keep f355 KA (own_nin1 (own_ne_ge (x := a6) (y := a294) g358 (own_ge_eq qa294)))
    have f359 := oArr.keep f356 KT nin0
    have J : oGo l Z a0 EL True pP eE sS mM #[.int i0, .int i1, .int i2, .int i3, .int i4] bB tT cC room_1 "com/example/meander/meander/cluster/WorkerAddressToStringPinLaw" code 13 (some .boolean) "law" (fun v h' => v = some (.int 1)) oNo [a294, a282, a267, a6] h347 16 119 211 #[.val (.int i0), .val (.int i1), .val (.int i2), .val (.int i3), .val (.int i4), .val (.int (2 : Int32)), .val (.ref a6), .val (.ref a267), .val (.int (Int32.ofNat p)), .val (.ref a282), .val (.ref y), .unset, .unset] [.int (Int32.ofNat nd)] := by
      refine oGo.istore (pc' := 213) (Ls' := #[.val (.int i0), .val (.int i1), .val (.int i2), .val (.int i3), .val (.int i4), .val (.int (2 : Int32)), .val (.ref a6), .val (.ref a267), .val (.int (Int32.ofNat p)), .val (.ref a282), .val (.ref y), .val (.int (Int32.ofNat nd)), .unset]) at_211 rfl rfl ?_
      refine oGo.iload (pc' := 215) at_213 rfl rfl ?_
      refine oGo.iconst (pc' := 216) (v := 1) at_215 rfl (by decide) ?_
      refine oGo.iadd (pc' := 217) at_216 rfl ?_
      rw [show (2 : Int32) + (1 : Int32) = (3 : Int32) from by decide]
      refine oGo.iload (pc' := 219) at_217 rfl rfl ?_
      refine oGo.iadd (pc' := 220) at_219 rfl ?_
      rw [show (3 : Int32) + Int32.ofNat nd = Int32.ofNat (2 + 1 + nd) from (Int32.ofNat_add 3 nd).symm]
      refine oGo.istore (pc' := 222) (Ls' := #[.val (.int i0), .val (.int i1), .val (.int i2), .val (.int i3), .val (.int i4), .val (.int (2 : Int32)), .val (.ref a6), .val (.ref a267), .val (.int (Int32.ofNat p)), .val (.ref a282), .val (.ref y), .val (.int (Int32.ofNat nd)), .val (.int (Int32.ofNat (2 + 1 + nd)))]) at_220 rfl rfl ?_
      refine oGo.aload (pc' := 224) at_222 rfl rfl rfl ?_
      refine oGo.ifnull_n (pc1 := 227) at_224 rfl ?_
      refine oGo.aload (pc' := 229) at_227 rfl rfl rfl ?_
      refine oGo.invokevirtual (pc' := 232) (k' := 16) (n' := 119) (a := y) (argsL := []) (rest := []) at_229 rfl (w184 hG) (w82 hG) (w84 hG) (w84 hG) rfl (w83 hG) (w5 hG) (w85 hG) (by decide) pd11 rfl rfl rfl Sy.1 (c_length hG y ty ([c0, c1] ++ [58] ++ dgl p nd) _ Sy) (by simp) (by decide) (Nat.le_of_ble_eq_true rfl) rfl rfl (by decide) (by decide) ?_
      intro v360 h361 sh361 q362
      obtain ⟨rfl, ee⟩ := q362
      obtain rfl := ee.symm
      refine ⟨_, fun _ hx => Or.inl hx, ?_⟩
      show oGo l Z a0 EL True pP eE sS mM _ bB tT cC _ _ _ _ _ _ _ _ [a294, a282, a267, a6] h347 16 119 232 #[.val (.int i0), .val (.int i1), .val (.int i2), .val (.int i3), .val (.int i4), .val (.int (2 : Int32)), .val (.ref a6), .val (.ref a267), .val (.int (Int32.ofNat p)), .val (.ref a282), .val (.ref y), .val (.int (Int32.ofNat nd)), .val (.int (Int32.ofNat (2 + 1 + nd)))] [.int (Int32.ofNat ([c0, c1] ++ [58] ++ dgl p nd).length)]
      rw [show (([c0, c1] ++ [58] ++ dgl p nd) : List Int32).length = 2 + 1 + nd from (by simp [dgl_len]; try omega)]
      refine oGo.iload (pc' := 234) at_232 rfl rfl ?_
      refine oGo.icmp_eq (pc1 := 237) (pc2 := 239) at_234 rfl (by decide) (fun q363 => ?_) (fun q => absurd rfl q)
      refine oGo.aload (pc' := 241) at_239 rfl rfl rfl ?_
      refine oGo.iconst (pc' := 242) (v := 0) at_241 rfl (by decide) ?_
      refine oGo.aload (pc' := 244) at_242 rfl rfl rfl ?_
      refine oGo.iload (pc' := 246) at_244 rfl rfl ?_
      refine oGo.iload (pc' := 248) at_246 rfl rfl ?_
      refine oGo.iload (pc' := 250) at_248 rfl rfl ?_
      refine oGo.iload (pc' := 252) at_250 rfl rfl ?_
      refine oGo.invokestatic (pc' := 255) (k' := 16) (n' := 119) (argsL := [.ref y, .int (0 : Int32), .ref a6, .int (2 : Int32), .int (Int32.ofNat p), .int (Int32.ofNat nd), .int (Int32.ofNat (2 + 1 + nd))]) (rest := []) at_252 rfl (w185 hG) (w186 hG) (w187 hG) (w188 hG) (by decide) pd30 rfl rfl rfl (c_at hG y ty a6 0 2 p nd c0 c1 c2 ([c0, c1] ++ [58] ++ dgl p nd) (by decide) (by decide) (by omega) h5 rfl _ f359 Sy) (by simp) (by decide) (Nat.le_of_ble_eq_true rfl) rfl rfl (by decide) (by decide) ?_
      intro v364 h365 sh365 q366
      obtain ⟨rfl, ee⟩ := q366
      obtain rfl := ee.symm
      refine ⟨_, fun _ hx => Or.inl hx, ?_⟩
      show oGo l Z a0 EL True pP eE sS mM _ bB tT cC _ _ _ _ _ _ _ _ [a294, a282, a267, a6] h347 16 119 255 #[.val (.int i0), .val (.int i1), .val (.int i2), .val (.int i3), .val (.int i4), .val (.int (2 : Int32)), .val (.ref a6), .val (.ref a267), .val (.int (Int32.ofNat p)), .val (.ref a282), .val (.ref y), .val (.int (Int32.ofNat nd)), .val (.int (Int32.ofNat (2 + 1 + nd)))] [.int (1 : Int32)]
      refine oGo.if_eq (pc1 := 258) (pc2 := 417) at_255 rfl (by decide) (fun q => by first | exact absurd q (by decide) | exact absurd (by decide) q) (fun q367 => ?_)
      refine oGo.aload (pc' := 260) at_258 rfl rfl rfl ?_
      refine oGo.iconst (pc' := 261) (v := 1) at_260 rfl (by decide) ?_
      refine oGo.aload (pc' := 263) at_261 rfl rfl rfl ?_
      refine oGo.iload (pc' := 265) at_263 rfl rfl ?_
      refine oGo.iload (pc' := 267) at_265 rfl rfl ?_
      refine oGo.iload (pc' := 269) at_267 rfl rfl ?_
      refine oGo.iload (pc' := 271) at_269 rfl rfl ?_
      refine oGo.invokestatic (pc' := 274) (k' := 16) (n' := 119) (argsL := [.ref y, .int (1 : Int32), .ref a6, .int (2 : Int32), .int (Int32.ofNat p), .int (Int32.ofNat nd), .int (Int32.ofNat (2 + 1 + nd))]) (rest := []) at_271 rfl (w185 hG) (w186 hG) (w187 hG) (w188 hG) (by decide) pd30 rfl rfl rfl (c_at hG y ty a6 1 2 p nd c0 c1 c2 ([c0, c1] ++ [58] ++ dgl p nd) (by decide) (by decide) (by omega) h5 rfl _ f359 Sy) (by simp) (by decide) (Nat.le_of_ble_eq_true rfl) rfl rfl (by decide) (by decide) ?_
      intro v368 h369 sh369 q370
      obtain ⟨rfl, ee⟩ := q370
      obtain rfl := ee.symm
      refine ⟨_, fun _ hx => Or.inl hx, ?_⟩
      show oGo l Z a0 EL True pP eE sS mM _ bB tT cC _ _ _ _ _ _ _ _ [a294, a282, a267, a6] h347 16 119 274 #[.val (.int i0), .val (.int i1), .val (.int i2), .val (.int i3), .val (.int i4), .val (.int (2 : Int32)), .val (.ref a6), .val (.ref a267), .val (.int (Int32.ofNat p)), .val (.ref a282), .val (.ref y), .val (.int (Int32.ofNat nd)), .val (.int (Int32.ofNat (2 + 1 + nd)))] [.int (1 : Int32)]
      refine oGo.if_eq (pc1 := 277) (pc2 := 417) at_274 rfl (by decide) (fun q => by first | exact absurd q (by decide) | exact absurd (by decide) q) (fun q371 => ?_)
      refine oGo.aload (pc' := 279) at_277 rfl rfl rfl ?_
      refine oGo.iconst (pc' := 280) (v := 2) at_279 rfl (by decide) ?_
      refine oGo.aload (pc' := 282) at_280 rfl rfl rfl ?_
      refine oGo.iload (pc' := 284) at_282 rfl rfl ?_
      refine oGo.iload (pc' := 286) at_284 rfl rfl ?_
      refine oGo.iload (pc' := 288) at_286 rfl rfl ?_
      refine oGo.iload (pc' := 290) at_288 rfl rfl ?_
      refine oGo.invokestatic (pc' := 293) (k' := 16) (n' := 119) (argsL := [.ref y, .int (2 : Int32), .ref a6, .int (2 : Int32), .int (Int32.ofNat p), .int (Int32.ofNat nd), .int (Int32.ofNat (2 + 1 + nd))]) (rest := []) at_290 rfl (w185 hG) (w186 hG) (w187 hG) (w188 hG) (by decide) pd30 rfl rfl rfl (c_at hG y ty a6 2 2 p nd c0 c1 c2 ([c0, c1] ++ [58] ++ dgl p nd) (by decide) (by decide) (by omega) h5 rfl _ f359 Sy) (by simp) (by decide) (Nat.le_of_ble_eq_true rfl) rfl rfl (by decide) (by decide) ?_
      intro v372 h373 sh373 q374
      obtain ⟨rfl, ee⟩ := q374
      obtain rfl := ee.symm
      refine ⟨_, fun _ hx => Or.inl hx, ?_⟩
      show oGo l Z a0 EL True pP eE sS mM _ bB tT cC _ _ _ _ _ _ _ _ [a294, a282, a267, a6] h347 16 119 293 #[.val (.int i0), .val (.int i1), .val (.int i2), .val (.int i3), .val (.int i4), .val (.int (2 : Int32)), .val (.ref a6), .val (.ref a267), .val (.int (Int32.ofNat p)), .val (.ref a282), .val (.ref y), .val (.int (Int32.ofNat nd)), .val (.int (Int32.ofNat (2 + 1 + nd)))] [.int (1 : Int32)]
      refine oGo.if_eq (pc1 := 296) (pc2 := 417) at_293 rfl (by decide) (fun q => by first | exact absurd q (by decide) | exact absurd (by decide) q) (fun q375 => ?_)
      refine oGo.aload (pc' := 298) at_296 rfl rfl rfl ?_
      refine oGo.iconst (pc' := 299) (v := 3) at_298 rfl (by decide) ?_
      refine oGo.aload (pc' := 301) at_299 rfl rfl rfl ?_
      refine oGo.iload (pc' := 303) at_301 rfl rfl ?_
      refine oGo.iload (pc' := 305) at_303 rfl rfl ?_
      refine oGo.iload (pc' := 307) at_305 rfl rfl ?_
      refine oGo.iload (pc' := 309) at_307 rfl rfl ?_
      refine oGo.invokestatic (pc' := 312) (k' := 16) (n' := 119) (argsL := [.ref y, .int (3 : Int32), .ref a6, .int (2 : Int32), .int (Int32.ofNat p), .int (Int32.ofNat nd), .int (Int32.ofNat (2 + 1 + nd))]) (rest := []) at_309 rfl (w185 hG) (w186 hG) (w187 hG) (w188 hG) (by decide) pd30 rfl rfl rfl (c_at hG y ty a6 3 2 p nd c0 c1 c2 ([c0, c1] ++ [58] ++ dgl p nd) (by decide) (by decide) (by omega) h5 rfl _ f359 Sy) (by simp) (by decide) (Nat.le_of_ble_eq_true rfl) rfl rfl (by decide) (by decide) ?_
      intro v376 h377 sh377 q378
      obtain ⟨rfl, ee⟩ := q378
      obtain rfl := ee.symm
      refine ⟨_, fun _ hx => Or.inl hx, ?_⟩
      show oGo l Z a0 EL True pP eE sS mM _ bB tT cC _ _ _ _ _ _ _ _ [a294, a282, a267, a6] h347 16 119 312 #[.val (.int i0), .val (.int i1), .val (.int i2), .val (.int i3), .val (.int i4), .val (.int (2 : Int32)), .val (.ref a6), .val (.ref a267), .val (.int (Int32.ofNat p)), .val (.ref a282), .val (.ref y), .val (.int (Int32.ofNat nd)), .val (.int (Int32.ofNat (2 + 1 + nd)))] [.int (1 : Int32)]
      refine oGo.if_eq (pc1 := 315) (pc2 := 417) at_312 rfl (by decide) (fun q => by first | exact absurd q (by decide) | exact absurd (by decide) q) (fun q379 => ?_)
      refine oGo.aload (pc' := 317) at_315 rfl rfl rfl ?_
      refine oGo.iconst (pc' := 318) (v := 4) at_317 rfl (by decide) ?_
      refine oGo.aload (pc' := 320) at_318 rfl rfl rfl ?_
      refine oGo.iload (pc' := 322) at_320 rfl rfl ?_
      refine oGo.iload (pc' := 324) at_322 rfl rfl ?_
      refine oGo.iload (pc' := 326) at_324 rfl rfl ?_
      refine oGo.iload (pc' := 328) at_326 rfl rfl ?_
      refine oGo.invokestatic (pc' := 331) (k' := 16) (n' := 119) (argsL := [.ref y, .int (4 : Int32), .ref a6, .int (2 : Int32), .int (Int32.ofNat p), .int (Int32.ofNat nd), .int (Int32.ofNat (2 + 1 + nd))]) (rest := []) at_328 rfl (w185 hG) (w186 hG) (w187 hG) (w188 hG) (by decide) pd30 rfl rfl rfl (c_at hG y ty a6 4 2 p nd c0 c1 c2 ([c0, c1] ++ [58] ++ dgl p nd) (by decide) (by decide) (by omega) h5 rfl _ f359 Sy) (by simp) (by decide) (Nat.le_of_ble_eq_true rfl) rfl rfl (by decide) (by decide) ?_
      intro v380 h381 sh381 q382
      obtain ⟨rfl, ee⟩ := q382
      obtain rfl := ee.symm
      refine ⟨_, fun _ hx => Or.inl hx, ?_⟩
      show oGo l Z a0 EL True pP eE sS mM _ bB tT cC _ _ _ _ _ _ _ _ [a294, a282, a267, a6] h347 16 119 331 #[.val (.int i0), .val (.int i1), .val (.int i2), .val (.int i3), .val (.int i4), .val (.int (2 : Int32)), .val (.ref a6), .val (.ref a267), .val (.int (Int32.ofNat p)), .val (.ref a282), .val (.ref y), .val (.int (Int32.ofNat nd)), .val (.int (Int32.ofNat (2 + 1 + nd)))] [.int (1 : Int32)]
      refine oGo.if_eq (pc1 := 334) (pc2 := 417) at_331 rfl (by decide) (fun q => by first | exact absurd q (by decide) | exact absurd (by decide) q) (fun q383 => ?_)
      refine oGo.aload (pc' := 336) at_334 rfl rfl rfl ?_
      refine oGo.iconst (pc' := 337) (v := 5) at_336 rfl (by decide) ?_
      refine oGo.aload (pc' := 339) at_337 rfl rfl rfl ?_
      refine oGo.iload (pc' := 341) at_339 rfl rfl ?_
      refine oGo.iload (pc' := 343) at_341 rfl rfl ?_
      refine oGo.iload (pc' := 345) at_343 rfl rfl ?_
      refine oGo.iload (pc' := 347) at_345 rfl rfl ?_
      refine oGo.invokestatic (pc' := 350) (k' := 16) (n' := 119) (argsL := [.ref y, .int (5 : Int32), .ref a6, .int (2 : Int32), .int (Int32.ofNat p), .int (Int32.ofNat nd), .int (Int32.ofNat (2 + 1 + nd))]) (rest := []) at_347 rfl (w185 hG) (w186 hG) (w187 hG) (w188 hG) (by decide) pd30 rfl rfl rfl (c_at hG y ty a6 5 2 p nd c0 c1 c2 ([c0, c1] ++ [58] ++ dgl p nd) (by decide) (by decide) (by omega) h5 rfl _ f359 Sy) (by simp) (by decide) (Nat.le_of_ble_eq_true rfl) rfl rfl (by decide) (by decide) ?_
      intro v384 h385 sh385 q386
      obtain ⟨rfl, ee⟩ := q386
      obtain rfl := ee.symm
      refine ⟨_, fun _ hx => Or.inl hx, ?_⟩
      show oGo l Z a0 EL True pP eE sS mM _ bB tT cC _ _ _ _ _ _ _ _ [a294, a282, a267, a6] h347 16 119 350 #[.val (.int i0), .val (.int i1), .val (.int i2), .val (.int i3), .val (.int i4), .val (.int (2 : Int32)), .val (.ref a6), .val (.ref a267), .val (.int (Int32.ofNat p)), .val (.ref a282), .val (.ref y), .val (.int (Int32.ofNat nd)), .val (.int (Int32.ofNat (2 + 1 + nd)))] [.int (1 : Int32)]
      refine oGo.if_eq (pc1 := 353) (pc2 := 417) at_350 rfl (by decide) (fun q => by first | exact absurd q (by decide) | exact absurd (by decide) q) (fun q387 => ?_)
      refine oGo.aload (pc' := 355) at_353 rfl rfl rfl ?_
      refine oGo.bipush (pc' := 357) (v := 6) at_355 rfl (by decide) ?_
      refine oGo.aload (pc' := 359) at_357 rfl rfl rfl ?_
      refine oGo.iload (pc' := 361) at_359 rfl rfl ?_
      refine oGo.iload (pc' := 363) at_361 rfl rfl ?_
      refine oGo.iload (pc' := 365) at_363 rfl rfl ?_
      refine oGo.iload (pc' := 367) at_365 rfl rfl ?_
      refine oGo.invokestatic (pc' := 370) (k' := 16) (n' := 119) (argsL := [.ref y, .int (6 : Int32), .ref a6, .int (2 : Int32), .int (Int32.ofNat p), .int (Int32.ofNat nd), .int (Int32.ofNat (2 + 1 + nd))]) (rest := []) at_367 rfl (w185 hG) (w186 hG) (w187 hG) (w188 hG) (by decide) pd30 rfl rfl rfl (c_at hG y ty a6 6 2 p nd c0 c1 c2 ([c0, c1] ++ [58] ++ dgl p nd) (by decide) (by decide) (by omega) h5 rfl _ f359 Sy) (by simp) (by decide) (Nat.le_of_ble_eq_true rfl) rfl rfl (by decide) (by decide) ?_
      intro v388 h389 sh389 q390
      obtain ⟨rfl, ee⟩ := q390
      obtain rfl := ee.symm
      refine ⟨_, fun _ hx => Or.inl hx, ?_⟩
      show oGo l Z a0 EL True pP eE sS mM _ bB tT cC _ _ _ _ _ _ _ _ [a294, a282, a267, a6] h347 16 119 370 #[.val (.int i0), .val (.int i1), .val (.int i2), .val (.int i3), .val (.int i4), .val (.int (2 : Int32)), .val (.ref a6), .val (.ref a267), .val (.int (Int32.ofNat p)), .val (.ref a282), .val (.ref y), .val (.int (Int32.ofNat nd)), .val (.int (Int32.ofNat (2 + 1 + nd)))] [.int (1 : Int32)]
      refine oGo.if_eq (pc1 := 373) (pc2 := 417) at_370 rfl (by decide) (fun q => by first | exact absurd q (by decide) | exact absurd (by decide) q) (fun q391 => ?_)
      refine oGo.aload (pc' := 375) at_373 rfl rfl rfl ?_
      refine oGo.bipush (pc' := 377) (v := 7) at_375 rfl (by decide) ?_
      refine oGo.aload (pc' := 379) at_377 rfl rfl rfl ?_
      refine oGo.iload (pc' := 381) at_379 rfl rfl ?_
      refine oGo.iload (pc' := 383) at_381 rfl rfl ?_
      refine oGo.iload (pc' := 385) at_383 rfl rfl ?_
      refine oGo.iload (pc' := 387) at_385 rfl rfl ?_
      refine oGo.invokestatic (pc' := 390) (k' := 16) (n' := 119) (argsL := [.ref y, .int (7 : Int32), .ref a6, .int (2 : Int32), .int (Int32.ofNat p), .int (Int32.ofNat nd), .int (Int32.ofNat (2 + 1 + nd))]) (rest := []) at_387 rfl (w185 hG) (w186 hG) (w187 hG) (w188 hG) (by decide) pd30 rfl rfl rfl (c_at hG y ty a6 7 2 p nd c0 c1 c2 ([c0, c1] ++ [58] ++ dgl p nd) (by decide) (by decide) (by omega) h5 rfl _ f359 Sy) (by simp) (by decide) (Nat.le_of_ble_eq_true rfl) rfl rfl (by decide) (by decide) ?_
      intro v392 h393 sh393 q394
      obtain ⟨rfl, ee⟩ := q394
      obtain rfl := ee.symm
      refine ⟨_, fun _ hx => Or.inl hx, ?_⟩
      show oGo l Z a0 EL True pP eE sS mM _ bB tT cC _ _ _ _ _ _ _ _ [a294, a282, a267, a6] h347 16 119 390 #[.val (.int i0), .val (.int i1), .val (.int i2), .val (.int i3), .val (.int i4), .val (.int (2 : Int32)), .val (.ref a6), .val (.ref a267), .val (.int (Int32.ofNat p)), .val (.ref a282), .val (.ref y), .val (.int (Int32.ofNat nd)), .val (.int (Int32.ofNat (2 + 1 + nd)))] [.int (1 : Int32)]
      refine oGo.if_eq (pc1 := 393) (pc2 := 417) at_390 rfl (by decide) (fun q => by first | exact absurd q (by decide) | exact absurd (by decide) q) (fun q395 => ?_)
      refine oGo.aload (pc' := 395) at_393 rfl rfl rfl ?_
      refine oGo.bipush (pc' := 397) (v := 8) at_395 rfl (by decide) ?_
      refine oGo.aload (pc' := 399) at_397 rfl rfl rfl ?_
      refine oGo.iload (pc' := 401) at_399 rfl rfl ?_
      refine oGo.iload (pc' := 403) at_401 rfl rfl ?_
      refine oGo.iload (pc' := 405) at_403 rfl rfl ?_
      refine oGo.iload (pc' := 407) at_405 rfl rfl ?_
      refine oGo.invokestatic (pc' := 410) (k' := 16) (n' := 119) (argsL := [.ref y, .int (8 : Int32), .ref a6, .int (2 : Int32), .int (Int32.ofNat p), .int (Int32.ofNat nd), .int (Int32.ofNat (2 + 1 + nd))]) (rest := []) at_407 rfl (w185 hG) (w186 hG) (w187 hG) (w188 hG) (by decide) pd30 rfl rfl rfl (c_at hG y ty a6 8 2 p nd c0 c1 c2 ([c0, c1] ++ [58] ++ dgl p nd) (by decide) (by decide) (by omega) h5 rfl _ f359 Sy) (by simp) (by decide) (Nat.le_of_ble_eq_true rfl) rfl rfl (by decide) (by decide) ?_
      intro v396 h397 sh397 q398
      obtain ⟨rfl, ee⟩ := q398
      obtain rfl := ee.symm
      refine ⟨_, fun _ hx => Or.inl hx, ?_⟩
      show oGo l Z a0 EL True pP eE sS mM _ bB tT cC _ _ _ _ _ _ _ _ [a294, a282, a267, a6] h347 16 119 410 #[.val (.int i0), .val (.int i1), .val (.int i2), .val (.int i3), .val (.int i4), .val (.int (2 : Int32)), .val (.ref a6), .val (.ref a267), .val (.int (Int32.ofNat p)), .val (.ref a282), .val (.ref y), .val (.int (Int32.ofNat nd)), .val (.int (Int32.ofNat (2 + 1 + nd)))] [.int (1 : Int32)]
      refine oGo.if_eq (pc1 := 413) (pc2 := 417) at_410 rfl (by decide) (fun q => by first | exact absurd q (by decide) | exact absurd (by decide) q) (fun q399 => ?_)
      refine oGo.iconst (pc' := 414) (v := 1) at_413 rfl (by decide) ?_
      refine oGo.goto (pc' := 418) at_414 (by decide) ?_
      exact oGo.nreturn at_418 rfl (by simp) rfl (by decide) (by decide) rfl (fun _ q => q.elim)
    refine oGo.iload (pc' := 166) at_164 rfl rfl ?_
    refine oGo.sipush (pc' := 169) (v := 10000) at_166 rfl (by decide) ?_
    refine oGo.icmp_lt (pc1 := 172) (pc2 := 176) at_169 rfl (by decide) (fun q5 => ?_) (fun q5 => ?_)
    rotate_left
    · rw [show (10000 : Int32) = Int32.ofNat 10000 from rfl, own_lt (by omega) (by omega)] at q5
      obtain rfl : nd = 5 := by omega
      refine oGo.iconst (pc' := 173) (v := 5) at_172 rfl (by decide) ?_
      refine oGo.goto (pc' := 211) at_173 (by decide) ?_
      exact J
    rw [show (10000 : Int32) = Int32.ofNat 10000 from rfl, own_lt (by omega) (by omega)] at q5
    refine oGo.iload (pc' := 178) at_176 rfl rfl ?_
    refine oGo.sipush (pc' := 181) (v := 1000) at_178 rfl (by decide) ?_
    refine oGo.icmp_lt (pc1 := 184) (pc2 := 188) at_181 rfl (by decide) (fun q4 => ?_) (fun q4 => ?_)
    rotate_left
    · rw [show (1000 : Int32) = Int32.ofNat 1000 from rfl, own_lt (by omega) (by omega)] at q4
      obtain rfl : nd = 4 := by omega
      refine oGo.iconst (pc' := 185) (v := 4) at_184 rfl (by decide) ?_
      refine oGo.goto (pc' := 211) at_185 (by decide) ?_
      exact J
    rw [show (1000 : Int32) = Int32.ofNat 1000 from rfl, own_lt (by omega) (by omega)] at q4
    refine oGo.iload (pc' := 190) at_188 rfl rfl ?_
    refine oGo.bipush (pc' := 192) (v := 100) at_190 rfl (by decide) ?_
    refine oGo.icmp_lt (pc1 := 195) (pc2 := 199) at_192 rfl (by decide) (fun q3 => ?_) (fun q3 => ?_)
    rotate_left
    · rw [show (100 : Int32) = Int32.ofNat 100 from rfl, own_lt (by omega) (by omega)] at q3
      obtain rfl : nd = 3 := by omega
      refine oGo.iconst (pc' := 196) (v := 3) at_195 rfl (by decide) ?_
      refine oGo.goto (pc' := 211) at_196 (by decide) ?_
      exact J
    rw [show (100 : Int32) = Int32.ofNat 100 from rfl, own_lt (by omega) (by omega)] at q3
    refine oGo.iload (pc' := 201) at_199 rfl rfl ?_
    refine oGo.bipush (pc' := 203) (v := 10) at_201 rfl (by decide) ?_
    refine oGo.icmp_lt (pc1 := 206) (pc2 := 210) at_203 rfl (by decide) (fun q2 => ?_) (fun q2 => ?_)
    rotate_left
    · rw [show (10 : Int32) = Int32.ofNat 10 from rfl, own_lt (by omega) (by omega)] at q2
      obtain rfl : nd = 2 := by omega
      refine oGo.iconst (pc' := 207) (v := 2) at_206 rfl (by decide) ?_
      refine oGo.goto (pc' := 211) at_207 (by decide) ?_
      exact J
    rw [show (10 : Int32) = Int32.ofNat 10 from rfl, own_lt (by omega) (by omega)] at q2
    obtain rfl : nd = 1 := by omega
    refine oGo.iconst (pc' := 211) (v := 1) at_210 rfl (by decide) ?_
    exact J
  · show oGo l Z a0 EL True pP eE sS mM _ bB tT cC _ _ _ _ _ _ _ _ [a6] h15 1 3 37 #[.val (.int i0), .val (.int i1), .val (.int i2), .val (.int i3), .val (.int i4), .val (.int (3 : Int32)), .val (.ref a6), .unset, .unset, .unset, .unset, .unset, .unset] []
    refine oGo.iload (pc' := 39) at_37 rfl rfl ?_
    refine oGo.if_ne (pc1 := 42) (pc2 := 50) at_39 rfl (by decide) (fun q400 => ?_) (fun q => by first | exact absurd q (by decide) | exact absurd (by decide) q)
    refine oGo.iload (pc' := 52) at_50 rfl rfl ?_
    refine oGo.iconst (pc' := 53) (v := 1) at_52 rfl (by decide) ?_
    refine oGo.icmp_ne (pc1 := 56) (pc2 := 71) at_53 rfl (by decide) (fun q401 => ?_) (fun q => by first | exact absurd q (by decide) | exact absurd (by decide) q)
    refine oGo.iload (pc' := 73) at_71 rfl rfl ?_
    refine oGo.iconst (pc' := 74) (v := 2) at_73 rfl (by decide) ?_
    refine oGo.icmp_ne (pc1 := 77) (pc2 := 99) at_74 rfl (by decide) (fun q402 => ?_) (fun q => by first | exact absurd q (by decide) | exact absurd (by decide) q)
    refine oGo.iconst (pc' := 100) (v := 3) at_99 rfl (by decide) ?_
    refine oGo.newarray (pc' := 102) (k' := 2) (n' := 6) (i := 3) at_100 rfl (w0 hG) rfl 3 (by decide) (by decide) rfl rfl (by decide) (by decide) (by decide) ?_
    intro h403 a404 qa404 la404 E405 A406'
    have A406 : oArr Z h403 a404 .char (List.replicate (3) (.int 0)) := A406'
    refine oGo.dup (pc' := 103) at_102 rfl rfl ?_
    refine oGo.iconst (pc' := 104) (v := 0) at_103 rfl (by decide) ?_
    refine oGo.aload (pc' := 106) at_104 rfl rfl rfl ?_
    refine oGo.iconst (pc' := 107) (v := 0) at_106 rfl (by decide) ?_
    have f407 := oArr.ext E405 A18
    refine oGo.caload (pc' := 108) (i := 0) at_107 rfl f407 rfl (v := .int c0) rfl ?_
    refine oGo.castore (pc' := 109) (i := 0) (w := c0) at_108 rfl A406 rfl (by simp) (nar_char bc0.1 (own_255 bc0.2)) (by simp) ?_
    intro h408 W409 sh408 A410
    refine oGo.dup (pc' := 110) at_109 rfl rfl ?_
    refine oGo.iconst (pc' := 111) (v := 1) at_110 rfl (by decide) ?_
    refine oGo.aload (pc' := 113) at_111 rfl rfl rfl ?_
    refine oGo.iconst (pc' := 114) (v := 1) at_113 rfl (by decide) ?_
    have g412 := own_lt_le (x := a6) la6 (Nat.le_of_eq (Wr.size W10).symm)
    have g413 := own_lt_le (x := a6) g412 (Nat.le_of_eq (Wr.size W13).symm)
    have g414 := own_lt_le (x := a6) g413 (Nat.le_of_eq (Wr.size W16).symm)
    have f411 := oArr.other W409 f407 (own_ne_ge (x := a6) (y := a404) g414 (own_ge_eq qa404))
    refine oGo.caload (pc' := 115) (i := 1) at_114 rfl f411 rfl (v := .int c1) rfl ?_
    refine oGo.castore (pc' := 116) (i := 1) (w := c1) at_115 rfl A410 rfl (by simp) (nar_char bc1.1 (own_255 bc1.2)) (by simp) ?_
    intro h415 W416 sh415 A417
    refine oGo.dup (pc' := 117) at_116 rfl rfl ?_
    refine oGo.iconst (pc' := 118) (v := 2) at_117 rfl (by decide) ?_
    refine oGo.aload (pc' := 120) at_118 rfl rfl rfl ?_
    refine oGo.iconst (pc' := 121) (v := 2) at_120 rfl (by decide) ?_
    have f418 := oArr.other W416 f411 (own_ne_ge (x := a6) (y := a404) g414 (own_ge_eq qa404))
    refine oGo.caload (pc' := 122) (i := 2) at_121 rfl f418 rfl (v := .int c2) rfl ?_
    refine oGo.castore (pc' := 123) (i := 2) (w := c2) at_122 rfl A417 rfl (by simp) (nar_char bc2.1 (own_255 bc2.2)) (by simp) ?_
    intro h419 W420 sh419 A421
    refine oGo.astore (pc' := 125) (Ls' := #[.val (.int i0), .val (.int i1), .val (.int i2), .val (.int i3), .val (.int i4), .val (.int (3 : Int32)), .val (.ref a6), .val (.ref a404), .unset, .unset, .unset, .unset, .unset]) at_123 rfl rfl rfl ?_
    refine oGo.iconst (pc' := 126) (v := 1) at_125 rfl (by decide) ?_
    refine oGo.iload (pc' := 128) at_126 rfl rfl ?_
    refine oGo.ldc_int (pc' := 130) at_128 rfl (w1 hG) ?_
    refine oGo.iand (pc' := 131) at_130 rfl ?_
    refine oGo.ldc_int (pc' := 133) at_131 rfl (w2 hG) ?_
    refine oGo.irem (pc' := 134) at_133 rfl (by decide) ?_
    obtain ⟨q, hq, eqp⟩ := own_port i4
    rw [eqp]
    refine oGo.iadd (pc' := 135) at_134 rfl ?_
    rw [own_1add]
    obtain ⟨p, hp⟩ : ∃ p, p = q + 1 := ⟨_, rfl⟩
    rw [← hp]
    obtain ⟨nd, hnd⟩ : ∃ nd, ndF p = nd := ⟨_, rfl⟩
    have hcs := nd_cases hnd (by omega)
    have h5 : nd ≤ 5 := by omega
    refine oGo.istore (pc' := 137) (Ls' := #[.val (.int i0), .val (.int i1), .val (.int i2), .val (.int i3), .val (.int i4), .val (.int (3 : Int32)), .val (.ref a6), .val (.ref a404), .val (.int (Int32.ofNat p)), .unset, .unset, .unset, .unset]) at_135 rfl rfl ?_
    refine oGo.new (pc' := 140) (k' := 3) (n' := 10) at_137 rfl (w3 hG) (w4 hG) (w5 hG) rfl rfl (by decide) (by decide) ?_
    intro h422 a423 qa423 la423 E424 X425 F426
    have f427 := F426 (Or.inr (w29 hG)) (ty := .byte) (by decide)
    have f428 := F426 (Or.inr (w31 hG)) (ty := (.array .byte)) (by decide)
    refine oGo.dup (pc' := 141) at_140 rfl rfl ?_
    refine oGo.aload (pc' := 143) at_141 rfl rfl rfl ?_
    have f429 := oArr.ext E424 A421
    have A430 : oArr Z h422 a404 .char (oI [c0, c1, c2]) := f429
    refine oGo.invokespecial (pc' := 146) (k' := 7) (n' := 18) (a := a423) (argsL := [.ref a404]) (rest := [.ref a423]) at_143 rfl rfl (w6 hG) (w7 hG) (w5 hG) (w8 hG) (by decide) pd28 rfl rfl rfl (c_strI1 hG a423 a404 [c0, c1, c2] (by simp) (by intro c hc; simp only [List.mem_cons, List.not_mem_nil, or_false] at hc; rcases hc with rfl | rfl | rfl <;> first | decide | assumption) _ _ _ A430 X425 f428 f427) (by simp) (by decide) (Nat.le_of_ble_eq_true rfl) rfl rfl (by decide) (by decide) ?_
    intro v431 h432 sh432 q433
    obtain ⟨rfl, KX, tX, SX⟩ := q433
    have lxX := own_ltN SX.1.lt
    have ltX := own_ltN SX.2.2.2.1.lt
    refine ⟨_, fun _ hx => Or.inl hx, ?_⟩
    show oGo l Z a0 EL True pP eE sS mM _ bB tT cC _ _ _ _ _ _ _ _ [a423, a404, a6] h432 7 18 146 #[.val (.int i0), .val (.int i1), .val (.int i2), .val (.int i3), .val (.int i4), .val (.int (3 : Int32)), .val (.ref a6), .val (.ref a404), .val (.int (Int32.ofNat p)), .unset, .unset, .unset, .unset] [.ref a423]
    refine oGo.astore (pc' := 148) (Ls' := #[.val (.int i0), .val (.int i1), .val (.int i2), .val (.int i3), .val (.int i4), .val (.int (3 : Int32)), .val (.ref a6), .val (.ref a404), .val (.int (Int32.ofNat p)), .val (.ref a423), .unset, .unset, .unset]) at_146 rfl rfl rfl ?_
    refine oGo.new (pc' := 151) (k' := 8) (n' := 20) at_148 rfl (w32 hG) (w33 hG) (w34 hG) rfl rfl (by decide) (by decide) ?_
    intro h434 a435 qa435 la435 E436 X437 F438
    have f439 := F438 (Or.inr (w45 hG)) (ty := (.object "java/lang/String")) (by decide)
    have f440 := F438 (Or.inr (w47 hG)) (ty := .int) (by decide)
    refine oGo.dup (pc' := 152) at_151 rfl rfl ?_
    refine oGo.aload (pc' := 154) at_152 rfl rfl rfl ?_
    refine oGo.iload (pc' := 156) at_154 rfl rfl ?_
    refine oGo.invokespecial (pc' := 159) (k' := 8) (n' := 20) (a := a435) (argsL := [.ref a423, .int (Int32.ofNat p)]) (rest := [.ref a435]) at_156 rfl rfl (w35 hG) (w36 hG) (w34 hG) (w37 hG) (by decide) pd29 rfl rfl rfl (c_wa hG a435 a423 _ _ X437 f439 f440) (by simp) (by decide) (Nat.le_of_ble_eq_true rfl) rfl rfl (by decide) (by decide) ?_
    intro v441 h442 sh442 q443
    obtain ⟨rfl, KA, EA, GA1, GA2⟩ := q443
    refine ⟨_, fun _ hx => Or.inl hx, ?_⟩
    show oGo l Z a0 EL True pP eE sS mM _ bB tT cC _ _ _ _ _ _ _ _ [a435, a423, a404, a6] h442 8 20 159 #[.val (.int i0), .val (.int i1), .val (.int i2), .val (.int i3), .val (.int i4), .val (.int (3 : Int32)), .val (.ref a6), .val (.ref a404), .val (.int (Int32.ofNat p)), .val (.ref a423), .unset, .unset, .unset] [.ref a435]
    have f444 := SX.ext E436
    have g446 := own_lt_le (x := a423) la423 KX.1
    have f445 := f444.keep KA (own_nin1 (own_ne_ge (x := a423) (y := a435) g446 (own_ge_eq qa435))) (own_nin1 (own_ne_ge (x := tX) (y := a435) ltX (own_ge_eq qa435)))
    have f447 := oArr.ext E7 f2
    have f448 := oArr.other W10 f447 (own_ne_ge (x := dO) (y := a6) (own_ltN f2.lt) (own_ge_eq qa6))
    have f449 := oArr.other W13 f448 (own_ne_ge (x := dO) (y := a6) (own_ltN f2.lt) (own_ge_eq qa6))
    have f450 := oArr.other W16 f449 (own_ne_ge (x := dO) (y := a6) (own_ltN f2.lt) (own_ge_eq qa6))
    have f451 := oArr.ext E405 f450
    have g453 := own_lt_le (x := dO) (own_ltN f2.lt) E7.1
    have g454 := own_lt_le (x := dO) g453 (Nat.le_of_eq (Wr.size W10).symm)
    have g455 := own_lt_le (x := dO) g454 (Nat.le_of_eq (Wr.size W13).symm)
    have g456 := own_lt_le (x := dO) g455 (Nat.le_of_eq (Wr.size W16).symm)
    have f452 := oArr.other W409 f451 (own_ne_ge (x := dO) (y := a404) g456 (own_ge_eq qa404))
    have f457 := oArr.other W416 f452 (own_ne_ge (x := dO) (y := a404) g456 (own_ge_eq qa404))
    have f458 := oArr.other W420 f457 (own_ne_ge (x := dO) (y := a404) g456 (own_ge_eq qa404))
    have f459 := oArr.ext E424 f458
    have g461 := own_lt_le (x := dO) g456 E405.1
    have g462 := own_lt_le (x := dO) g461 (Nat.le_of_eq (Wr.size W409).symm)
    have g463 := own_lt_le (x := dO) g462 (Nat.le_of_eq (Wr.size W416).symm)
    have g464 := own_lt_le (x := dO) g463 (Nat.le_of_eq (Wr.size W420).symm)
    have f460 := oArr.keep f459 KX (own_nin1 (own_ne_ge (x := dO) (y := a423) g464 (own_ge_eq qa423)))
    have f465 := oArr.ext E436 f460
    have g467 := own_lt_le (x := dO) g464 E424.1
    have g468 := own_lt_le (x := dO) g467 KX.1
    have f466 := oArr.keep f465 KA (own_nin1 (own_ne_ge (x := dO) (y := a435) g468 (own_ge_eq qa435)))
    have f469 := oArr.ext E7 f4
    have f470 := oArr.other W10 f469 (own_ne_ge (x := dT) (y := a6) (own_ltN f4.lt) (own_ge_eq qa6))
    have f471 := oArr.other W13 f470 (own_ne_ge (x := dT) (y := a6) (own_ltN f4.lt) (own_ge_eq qa6))
    have f472 := oArr.other W16 f471 (own_ne_ge (x := dT) (y := a6) (own_ltN f4.lt) (own_ge_eq qa6))
    have f473 := oArr.ext E405 f472
    have g475 := own_lt_le (x := dT) (own_ltN f4.lt) E7.1
    have g476 := own_lt_le (x := dT) g475 (Nat.le_of_eq (Wr.size W10).symm)
    have g477 := own_lt_le (x := dT) g476 (Nat.le_of_eq (Wr.size W13).symm)
    have g478 := own_lt_le (x := dT) g477 (Nat.le_of_eq (Wr.size W16).symm)
    have f474 := oArr.other W409 f473 (own_ne_ge (x := dT) (y := a404) g478 (own_ge_eq qa404))
    have f479 := oArr.other W416 f474 (own_ne_ge (x := dT) (y := a404) g478 (own_ge_eq qa404))
    have f480 := oArr.other W420 f479 (own_ne_ge (x := dT) (y := a404) g478 (own_ge_eq qa404))
    have f481 := oArr.ext E424 f480
    have g483 := own_lt_le (x := dT) g478 E405.1
    have g484 := own_lt_le (x := dT) g483 (Nat.le_of_eq (Wr.size W409).symm)
    have g485 := own_lt_le (x := dT) g484 (Nat.le_of_eq (Wr.size W416).symm)
    have g486 := own_lt_le (x := dT) g485 (Nat.le_of_eq (Wr.size W420).symm)
    have f482 := oArr.keep f481 KX (own_nin1 (own_ne_ge (x := dT) (y := a423) g486 (own_ge_eq qa423)))
    have f487 := oArr.ext E436 f482
    have g489 := own_lt_le (x := dT) g486 E424.1
    have g490 := own_lt_le (x := dT) g489 KX.1
    have f488 := oArr.keep f487 KA (own_nin1 (own_ne_ge (x := dT) (y := a435) g490 (own_ge_eq qa435)))
    refine oGo.invokevirtual (pc' := 162) (k' := 16) (n' := 120) (a := a435) (argsL := []) (rest := []) at_159 rfl (w48 hG) (w49 hG) (w51 hG) (w51 hG) rfl (w50 hG) (w34 hG) (w52 hG) (by decide) pd26 rfl rfl rfl EA (c_ts hG a435 a423 tX p nd dO dT [c0, c1, c2] (by simp) (by omega) hnd _ GA1 GA2 f445 SO ST f466 f488) (by simp) (by decide) (Nat.le_of_ble_eq_true rfl) rfl rfl (by decide) (by decide) ?_
    intro v491 h492 sh492 q493
    obtain ⟨KT, y, ty, rfl, gy, gty, Sy⟩ := q493
    refine ⟨_, fun _ hx => Or.inl hx, ?_⟩
    show oGo l Z a0 EL True pP eE sS mM _ bB tT cC _ _ _ _ _ _ _ _ [a435, a423, a404, a6] h492 16 120 162 #[.val (.int i0), .val (.int i1), .val (.int i2), .val (.int i3), .val (.int i4), .val (.int (3 : Int32)), .val (.ref a6), .val (.ref a404), .val (.int (Int32.ofNat p)), .val (.ref a423), .unset, .unset, .unset] [.ref y]
    refine oGo.astore (pc' := 164) (Ls' := #[.val (.int i0), .val (.int i1), .val (.int i2), .val (.int i3), .val (.int i4), .val (.int (3 : Int32)), .val (.ref a6), .val (.ref a404), .val (.int (Int32.ofNat p)), .val (.ref a423), .val (.ref y), .unset, .unset]) at_162 rfl rfl rfl ?_
    have f494 := oArr.other W420 f418 (own_ne_ge (x := a6) (y := a404) g414 (own_ge_eq qa404))
    have f495 := oArr.ext E424 f494
    have g497 := own_lt_le (x := a6) g414 E405.1
    have g498 := own_lt_le (x := a6) g497 (Nat.le_of_eq (Wr.size W409).symm)
    have g499 := own_lt_le (x := a6) g498 (Nat.le_of_eq (Wr.size W416).symm)
    have g500 := own_lt_le (x := a6) g499 (Nat.le_of_eq (Wr.size W420).symm)
    have f496 := oArr.keep f495 KX (own_nin1 (own_ne_ge (x := a6) (y := a423) g500 (own_ge_eq qa423)))
    have f501 := oArr.ext E436 f496
    have g503 := own_lt_le (x := a6) g500 E424.1
    have g504 := own_lt_le (x := a6) g503 KX.1
    have f502 := oArr.keep f501 KA (own_nin1 (own_ne_ge (x := a6) (y := a435) g504 (own_ge_eq qa435)))
    have f505 := oArr.keep f502 KT nin0
    have J : oGo l Z a0 EL True pP eE sS mM #[.int i0, .int i1, .int i2, .int i3, .int i4] bB tT cC room_1 "com/example/meander/meander/cluster/WorkerAddressToStringPinLaw" code 13 (some .boolean) "law" (fun v h' => v = some (.int 1)) oNo [a435, a423, a404, a6] h492 16 120 211 #[.val (.int i0), .val (.int i1), .val (.int i2), .val (.int i3), .val (.int i4), .val (.int (3 : Int32)), .val (.ref a6), .val (.ref a404), .val (.int (Int32.ofNat p)), .val (.ref a423), .val (.ref y), .unset, .unset] [.int (Int32.ofNat nd)] := by
      refine oGo.istore (pc' := 213) (Ls' := #[.val (.int i0), .val (.int i1), .val (.int i2), .val (.int i3), .val (.int i4), .val (.int (3 : Int32)), .val (.ref a6), .val (.ref a404), .val (.int (Int32.ofNat p)), .val (.ref a423), .val (.ref y), .val (.int (Int32.ofNat nd)), .unset]) at_211 rfl rfl ?_
      refine oGo.iload (pc' := 215) at_213 rfl rfl ?_
      refine oGo.iconst (pc' := 216) (v := 1) at_215 rfl (by decide) ?_
      refine oGo.iadd (pc' := 217) at_216 rfl ?_
      rw [show (3 : Int32) + (1 : Int32) = (4 : Int32) from by decide]
      refine oGo.iload (pc' := 219) at_217 rfl rfl ?_
      refine oGo.iadd (pc' := 220) at_219 rfl ?_
      rw [show (4 : Int32) + Int32.ofNat nd = Int32.ofNat (3 + 1 + nd) from (Int32.ofNat_add 4 nd).symm]
      refine oGo.istore (pc' := 222) (Ls' := #[.val (.int i0), .val (.int i1), .val (.int i2), .val (.int i3), .val (.int i4), .val (.int (3 : Int32)), .val (.ref a6), .val (.ref a404), .val (.int (Int32.ofNat p)), .val (.ref a423), .val (.ref y), .val (.int (Int32.ofNat nd)), .val (.int (Int32.ofNat (3 + 1 + nd)))]) at_220 rfl rfl ?_
      refine oGo.aload (pc' := 224) at_222 rfl rfl rfl ?_
      refine oGo.ifnull_n (pc1 := 227) at_224 rfl ?_
      refine oGo.aload (pc' := 229) at_227 rfl rfl rfl ?_
      refine oGo.invokevirtual (pc' := 232) (k' := 16) (n' := 120) (a := y) (argsL := []) (rest := []) at_229 rfl (w184 hG) (w82 hG) (w84 hG) (w84 hG) rfl (w83 hG) (w5 hG) (w85 hG) (by decide) pd11 rfl rfl rfl Sy.1 (c_length hG y ty ([c0, c1, c2] ++ [58] ++ dgl p nd) _ Sy) (by simp) (by decide) (Nat.le_of_ble_eq_true rfl) rfl rfl (by decide) (by decide) ?_
      intro v506 h507 sh507 q508
      obtain ⟨rfl, ee⟩ := q508
      obtain rfl := ee.symm
      refine ⟨_, fun _ hx => Or.inl hx, ?_⟩
      show oGo l Z a0 EL True pP eE sS mM _ bB tT cC _ _ _ _ _ _ _ _ [a435, a423, a404, a6] h492 16 120 232 #[.val (.int i0), .val (.int i1), .val (.int i2), .val (.int i3), .val (.int i4), .val (.int (3 : Int32)), .val (.ref a6), .val (.ref a404), .val (.int (Int32.ofNat p)), .val (.ref a423), .val (.ref y), .val (.int (Int32.ofNat nd)), .val (.int (Int32.ofNat (3 + 1 + nd)))] [.int (Int32.ofNat ([c0, c1, c2] ++ [58] ++ dgl p nd).length)]
      rw [show (([c0, c1, c2] ++ [58] ++ dgl p nd) : List Int32).length = 3 + 1 + nd from (by simp [dgl_len]; try omega)]
      refine oGo.iload (pc' := 234) at_232 rfl rfl ?_
      refine oGo.icmp_eq (pc1 := 237) (pc2 := 239) at_234 rfl (by decide) (fun q509 => ?_) (fun q => absurd rfl q)
      refine oGo.aload (pc' := 241) at_239 rfl rfl rfl ?_
      refine oGo.iconst (pc' := 242) (v := 0) at_241 rfl (by decide) ?_
      refine oGo.aload (pc' := 244) at_242 rfl rfl rfl ?_
      refine oGo.iload (pc' := 246) at_244 rfl rfl ?_
      refine oGo.iload (pc' := 248) at_246 rfl rfl ?_
      refine oGo.iload (pc' := 250) at_248 rfl rfl ?_
      refine oGo.iload (pc' := 252) at_250 rfl rfl ?_
      refine oGo.invokestatic (pc' := 255) (k' := 16) (n' := 120) (argsL := [.ref y, .int (0 : Int32), .ref a6, .int (3 : Int32), .int (Int32.ofNat p), .int (Int32.ofNat nd), .int (Int32.ofNat (3 + 1 + nd))]) (rest := []) at_252 rfl (w185 hG) (w186 hG) (w187 hG) (w188 hG) (by decide) pd30 rfl rfl rfl (c_at hG y ty a6 0 3 p nd c0 c1 c2 ([c0, c1, c2] ++ [58] ++ dgl p nd) (by decide) (by decide) (by omega) h5 rfl _ f505 Sy) (by simp) (by decide) (Nat.le_of_ble_eq_true rfl) rfl rfl (by decide) (by decide) ?_
      intro v510 h511 sh511 q512
      obtain ⟨rfl, ee⟩ := q512
      obtain rfl := ee.symm
      refine ⟨_, fun _ hx => Or.inl hx, ?_⟩
      show oGo l Z a0 EL True pP eE sS mM _ bB tT cC _ _ _ _ _ _ _ _ [a435, a423, a404, a6] h492 16 120 255 #[.val (.int i0), .val (.int i1), .val (.int i2), .val (.int i3), .val (.int i4), .val (.int (3 : Int32)), .val (.ref a6), .val (.ref a404), .val (.int (Int32.ofNat p)), .val (.ref a423), .val (.ref y), .val (.int (Int32.ofNat nd)), .val (.int (Int32.ofNat (3 + 1 + nd)))] [.int (1 : Int32)]
      refine oGo.if_eq (pc1 := 258) (pc2 := 417) at_255 rfl (by decide) (fun q => by first | exact absurd q (by decide) | exact absurd (by decide) q) (fun q513 => ?_)
      refine oGo.aload (pc' := 260) at_258 rfl rfl rfl ?_
      refine oGo.iconst (pc' := 261) (v := 1) at_260 rfl (by decide) ?_
      refine oGo.aload (pc' := 263) at_261 rfl rfl rfl ?_
      refine oGo.iload (pc' := 265) at_263 rfl rfl ?_
      refine oGo.iload (pc' := 267) at_265 rfl rfl ?_
      refine oGo.iload (pc' := 269) at_267 rfl rfl ?_
      refine oGo.iload (pc' := 271) at_269 rfl rfl ?_
      refine oGo.invokestatic (pc' := 274) (k' := 16) (n' := 120) (argsL := [.ref y, .int (1 : Int32), .ref a6, .int (3 : Int32), .int (Int32.ofNat p), .int (Int32.ofNat nd), .int (Int32.ofNat (3 + 1 + nd))]) (rest := []) at_271 rfl (w185 hG) (w186 hG) (w187 hG) (w188 hG) (by decide) pd30 rfl rfl rfl (c_at hG y ty a6 1 3 p nd c0 c1 c2 ([c0, c1, c2] ++ [58] ++ dgl p nd) (by decide) (by decide) (by omega) h5 rfl _ f505 Sy) (by simp) (by decide) (Nat.le_of_ble_eq_true rfl) rfl rfl (by decide) (by decide) ?_
      intro v514 h515 sh515 q516
      obtain ⟨rfl, ee⟩ := q516
      obtain rfl := ee.symm
      refine ⟨_, fun _ hx => Or.inl hx, ?_⟩
      show oGo l Z a0 EL True pP eE sS mM _ bB tT cC _ _ _ _ _ _ _ _ [a435, a423, a404, a6] h492 16 120 274 #[.val (.int i0), .val (.int i1), .val (.int i2), .val (.int i3), .val (.int i4), .val (.int (3 : Int32)), .val (.ref a6), .val (.ref a404), .val (.int (Int32.ofNat p)), .val (.ref a423), .val (.ref y), .val (.int (Int32.ofNat nd)), .val (.int (Int32.ofNat (3 + 1 + nd)))] [.int (1 : Int32)]
      refine oGo.if_eq (pc1 := 277) (pc2 := 417) at_274 rfl (by decide) (fun q => by first | exact absurd q (by decide) | exact absurd (by decide) q) (fun q517 => ?_)
      refine oGo.aload (pc' := 279) at_277 rfl rfl rfl ?_
      refine oGo.iconst (pc' := 280) (v := 2) at_279 rfl (by decide) ?_
      refine oGo.aload (pc' := 282) at_280 rfl rfl rfl ?_
      refine oGo.iload (pc' := 284) at_282 rfl rfl ?_
      refine oGo.iload (pc' := 286) at_284 rfl rfl ?_
      refine oGo.iload (pc' := 288) at_286 rfl rfl ?_
      refine oGo.iload (pc' := 290) at_288 rfl rfl ?_
      refine oGo.invokestatic (pc' := 293) (k' := 16) (n' := 120) (argsL := [.ref y, .int (2 : Int32), .ref a6, .int (3 : Int32), .int (Int32.ofNat p), .int (Int32.ofNat nd), .int (Int32.ofNat (3 + 1 + nd))]) (rest := []) at_290 rfl (w185 hG) (w186 hG) (w187 hG) (w188 hG) (by decide) pd30 rfl rfl rfl (c_at hG y ty a6 2 3 p nd c0 c1 c2 ([c0, c1, c2] ++ [58] ++ dgl p nd) (by decide) (by decide) (by omega) h5 rfl _ f505 Sy) (by simp) (by decide) (Nat.le_of_ble_eq_true rfl) rfl rfl (by decide) (by decide) ?_
      intro v518 h519 sh519 q520
      obtain ⟨rfl, ee⟩ := q520
      obtain rfl := ee.symm
      refine ⟨_, fun _ hx => Or.inl hx, ?_⟩
      show oGo l Z a0 EL True pP eE sS mM _ bB tT cC _ _ _ _ _ _ _ _ [a435, a423, a404, a6] h492 16 120 293 #[.val (.int i0), .val (.int i1), .val (.int i2), .val (.int i3), .val (.int i4), .val (.int (3 : Int32)), .val (.ref a6), .val (.ref a404), .val (.int (Int32.ofNat p)), .val (.ref a423), .val (.ref y), .val (.int (Int32.ofNat nd)), .val (.int (Int32.ofNat (3 + 1 + nd)))] [.int (1 : Int32)]
      refine oGo.if_eq (pc1 := 296) (pc2 := 417) at_293 rfl (by decide) (fun q => by first | exact absurd q (by decide) | exact absurd (by decide) q) (fun q521 => ?_)
      refine oGo.aload (pc' := 298) at_296 rfl rfl rfl ?_
      refine oGo.iconst (pc' := 299) (v := 3) at_298 rfl (by decide) ?_
      refine oGo.aload (pc' := 301) at_299 rfl rfl rfl ?_
      refine oGo.iload (pc' := 303) at_301 rfl rfl ?_
      refine oGo.iload (pc' := 305) at_303 rfl rfl ?_
      refine oGo.iload (pc' := 307) at_305 rfl rfl ?_
      refine oGo.iload (pc' := 309) at_307 rfl rfl ?_
      refine oGo.invokestatic (pc' := 312) (k' := 16) (n' := 120) (argsL := [.ref y, .int (3 : Int32), .ref a6, .int (3 : Int32), .int (Int32.ofNat p), .int (Int32.ofNat nd), .int (Int32.ofNat (3 + 1 + nd))]) (rest := []) at_309 rfl (w185 hG) (w186 hG) (w187 hG) (w188 hG) (by decide) pd30 rfl rfl rfl (c_at hG y ty a6 3 3 p nd c0 c1 c2 ([c0, c1, c2] ++ [58] ++ dgl p nd) (by decide) (by decide) (by omega) h5 rfl _ f505 Sy) (by simp) (by decide) (Nat.le_of_ble_eq_true rfl) rfl rfl (by decide) (by decide) ?_
      intro v522 h523 sh523 q524
      obtain ⟨rfl, ee⟩ := q524
      obtain rfl := ee.symm
      refine ⟨_, fun _ hx => Or.inl hx, ?_⟩
      show oGo l Z a0 EL True pP eE sS mM _ bB tT cC _ _ _ _ _ _ _ _ [a435, a423, a404, a6] h492 16 120 312 #[.val (.int i0), .val (.int i1), .val (.int i2), .val (.int i3), .val (.int i4), .val (.int (3 : Int32)), .val (.ref a6), .val (.ref a404), .val (.int (Int32.ofNat p)), .val (.ref a423), .val (.ref y), .val (.int (Int32.ofNat nd)), .val (.int (Int32.ofNat (3 + 1 + nd)))] [.int (1 : Int32)]
      refine oGo.if_eq (pc1 := 315) (pc2 := 417) at_312 rfl (by decide) (fun q => by first | exact absurd q (by decide) | exact absurd (by decide) q) (fun q525 => ?_)
      refine oGo.aload (pc' := 317) at_315 rfl rfl rfl ?_
      refine oGo.iconst (pc' := 318) (v := 4) at_317 rfl (by decide) ?_
      refine oGo.aload (pc' := 320) at_318 rfl rfl rfl ?_
      refine oGo.iload (pc' := 322) at_320 rfl rfl ?_
      refine oGo.iload (pc' := 324) at_322 rfl rfl ?_
      refine oGo.iload (pc' := 326) at_324 rfl rfl ?_
      refine oGo.iload (pc' := 328) at_326 rfl rfl ?_
      refine oGo.invokestatic (pc' := 331) (k' := 16) (n' := 120) (argsL := [.ref y, .int (4 : Int32), .ref a6, .int (3 : Int32), .int (Int32.ofNat p), .int (Int32.ofNat nd), .int (Int32.ofNat (3 + 1 + nd))]) (rest := []) at_328 rfl (w185 hG) (w186 hG) (w187 hG) (w188 hG) (by decide) pd30 rfl rfl rfl (c_at hG y ty a6 4 3 p nd c0 c1 c2 ([c0, c1, c2] ++ [58] ++ dgl p nd) (by decide) (by decide) (by omega) h5 rfl _ f505 Sy) (by simp) (by decide) (Nat.le_of_ble_eq_true rfl) rfl rfl (by decide) (by decide) ?_
      intro v526 h527 sh527 q528
      obtain ⟨rfl, ee⟩ := q528
      obtain rfl := ee.symm
      refine ⟨_, fun _ hx => Or.inl hx, ?_⟩
      show oGo l Z a0 EL True pP eE sS mM _ bB tT cC _ _ _ _ _ _ _ _ [a435, a423, a404, a6] h492 16 120 331 #[.val (.int i0), .val (.int i1), .val (.int i2), .val (.int i3), .val (.int i4), .val (.int (3 : Int32)), .val (.ref a6), .val (.ref a404), .val (.int (Int32.ofNat p)), .val (.ref a423), .val (.ref y), .val (.int (Int32.ofNat nd)), .val (.int (Int32.ofNat (3 + 1 + nd)))] [.int (1 : Int32)]
      refine oGo.if_eq (pc1 := 334) (pc2 := 417) at_331 rfl (by decide) (fun q => by first | exact absurd q (by decide) | exact absurd (by decide) q) (fun q529 => ?_)
      refine oGo.aload (pc' := 336) at_334 rfl rfl rfl ?_
      refine oGo.iconst (pc' := 337) (v := 5) at_336 rfl (by decide) ?_
      refine oGo.aload (pc' := 339) at_337 rfl rfl rfl ?_
      refine oGo.iload (pc' := 341) at_339 rfl rfl ?_
      refine oGo.iload (pc' := 343) at_341 rfl rfl ?_
      refine oGo.iload (pc' := 345) at_343 rfl rfl ?_
      refine oGo.iload (pc' := 347) at_345 rfl rfl ?_
      refine oGo.invokestatic (pc' := 350) (k' := 16) (n' := 120) (argsL := [.ref y, .int (5 : Int32), .ref a6, .int (3 : Int32), .int (Int32.ofNat p), .int (Int32.ofNat nd), .int (Int32.ofNat (3 + 1 + nd))]) (rest := []) at_347 rfl (w185 hG) (w186 hG) (w187 hG) (w188 hG) (by decide) pd30 rfl rfl rfl (c_at hG y ty a6 5 3 p nd c0 c1 c2 ([c0, c1, c2] ++ [58] ++ dgl p nd) (by decide) (by decide) (by omega) h5 rfl _ f505 Sy) (by simp) (by decide) (Nat.le_of_ble_eq_true rfl) rfl rfl (by decide) (by decide) ?_
      intro v530 h531 sh531 q532
      obtain ⟨rfl, ee⟩ := q532
      obtain rfl := ee.symm
      refine ⟨_, fun _ hx => Or.inl hx, ?_⟩
      show oGo l Z a0 EL True pP eE sS mM _ bB tT cC _ _ _ _ _ _ _ _ [a435, a423, a404, a6] h492 16 120 350 #[.val (.int i0), .val (.int i1), .val (.int i2), .val (.int i3), .val (.int i4), .val (.int (3 : Int32)), .val (.ref a6), .val (.ref a404), .val (.int (Int32.ofNat p)), .val (.ref a423), .val (.ref y), .val (.int (Int32.ofNat nd)), .val (.int (Int32.ofNat (3 + 1 + nd)))] [.int (1 : Int32)]
      refine oGo.if_eq (pc1 := 353) (pc2 := 417) at_350 rfl (by decide) (fun q => by first | exact absurd q (by decide) | exact absurd (by decide) q) (fun q533 => ?_)
      refine oGo.aload (pc' := 355) at_353 rfl rfl rfl ?_
      refine oGo.bipush (pc' := 357) (v := 6) at_355 rfl (by decide) ?_
      refine oGo.aload (pc' := 359) at_357 rfl rfl rfl ?_
      refine oGo.iload (pc' := 361) at_359 rfl rfl ?_
      refine oGo.iload (pc' := 363) at_361 rfl rfl ?_
      refine oGo.iload (pc' := 365) at_363 rfl rfl ?_
      refine oGo.iload (pc' := 367) at_365 rfl rfl ?_
      refine oGo.invokestatic (pc' := 370) (k' := 16) (n' := 120) (argsL := [.ref y, .int (6 : Int32), .ref a6, .int (3 : Int32), .int (Int32.ofNat p), .int (Int32.ofNat nd), .int (Int32.ofNat (3 + 1 + nd))]) (rest := []) at_367 rfl (w185 hG) (w186 hG) (w187 hG) (w188 hG) (by decide) pd30 rfl rfl rfl (c_at hG y ty a6 6 3 p nd c0 c1 c2 ([c0, c1, c2] ++ [58] ++ dgl p nd) (by decide) (by decide) (by omega) h5 rfl _ f505 Sy) (by simp) (by decide) (Nat.le_of_ble_eq_true rfl) rfl rfl (by decide) (by decide) ?_
      intro v534 h535 sh535 q536
      obtain ⟨rfl, ee⟩ := q536
      obtain rfl := ee.symm
      refine ⟨_, fun _ hx => Or.inl hx, ?_⟩
      show oGo l Z a0 EL True pP eE sS mM _ bB tT cC _ _ _ _ _ _ _ _ [a435, a423, a404, a6] h492 16 120 370 #[.val (.int i0), .val (.int i1), .val (.int i2), .val (.int i3), .val (.int i4), .val (.int (3 : Int32)), .val (.ref a6), .val (.ref a404), .val (.int (Int32.ofNat p)), .val (.ref a423), .val (.ref y), .val (.int (Int32.ofNat nd)), .val (.int (Int32.ofNat (3 + 1 + nd)))] [.int (1 : Int32)]
      refine oGo.if_eq (pc1 := 373) (pc2 := 417) at_370 rfl (by decide) (fun q => by first | exact absurd q (by decide) | exact absurd (by decide) q) (fun q537 => ?_)
      refine oGo.aload (pc' := 375) at_373 rfl rfl rfl ?_
      refine oGo.bipush (pc' := 377) (v := 7) at_375 rfl (by decide) ?_
      refine oGo.aload (pc' := 379) at_377 rfl rfl rfl ?_
      refine oGo.iload (pc' := 381) at_379 rfl rfl ?_
      refine oGo.iload (pc' := 383) at_381 rfl rfl ?_
      refine oGo.iload (pc' := 385) at_383 rfl rfl ?_
      refine oGo.iload (pc' := 387) at_385 rfl rfl ?_
      refine oGo.invokestatic (pc' := 390) (k' := 16) (n' := 120) (argsL := [.ref y, .int (7 : Int32), .ref a6, .int (3 : Int32), .int (Int32.ofNat p), .int (Int32.ofNat nd), .int (Int32.ofNat (3 + 1 + nd))]) (rest := []) at_387 rfl (w185 hG) (w186 hG) (w187 hG) (w188 hG) (by decide) pd30 rfl rfl rfl (c_at hG y ty a6 7 3 p nd c0 c1 c2 ([c0, c1, c2] ++ [58] ++ dgl p nd) (by decide) (by decide) (by omega) h5 rfl _ f505 Sy) (by simp) (by decide) (Nat.le_of_ble_eq_true rfl) rfl rfl (by decide) (by decide) ?_
      intro v538 h539 sh539 q540
      obtain ⟨rfl, ee⟩ := q540
      obtain rfl := ee.symm
      refine ⟨_, fun _ hx => Or.inl hx, ?_⟩
      show oGo l Z a0 EL True pP eE sS mM _ bB tT cC _ _ _ _ _ _ _ _ [a435, a423, a404, a6] h492 16 120 390 #[.val (.int i0), .val (.int i1), .val (.int i2), .val (.int i3), .val (.int i4), .val (.int (3 : Int32)), .val (.ref a6), .val (.ref a404), .val (.int (Int32.ofNat p)), .val (.ref a423), .val (.ref y), .val (.int (Int32.ofNat nd)), .val (.int (Int32.ofNat (3 + 1 + nd)))] [.int (1 : Int32)]
      refine oGo.if_eq (pc1 := 393) (pc2 := 417) at_390 rfl (by decide) (fun q => by first | exact absurd q (by decide) | exact absurd (by decide) q) (fun q541 => ?_)
      refine oGo.aload (pc' := 395) at_393 rfl rfl rfl ?_
      refine oGo.bipush (pc' := 397) (v := 8) at_395 rfl (by decide) ?_
      refine oGo.aload (pc' := 399) at_397 rfl rfl rfl ?_
      refine oGo.iload (pc' := 401) at_399 rfl rfl ?_
      refine oGo.iload (pc' := 403) at_401 rfl rfl ?_
      refine oGo.iload (pc' := 405) at_403 rfl rfl ?_
      refine oGo.iload (pc' := 407) at_405 rfl rfl ?_
      refine oGo.invokestatic (pc' := 410) (k' := 16) (n' := 120) (argsL := [.ref y, .int (8 : Int32), .ref a6, .int (3 : Int32), .int (Int32.ofNat p), .int (Int32.ofNat nd), .int (Int32.ofNat (3 + 1 + nd))]) (rest := []) at_407 rfl (w185 hG) (w186 hG) (w187 hG) (w188 hG) (by decide) pd30 rfl rfl rfl (c_at hG y ty a6 8 3 p nd c0 c1 c2 ([c0, c1, c2] ++ [58] ++ dgl p nd) (by decide) (by decide) (by omega) h5 rfl _ f505 Sy) (by simp) (by decide) (Nat.le_of_ble_eq_true rfl) rfl rfl (by decide) (by decide) ?_
      intro v542 h543 sh543 q544
      obtain ⟨rfl, ee⟩ := q544
      obtain rfl := ee.symm
      refine ⟨_, fun _ hx => Or.inl hx, ?_⟩
      show oGo l Z a0 EL True pP eE sS mM _ bB tT cC _ _ _ _ _ _ _ _ [a435, a423, a404, a6] h492 16 120 410 #[.val (.int i0), .val (.int i1), .val (.int i2), .val (.int i3), .val (.int i4), .val (.int (3 : Int32)), .val (.ref a6), .val (.ref a404), .val (.int (Int32.ofNat p)), .val (.ref a423), .val (.ref y), .val (.int (Int32.ofNat nd)), .val (.int (Int32.ofNat (3 + 1 + nd)))] [.int (1 : Int32)]
      refine oGo.if_eq (pc1 := 413) (pc2 := 417) at_410 rfl (by decide) (fun q => by first | exact absurd q (by decide) | exact absurd (by decide) q) (fun q545 => ?_)
      refine oGo.iconst (pc' := 414) (v := 1) at_413 rfl (by decide) ?_
      refine oGo.goto (pc' := 418) at_414 (by decide) ?_
      exact oGo.nreturn at_418 rfl (by simp) rfl (by decide) (by decide) rfl (fun _ q => q.elim)
    refine oGo.iload (pc' := 166) at_164 rfl rfl ?_
    refine oGo.sipush (pc' := 169) (v := 10000) at_166 rfl (by decide) ?_
    refine oGo.icmp_lt (pc1 := 172) (pc2 := 176) at_169 rfl (by decide) (fun q5 => ?_) (fun q5 => ?_)
    rotate_left
    · rw [show (10000 : Int32) = Int32.ofNat 10000 from rfl, own_lt (by omega) (by omega)] at q5
      obtain rfl : nd = 5 := by omega
      refine oGo.iconst (pc' := 173) (v := 5) at_172 rfl (by decide) ?_
      refine oGo.goto (pc' := 211) at_173 (by decide) ?_
      exact J
    rw [show (10000 : Int32) = Int32.ofNat 10000 from rfl, own_lt (by omega) (by omega)] at q5
    refine oGo.iload (pc' := 178) at_176 rfl rfl ?_
    refine oGo.sipush (pc' := 181) (v := 1000) at_178 rfl (by decide) ?_
    refine oGo.icmp_lt (pc1 := 184) (pc2 := 188) at_181 rfl (by decide) (fun q4 => ?_) (fun q4 => ?_)
    rotate_left
    · rw [show (1000 : Int32) = Int32.ofNat 1000 from rfl, own_lt (by omega) (by omega)] at q4
      obtain rfl : nd = 4 := by omega
      refine oGo.iconst (pc' := 185) (v := 4) at_184 rfl (by decide) ?_
      refine oGo.goto (pc' := 211) at_185 (by decide) ?_
      exact J
    rw [show (1000 : Int32) = Int32.ofNat 1000 from rfl, own_lt (by omega) (by omega)] at q4
    refine oGo.iload (pc' := 190) at_188 rfl rfl ?_
    refine oGo.bipush (pc' := 192) (v := 100) at_190 rfl (by decide) ?_
    refine oGo.icmp_lt (pc1 := 195) (pc2 := 199) at_192 rfl (by decide) (fun q3 => ?_) (fun q3 => ?_)
    rotate_left
    · rw [show (100 : Int32) = Int32.ofNat 100 from rfl, own_lt (by omega) (by omega)] at q3
      obtain rfl : nd = 3 := by omega
      refine oGo.iconst (pc' := 196) (v := 3) at_195 rfl (by decide) ?_
      refine oGo.goto (pc' := 211) at_196 (by decide) ?_
      exact J
    rw [show (100 : Int32) = Int32.ofNat 100 from rfl, own_lt (by omega) (by omega)] at q3
    refine oGo.iload (pc' := 201) at_199 rfl rfl ?_
    refine oGo.bipush (pc' := 203) (v := 10) at_201 rfl (by decide) ?_
    refine oGo.icmp_lt (pc1 := 206) (pc2 := 210) at_203 rfl (by decide) (fun q2 => ?_) (fun q2 => ?_)
    rotate_left
    · rw [show (10 : Int32) = Int32.ofNat 10 from rfl, own_lt (by omega) (by omega)] at q2
      obtain rfl : nd = 2 := by omega
      refine oGo.iconst (pc' := 207) (v := 2) at_206 rfl (by decide) ?_
      refine oGo.goto (pc' := 211) at_207 (by decide) ?_
      exact J
    rw [show (10 : Int32) = Int32.ofNat 10 from rfl, own_lt (by omega) (by omega)] at q2
    obtain rfl : nd = 1 := by omega
    refine oGo.iconst (pc' := 211) (v := 1) at_210 rfl (by decide) ?_
    exact J
theorem own_held {s : State} {o : String} {i : Nat} (h : Jvm.Pilot.@@N@@.Jvm.D.constHeld s o i) : Jvm.Lit.constHeld s o i := h
theorem own_compactW {a0 : Array Value} {s : State} (h : (Jvm.Cond.not (Jvm.Cond.eq (Jvm.Term.static "java/lang/String" "COMPACT_STRINGS" "Z") (Jvm.Term.int (0 : Int32)))).before a0 s = true) : Jvm.Lit.compactW.before a0 s = true := h
set_option maxRecDepth 65536 in
set_option maxHeartbeats 4000000 in
theorem comes_1 {Post : Tables → Env → Array Value → State → Outcome → State → Prop} (hpost : ∀ tb e args s v u, (limb_1_1.after args s (.returned v) u = true ∧ limb_1_2.after args s (.returned v) u = true) → D.FramedW s (.returned v) u (Jvm.fieldLocs frame_1_writes args s ++ Jvm.arrayLocs frame_1_arrays args s ++ Jvm.staticLocs frame_1_statics s) 32 2240 → Post tb e args s (.returned v) u) :
    ArmFor flags0 classFile x code maxLocals ret World_1 tables_1 room_1 Calls_1 rest_1 Pre_1 Post := by
  intro l hfl _ _ p e ha hc hk s m args below hf hA hF happ hP
  obtain ⟨hcalls, hrest, hpre⟩ := hP
  obtain ⟨-, -, -, hnamed, -, -, -, hat⟩ := (Spec.applies_iff hf).mp happ
  obtain ⟨hg, hn⟩ := and_e (Cond.before_iff.mp (show (Jvm.Cond.and given_1 narrow_1).before args s = true from hpre))
  obtain ⟨g0, g1⟩ := and_e hg
  obtain ⟨t0, r0⟩ := and_e g1
  obtain ⟨t1, r1⟩ := and_e r0
  obtain ⟨t2, r2⟩ := and_e r1
  obtain ⟨t3, r3⟩ := and_e r2
  obtain ⟨w0, w1, w2, w3, w4, rfl⟩ : ∃ w0 w1 w2 w3 w4 : Value, args = #[w0, w1, w2, w3, w4] := by
    have hs : args.size = 5 := by simpa [Cond.value, given_1] using g0
    obtain ⟨L⟩ := args
    match L, hs with
    | [w0, w1, w2, w3, w4], _ => exact ⟨w0, w1, w2, w3, w4, rfl⟩
  have hw := fun d (hd : d ∈ tables_1) => atoms_spec (ws := Jvm.Cond.code x code maxLocals ret :: tables_1) hat d (List.mem_cons_of_mem _ hd)
  obtain ⟨hsets, hown0⟩ := atoms_of _ (rest_1_c_eq ▸ (show rest_1_c.before _ s = true from hrest))
  obtain ⟨i0, ei0⟩ := is_v t0
  obtain rfl : w0 = (.int i0) := Option.some.inj ei0
  obtain ⟨i1, ei1⟩ := is_v t1
  obtain rfl : w1 = (.int i1) := Option.some.inj ei1
  obtain ⟨i2, ei2⟩ := is_v t2
  obtain rfl : w2 = (.int i2) := Option.some.inj ei2
  obtain ⟨i3, ei3⟩ := is_v t3
  obtain rfl : w3 = (.int i3) := Option.some.inj ei3
  obtain ⟨i4, ei4⟩ := is_v r3
  obtain rfl : w4 = (.int i4) := Option.some.inj ei4
  have hEW : EW s #[.int i0, .int i1, .int i2, .int i3, .int i4] consts_1 := (EW.cons (hw _ (List.mem_of_getElem? (i := 118) rfl)) (by decide) (EW.cons (hw _ (List.mem_of_getElem? (i := 215) rfl)) (by decide) EW.nil))
  have hG : oG #[.int i0, .int i1, .int i2, .int i3, .int i4] s consts_1 := ⟨hw, hEW, hsets, fun _ h => h⟩
  have hCH : CHv s consts_1 s.vm s.heap := CHv.start hEW (fun p hp => own_held (hcalls.1 p hp)) (own_compactW (hsets _ (List.mem_of_getElem? (i := 2) rfl))) (w21 hG) (w4 hG)
  obtain ⟨n, o, h1, h2, h3, v, L, rfl, ⟨rfl, -⟩, hN, -, -, -, hR⟩ := c_law (l := l) hG i0 i1 i2 i3 i4 s.heap p e ha hc hk s m _ below hf ((Spec.applies_iff_loose hf).mp happ).1 ⟨rfl, State.Warmed39.refl s, rfl, ext_refl _, hCH, (fun x hx => by simp at hx)⟩ trivial
  refine ⟨n, _, h1, h2, h3, hpost _ _ _ _ _ _ ⟨Cond.after_iff.mpr rfl, Cond.after_iff.mpr (eq_i res_at (Term.int_eval (1)) rfl)⟩ ⟨⟨_, rfl⟩, hR.2.1, hR.2.2.1, (hR.2.2.2.sift fun y hy => Or.inr (hN y hy)).mono (by decide) (by decide)⟩⟩
theorem main_1_1 : Claimed_1_1 := comes_1 fun _ _ _ _ _ _ h hF => ⟨h.1, hF⟩
theorem main_1_2 : Claimed_1_2 := comes_1 fun _ _ _ _ _ _ h hF => ⟨h.2, hF⟩
end Jvm.Pilot.@@N@@
namespace Jvm.Pilot.@@N@@
open Jvm Jvm.ClassFile Sem Op Lib Jvm.Free Jvm.Stand Jvm.Pilot.@@N@@.Jvm.D
/-! MADE BY PROGRAM (witnessworld.py) out of the Statement's table words and the real class files: 29 classes; the members and pool entries that the words name. The judged class is class 1, her method 1. -/
namespace start1
open Jvm.ClassFile
def u (s : String) : CpInfo := .utf8 (stringToUtf16 s)
/-- a pool by its gaps: so many unusable entries, then the entry; so many at the end -/
def gap : Nat → List CpInfo → List CpInfo
  | 0, r => r
  | n + 1, r => .unusable :: gap n r
def poolList (es : List (Nat × CpInfo)) (last : Nat) : List CpInfo := es.foldr (fun e r => gap e.1 (e.2 :: r)) (gap last [])
def pool (es : List (Nat × CpInfo)) (last : Nat) : Array CpInfo := ⟨poolList es last⟩
def fileOf (pool : Array CpInfo) (this : Nat) (attrs : Array Attribute := #[]) (ms : Array MethodInfo := #[]) (fl : Nat := 33) (sup : Nat := 0) (ifs : Array Nat := #[]) (fds : Array FieldInfo := #[]) : ClassFile where
  minorVersion := 0
  majorVersion := 65
  constantPool := pool
  accessFlags := fl
  thisClass := this
  superClass := sup
  interfaces := ifs
  fields := fds
  methods := ms
  attributes := attrs
def plain (name : String) (sup : Option ClassId) : Class where
  name := name
  kind := .ordinary
  loader := none
  accessFlags := 33
  super := sup
  interfaces := #[]
  cf := none
  fields := #[]
  methods := #[]
  instanceTypes := #[]
  staticTypes := #[]
  resolved := #[]
  callSites := []
  init := .initialized
  statics := none
  mirror := none

def pool0 : Array CpInfo := pool [(5, u "<init>"), (0, u "()V"), (1, .class_ 10), (1, u "java/lang/Object")] 113

def k0c0 : Code := { maxStack := 0, maxLocals := 1, code := object_method_1_code, exceptionTable := #[], attributes := #[] }
def k0m0 : Method := { name := "<init>", desc := "()V", sig := { parameters := [], returnType := none }, accessFlags := 1, code := some k0c0 }
/-- java/lang/Object -/
def k0 : Class := { plain "java/lang/Object" none with
  accessFlags := 33
  interfaces := #[]
  cf := some (fileOf pool0 8 #[] #[{ accessFlags := 1, nameIndex := 5, descriptorIndex := 6, attributes := #[] }] 33 0 #[] #[])
  fields := #[]
  methods := #[k0m0]
  instanceTypes := #[]
  staticTypes := #[]
  resolved := Array.replicate 124 none
  statics := none }

def pool1 : Array CpInfo := pool [(2, .class_ 4), (1, u "java/lang/Object"), (0, u "<init>"), (0, u "()V"), (0, .integer 2147483647), (0, .integer 65535), (0, .class_ 10), (0, u "java/lang/String"), (0, .methodref 9 12), (0, .nameAndType 5 13), (0, u "([C)V"), (0, .class_ 15), (0, u "com/example/meander/meander/cluster/WorkerAddress"), (0, .methodref 14 17), (0, .nameAndType 5 18), (0, u "(Ljava/lang/String;I)V"), (0, .methodref 14 20), (0, .nameAndType 21 22), (0, u "toString"), (0, u "()Ljava/lang/String;"), (0, .methodref 9 24), (0, .nameAndType 25 26), (0, u "length"), (0, u "()I"), (0, .methodref 28 29), (0, .class_ 30), (0, .nameAndType 31 32), (0, u "com/example/meander/meander/cluster/WorkerAddressToStringPinLaw"), (0, u "at"), (0, u "(Ljava/lang/String;I[CIIII)Z"), (0, .methodref 28 34), (0, .nameAndType 35 36), (0, u "pow10"), (0, u "(I)I"), (0, .methodref 9 38), (0, .nameAndType 39 40), (0, u "charAt"), (0, u "(I)C"), (2, u "law"), (0, u "(IIIII)Z")] 5

def k1m0 : Method := { name := "<init>", desc := "()V", sig := { parameters := [], returnType := none }, accessFlags := 1, code := none }
def k1c1 : Code := { maxStack := 7, maxLocals := 13, code := code, exceptionTable := #[], attributes := #[] }
def k1m1 : Method := { name := "law", desc := "(IIIII)Z", sig := { parameters := [.int, .int, .int, .int, .int], returnType := some .boolean }, accessFlags := 9, code := some k1c1 }
def k1c2 : Code := { maxStack := 2, maxLocals := 1, code := method_3_code, exceptionTable := #[], attributes := #[] }
def k1m2 : Method := { name := "pow10", desc := "(I)I", sig := { parameters := [.int], returnType := some .int }, accessFlags := 10, code := some k1c2 }
def k1c3 : Code := { maxStack := 4, maxLocals := 9, code := method_4_code, exceptionTable := #[], attributes := #[] }
def k1m3 : Method := { name := "at", desc := "(Ljava/lang/String;I[CIIII)Z", sig := { parameters := [(.object "java/lang/String"), .int, (.array .char), .int, .int, .int, .int], returnType := some .boolean }, accessFlags := 10, code := some k1c3 }
/-- com/example/meander/meander/cluster/WorkerAddressToStringPinLaw -/
def k1 : Class := { plain "com/example/meander/meander/cluster/WorkerAddressToStringPinLaw" (some 0) with
  accessFlags := 49
  interfaces := #[]
  cf := some (fileOf pool1 28 #[] #[{ accessFlags := 1, nameIndex := 5, descriptorIndex := 6, attributes := #[] }, { accessFlags := 9, nameIndex := 43, descriptorIndex := 44, attributes := #[] }, { accessFlags := 10, nameIndex := 35, descriptorIndex := 36, attributes := #[] }, { accessFlags := 10, nameIndex := 31, descriptorIndex := 32, attributes := #[] }] 49 2 #[] #[])
  fields := #[]
  methods := #[k1m0, k1m1, k1m2, k1m3]
  instanceTypes := #[]
  staticTypes := #[]
  resolved := Array.replicate 50 none
  statics := none }

def pool2 : Array CpInfo := pool [(1, .class_ 2), (0, u "java/io/Serializable"), (0, .class_ 4), (0, u "java/lang/Object")] 2

/-- java/io/Serializable -/
def k2 : Class := { plain "java/io/Serializable" (some 0) with
  accessFlags := 1537
  interfaces := #[]
  cf := some (fileOf pool2 1 #[] #[] 1537 3 #[] #[])
  fields := #[]
  methods := #[]
  instanceTypes := #[]
  staticTypes := #[]
  resolved := Array.replicate 7 none
  statics := none }

def pool3 : Array CpInfo := pool [(1, .class_ 2), (0, u "java/lang/Comparable"), (0, .class_ 4), (0, u "java/lang/Object")] 7

/-- java/lang/Comparable -/
def k3 : Class := { plain "java/lang/Comparable" (some 0) with
  accessFlags := 1537
  interfaces := #[]
  cf := some (fileOf pool3 1 #[] #[] 1537 3 #[] #[])
  fields := #[]
  methods := #[]
  instanceTypes := #[]
  staticTypes := #[]
  resolved := Array.replicate 12 none
  statics := none }

def pool4 : Array CpInfo := pool [(2, .class_ 4), (1, u "java/lang/CharSequence"), (42, .class_ 48), (0, u "java/lang/CharSequence$1CodePointIterator"), (10, .class_ 60), (0, u "java/lang/CharSequence$1CharIterator"), (5, .class_ 67), (0, u "java/lang/Object")] 63

/-- java/lang/CharSequence -/
def k4 : Class := { plain "java/lang/CharSequence" (some 0) with
  accessFlags := 1537
  interfaces := #[]
  cf := some (fileOf pool4 2 #[.nestMembers #[47, 59]] #[] 1537 66 #[] #[])
  fields := #[]
  methods := #[]
  instanceTypes := #[]
  staticTypes := #[]
  resolved := Array.replicate 131 none
  statics := none }

def pool5 : Array CpInfo := pool [(1, .class_ 2), (0, u "java/lang/constant/Constable"), (0, .class_ 4), (0, u "java/lang/Object")] 6

/-- java/lang/constant/Constable -/
def k5 : Class := { plain "java/lang/constant/Constable" (some 0) with
  accessFlags := 1537
  interfaces := #[]
  cf := some (fileOf pool5 1 #[] #[] 1537 3 #[] #[])
  fields := #[]
  methods := #[]
  instanceTypes := #[]
  staticTypes := #[]
  resolved := Array.replicate 11 none
  statics := none }

def pool6 : Array CpInfo := pool [(1, .class_ 2), (0, u "java/lang/constant/ConstantDesc"), (0, .class_ 4), (0, u "java/lang/Object")] 32

/-- java/lang/constant/ConstantDesc -/
def k6 : Class := { plain "java/lang/constant/ConstantDesc" (some 0) with
  accessFlags := 1537
  interfaces := #[]
  cf := some (fileOf pool6 1 #[] #[] 1537 3 #[] #[])
  fields := #[]
  methods := #[]
  instanceTypes := #[]
  staticTypes := #[]
  resolved := Array.replicate 37 none
  statics := none }

def pool7 : Array CpInfo := pool [(1, .methodref 2 3), (0, .class_ 4), (0, .nameAndType 5 6), (0, u "java/lang/Object"), (0, u "<init>"), (0, u "()V"), (0, .string 8), (0, u ""), (0, .fieldref 10 11), (0, .class_ 12), (0, .nameAndType 13 14), (0, u "java/lang/String"), (0, u "value"), (0, u "[B"), (0, .fieldref 10 16), (0, .nameAndType 17 18), (0, u "coder"), (0, u "B"), (2, u "hash"), (0, u "I"), (2, u "hashIsZero"), (0, u "Z"), (0, .methodref 10 28), (0, .nameAndType 5 29), (0, u "([CIILjava/lang/Void;)V"), (8, .fieldref 10 39), (0, .nameAndType 40 26), (0, u "COMPACT_STRINGS"), (1, .class_ 44), (1, u "java/lang/StringUTF16"), (0, u "compress"), (1, .methodref 42 48), (0, .nameAndType 49 50), (0, u "coderFromArrayLen"), (0, u "([BI)B"), (3, .methodref 55 56), (0, .class_ 57), (0, .nameAndType 58 59), (0, u "java/util/Arrays"), (0, u "copyOfRange"), (0, u "([BII)[B"), (47, .class_ 109), (1, u "java/lang/StringLatin1"), (32, u "()Z"), (34, .methodref 42 178), (0, .nameAndType 45 179), (0, u "([CII)[B"), (13, .class_ 195), (1, u "java/lang/System"), (16, .methodref 193 213), (0, .nameAndType 214 215), (0, u "arraycopy"), (0, u "(Ljava/lang/Object;ILjava/lang/Object;II)V"), (118, u "()I"), (0, .methodref 10 336), (0, .nameAndType 17 337), (0, u "()B"), (2, u "()[B"), (22, u "([BI)C"), (27, u "(II)V"), (35, u "(I)C"), (61, .methodref 10 490), (0, .nameAndType 5 491), (0, u "(Ljava/lang/AbstractStringBuilder;Ljava/lang/Void;)V"), (0, .methodref 10 493), (0, .nameAndType 494 142), (0, u "isLatin1"), (0, .methodref 107 496), (0, .nameAndType 497 363), (0, u "charAt"), (3, u "checkIndex"), (4, .nameAndType 507 334), (0, u "length"), (24, u "getBytes"), (16, .methodref 550 506), (0, .class_ 551), (0, u "java/lang/AbstractStringBuilder"), (0, .methodref 550 553), (0, .nameAndType 554 340), (0, u "getValue"), (20, .class_ 576), (0, u "java/lang/CharSequence"), (22, u "CASE_INSENSITIVE_ORDER"), (0, u "Ljava/util/Comparator;"), (220, u "([BIB)V"), (188, u "([C)V"), (36, .methodref 550 493), (5, .fieldref 1054 1055), (0, .class_ 1056), (0, .nameAndType 1057 1058), (0, u "jdk/internal/util/Preconditions"), (0, u "SIOOBE_FORMATTER"), (0, u "Ljava/util/function/BiFunction;"), (0, .methodref 1054 1060), (0, .nameAndType 501 1061), (0, u "(IILjava/util/function/BiFunction;)I"), (39, u "serialPersistentFields"), (0, u "[Ljava/io/ObjectStreamField;"), (0, .class_ 1104), (0, u "java/lang/String$CaseInsensitiveComparator"), (1, .class_ 1107), (0, u "java/io/Serializable"), (0, .class_ 1109), (0, u "java/lang/Comparable"), (0, .class_ 1111), (0, u "java/lang/constant/Constable"), (0, .class_ 1113), (0, u "java/lang/constant/ConstantDesc"), (2, u "serialVersionUID"), (0, u "J"), (3, u "REPL"), (0, u "C"), (2, u "LATIN1"), (1, u "UTF16"), (105, u "(Ljava/lang/StringBuilder;)V")] 217

def k7m0 : Method := { name := "<init>", desc := "()V", sig := { parameters := [], returnType := none }, accessFlags := 1, code := none }
def k7c1 : Code := { maxStack := 5, maxLocals := 2, code := jdk_42_method_3_code, exceptionTable := #[], attributes := #[] }
def k7m1 : Method := { name := "<init>", desc := "([C)V", sig := { parameters := [(.array .char)], returnType := none }, accessFlags := 1, code := some k7c1 }
def k7c2 : Code := { maxStack := 3, maxLocals := 2, code := jdk_42_method_53_code, exceptionTable := #[], attributes := #[] }
def k7m2 : Method := { name := "<init>", desc := "(Ljava/lang/StringBuilder;)V", sig := { parameters := [(.object "java/lang/StringBuilder")], returnType := none }, accessFlags := 1, code := some k7c2 }
def k7c3 : Code := { maxStack := 2, maxLocals := 1, code := jdk_42_method_54_code, exceptionTable := #[], attributes := #[] }
def k7m3 : Method := { name := "length", desc := "()I", sig := { parameters := [], returnType := some .int }, accessFlags := 1, code := some k7c3 }
def k7c4 : Code := { maxStack := 2, maxLocals := 2, code := jdk_42_method_56_code, exceptionTable := #[], attributes := #[] }
def k7m4 : Method := { name := "charAt", desc := "(I)C", sig := { parameters := [.int], returnType := some .char }, accessFlags := 1, code := some k7c4 }
def k7c5 : Code := { maxStack := 5, maxLocals := 4, code := jdk_42_method_147_code, exceptionTable := #[], attributes := #[] }
def k7m5 : Method := { name := "getBytes", desc := "([BIB)V", sig := { parameters := [(.array .byte), .int, .byte], returnType := none }, accessFlags := 0, code := some k7c5 }
def k7c6 : Code := { maxStack := 4, maxLocals := 6, code := jdk_42_method_149_code, exceptionTable := #[], attributes := #[] }
def k7m6 : Method := { name := "<init>", desc := "([CIILjava/lang/Void;)V", sig := { parameters := [(.array .char), .int, .int, (.object "java/lang/Void")], returnType := none }, accessFlags := 2, code := some k7c6 }
def k7c7 : Code := { maxStack := 5, maxLocals := 5, code := jdk_42_method_150_code, exceptionTable := #[], attributes := #[] }
def k7m7 : Method := { name := "<init>", desc := "(Ljava/lang/AbstractStringBuilder;Ljava/lang/Void;)V", sig := { parameters := [(.object "java/lang/AbstractStringBuilder"), (.object "java/lang/Void")], returnType := none }, accessFlags := 0, code := some k7c7 }
def k7c8 : Code := { maxStack := 1, maxLocals := 1, code := jdk_42_method_152_code, exceptionTable := #[], attributes := #[] }
def k7m8 : Method := { name := "coder", desc := "()B", sig := { parameters := [], returnType := some .byte }, accessFlags := 0, code := some k7c8 }
def k7c9 : Code := { maxStack := 1, maxLocals := 1, code := jdk_42_method_154_code, exceptionTable := #[], attributes := #[] }
def k7m9 : Method := { name := "isLatin1", desc := "()Z", sig := { parameters := [], returnType := some .boolean }, accessFlags := 0, code := some k7c9 }
def k7c10 : Code := { maxStack := 3, maxLocals := 2, code := jdk_42_method_155_code, exceptionTable := #[], attributes := #[] }
def k7m10 : Method := { name := "checkIndex", desc := "(II)V", sig := { parameters := [.int, .int], returnType := none }, accessFlags := 8, code := some k7c10 }
/-- java/lang/String -/
def k7 : Class := { plain "java/lang/String" (some 0) with
  accessFlags := 49
  interfaces := #[2, 3, 4, 5, 6]
  cf := some (fileOf pool7 10 #[.nestMembers #[1103]] #[{ accessFlags := 1, nameIndex := 5, descriptorIndex := 6, attributes := #[] }, { accessFlags := 1, nameIndex := 5, descriptorIndex := 1010, attributes := #[] }, { accessFlags := 1, nameIndex := 5, descriptorIndex := 1233, attributes := #[] }, { accessFlags := 1, nameIndex := 507, descriptorIndex := 334, attributes := #[] }, { accessFlags := 1, nameIndex := 497, descriptorIndex := 427, attributes := #[] }, { accessFlags := 0, nameIndex := 532, descriptorIndex := 821, attributes := #[] }, { accessFlags := 2, nameIndex := 5, descriptorIndex := 29, attributes := #[] }, { accessFlags := 0, nameIndex := 5, descriptorIndex := 491, attributes := #[] }, { accessFlags := 0, nameIndex := 17, descriptorIndex := 337, attributes := #[] }, { accessFlags := 0, nameIndex := 494, descriptorIndex := 142, attributes := #[] }, { accessFlags := 8, nameIndex := 501, descriptorIndex := 391, attributes := #[] }] 49 2 #[1106, 1108, 575, 1110, 1112] #[{ accessFlags := 18, nameIndex := 13, descriptorIndex := 14, attributes := #[] }, { accessFlags := 18, nameIndex := 17, descriptorIndex := 18, attributes := #[] }, { accessFlags := 2, nameIndex := 21, descriptorIndex := 22, attributes := #[] }, { accessFlags := 2, nameIndex := 25, descriptorIndex := 26, attributes := #[] }, { accessFlags := 26, nameIndex := 1116, descriptorIndex := 1117, attributes := #[] }, { accessFlags := 24, nameIndex := 40, descriptorIndex := 26, attributes := #[] }, { accessFlags := 26, nameIndex := 1101, descriptorIndex := 1102, attributes := #[] }, { accessFlags := 26, nameIndex := 1121, descriptorIndex := 1122, attributes := #[] }, { accessFlags := 25, nameIndex := 599, descriptorIndex := 600, attributes := #[] }, { accessFlags := 24, nameIndex := 1125, descriptorIndex := 18, attributes := #[] }, { accessFlags := 24, nameIndex := 1127, descriptorIndex := 18, attributes := #[] }])
  fields := #[{ name := "value", type := (.array .byte), accessFlags := 18, slot := 0, constantValue := 0 }, { name := "coder", type := .byte, accessFlags := 18, slot := 1, constantValue := 0 }, { name := "hash", type := .int, accessFlags := 2, slot := 2, constantValue := 0 }, { name := "hashIsZero", type := .boolean, accessFlags := 2, slot := 3, constantValue := 0 }, { name := "serialVersionUID", type := .long, accessFlags := 26, slot := 0, constantValue := 0 }, { name := "COMPACT_STRINGS", type := .boolean, accessFlags := 24, slot := 1, constantValue := 0 }, { name := "serialPersistentFields", type := (.array (.object "java/io/ObjectStreamField")), accessFlags := 26, slot := 2, constantValue := 0 }, { name := "REPL", type := .char, accessFlags := 26, slot := 3, constantValue := 0 }, { name := "CASE_INSENSITIVE_ORDER", type := (.object "java/util/Comparator"), accessFlags := 25, slot := 4, constantValue := 0 }, { name := "LATIN1", type := .byte, accessFlags := 24, slot := 5, constantValue := 0 }, { name := "UTF16", type := .byte, accessFlags := 24, slot := 6, constantValue := 0 }]
  methods := #[k7m0, k7m1, k7m2, k7m3, k7m4, k7m5, k7m6, k7m7, k7m8, k7m9, k7m10]
  instanceTypes := #[(.array .byte), .byte, .int, .boolean]
  staticTypes := #[.long, .boolean, (.array (.object "java/io/ObjectStreamField")), .char, (.object "java/util/Comparator"), .byte, .byte]
  resolved := Array.replicate 1451 none
  statics := some 0 }

def pool8 : Array CpInfo := pool [(6, .class_ 8), (1, u "java/lang/Object"), (0, u "<init>"), (0, u "()V"), (1, .class_ 14), (1, u "java/lang/StringUTF16"), (31, u "$assertionsDisabled"), (0, u "Z"), (13, u "HI_BYTE_SHIFT"), (0, u "I"), (2, u "LO_BYTE_SHIFT"), (49, .methodref 12 116), (0, .nameAndType 117 118), (0, u "compress"), (0, u "([CI[BII)I"), (3, u "([CII)[B"), (138, u "coderFromArrayLen"), (0, u "([BI)B"), (106, .class_ 371), (1, u "java/lang/StringUTF16$LinesSpliterator"), (58, u "MAX_LENGTH"), (196, .class_ 628), (0, u "java/lang/StringUTF16$CodePointsSpliterator"), (0, .class_ 630), (0, u "java/lang/StringUTF16$CharsSpliterator")] 4

def k8m0 : Method := { name := "<init>", desc := "()V", sig := { parameters := [], returnType := none }, accessFlags := 0, code := none }
def k8c1 : Code := { maxStack := 2, maxLocals := 2, code := jdk_52_method_15_code, exceptionTable := #[], attributes := #[] }
def k8m1 : Method := { name := "coderFromArrayLen", desc := "([BI)B", sig := { parameters := [(.array .byte), .int], returnType := some .byte }, accessFlags := 8, code := some k8c1 }
def k8c2 : Code := { maxStack := 5, maxLocals := 6, code := jdk_52_method_16_code, exceptionTable := #[], attributes := #[] }
def k8m2 : Method := { name := "compress", desc := "([CII)[B", sig := { parameters := [(.array .char), .int, .int], returnType := some (.array .byte) }, accessFlags := 9, code := some k8c2 }
def k8c3 : Code := { maxStack := 3, maxLocals := 7, code := jdk_52_method_21_code, exceptionTable := #[], attributes := #[] }
def k8m3 : Method := { name := "compress", desc := "([CI[BII)I", sig := { parameters := [(.array .char), .int, (.array .byte), .int, .int], returnType := some .int }, accessFlags := 9, code := some k8c3 }
/-- java/lang/StringUTF16 -/
def k8 : Class := { plain "java/lang/StringUTF16" (some 0) with
  accessFlags := 48
  interfaces := #[]
  cf := some (fileOf pool8 12 #[.nestMembers #[627, 629, 369]] #[{ accessFlags := 0, nameIndex := 9, descriptorIndex := 10, attributes := #[] }, { accessFlags := 8, nameIndex := 261, descriptorIndex := 262, attributes := #[] }, { accessFlags := 9, nameIndex := 117, descriptorIndex := 122, attributes := #[] }, { accessFlags := 9, nameIndex := 117, descriptorIndex := 118, attributes := #[] }] 48 6 #[] #[{ accessFlags := 26, nameIndex := 61, descriptorIndex := 62, attributes := #[] }, { accessFlags := 26, nameIndex := 65, descriptorIndex := 62, attributes := #[] }, { accessFlags := 24, nameIndex := 430, descriptorIndex := 62, attributes := #[] }, { accessFlags := 4120, nameIndex := 46, descriptorIndex := 47, attributes := #[] }])
  fields := #[{ name := "HI_BYTE_SHIFT", type := .int, accessFlags := 26, slot := 0, constantValue := 0 }, { name := "LO_BYTE_SHIFT", type := .int, accessFlags := 26, slot := 1, constantValue := 0 }, { name := "MAX_LENGTH", type := .int, accessFlags := 24, slot := 2, constantValue := 0 }, { name := "$assertionsDisabled", type := .boolean, accessFlags := 4120, slot := 3, constantValue := 0 }]
  methods := #[k8m0, k8m1, k8m2, k8m3]
  instanceTypes := #[]
  staticTypes := #[.int, .int, .int, .boolean]
  resolved := Array.replicate 635 none
  statics := none }

def pool9 : Array CpInfo := pool [(1, .methodref 2 3), (0, .class_ 4), (0, .nameAndType 5 6), (0, u "java/lang/Object"), (0, u "<init>"), (0, u "()V"), (0, .class_ 8), (0, u "java/lang/Record")] 13

def k9c0 : Code := { maxStack := 1, maxLocals := 1, code := jdk_30_method_1_code, exceptionTable := #[], attributes := #[] }
def k9m0 : Method := { name := "<init>", desc := "()V", sig := { parameters := [], returnType := none }, accessFlags := 4, code := some k9c0 }
/-- java/lang/Record -/
def k9 : Class := { plain "java/lang/Record" (some 0) with
  accessFlags := 1057
  interfaces := #[]
  cf := some (fileOf pool9 7 #[] #[{ accessFlags := 4, nameIndex := 5, descriptorIndex := 6, attributes := #[] }] 1057 2 #[] #[])
  fields := #[]
  methods := #[k9m0]
  instanceTypes := #[]
  staticTypes := #[]
  resolved := Array.replicate 22 none
  statics := none }

def pool10 : Array CpInfo := pool [(1, .methodref 2 3), (0, .class_ 4), (0, .nameAndType 5 6), (0, u "java/lang/Record"), (0, u "<init>"), (0, u "()V"), (0, .fieldref 8 9), (0, .class_ 10), (0, .nameAndType 11 12), (0, u "com/example/meander/meander/cluster/WorkerAddress"), (0, u "host"), (0, u "Ljava/lang/String;"), (0, .fieldref 8 14), (0, .nameAndType 15 16), (0, u "port"), (0, u "I"), (0, .class_ 18), (0, u "java/lang/StringBuilder"), (0, .methodref 17 3), (2, .methodref 17 23), (0, .nameAndType 24 25), (0, u "append"), (0, u "(Ljava/lang/String;)Ljava/lang/StringBuilder;"), (2, .methodref 17 29), (0, .nameAndType 30 31), (0, u "toString"), (0, u "()Ljava/lang/String;"), (43, u "(Ljava/lang/String;I)V"), (0, .string 77), (0, u ":"), (0, .methodref 17 79), (0, .nameAndType 24 80), (0, u "(I)Ljava/lang/StringBuilder;")] 36

def k10c0 : Code := { maxStack := 2, maxLocals := 3, code := prog_5_method_1_code, exceptionTable := #[], attributes := #[] }
def k10m0 : Method := { name := "<init>", desc := "(Ljava/lang/String;I)V", sig := { parameters := [(.object "java/lang/String"), .int], returnType := none }, accessFlags := 1, code := some k10c0 }
def k10c1 : Code := { maxStack := 2, maxLocals := 1, code := prog_5_method_3_code, exceptionTable := #[], attributes := #[] }
def k10m1 : Method := { name := "toString", desc := "()Ljava/lang/String;", sig := { parameters := [], returnType := some (.object "java/lang/String") }, accessFlags := 1, code := some k10c1 }
/-- com/example/meander/meander/cluster/WorkerAddress -/
def k10 : Class := { plain "com/example/meander/meander/cluster/WorkerAddress" (some 9) with
  accessFlags := 49
  interfaces := #[]
  cf := some (fileOf pool10 8 #[] #[{ accessFlags := 1, nameIndex := 5, descriptorIndex := 75, attributes := #[] }, { accessFlags := 1, nameIndex := 30, descriptorIndex := 31, attributes := #[] }] 49 2 #[] #[{ accessFlags := 18, nameIndex := 11, descriptorIndex := 12, attributes := #[] }, { accessFlags := 18, nameIndex := 15, descriptorIndex := 16, attributes := #[] }])
  fields := #[{ name := "host", type := (.object "java/lang/String"), accessFlags := 18, slot := 0, constantValue := 0 }, { name := "port", type := .int, accessFlags := 18, slot := 1, constantValue := 0 }]
  methods := #[k10m0, k10m1]
  instanceTypes := #[(.object "java/lang/String"), .int]
  staticTypes := #[]
  resolved := Array.replicate 117 none
  statics := none }

def pool11 : Array CpInfo := pool [(1, .class_ 2), (0, u "java/lang/Appendable"), (0, .class_ 4), (0, u "java/lang/Object")] 9

/-- java/lang/Appendable -/
def k11 : Class := { plain "java/lang/Appendable" (some 0) with
  accessFlags := 1537
  interfaces := #[]
  cf := some (fileOf pool11 1 #[] #[] 1537 3 #[] #[])
  fields := #[]
  methods := #[]
  instanceTypes := #[]
  staticTypes := #[]
  resolved := Array.replicate 14 none
  statics := none }

def pool12 : Array CpInfo := pool [(1, .class_ 2), (0, u "java/lang/String"), (0, .methodref 4 5), (0, .class_ 6), (0, .nameAndType 7 8), (0, u "java/lang/Object"), (0, u "<init>"), (0, u "()V"), (1, .class_ 12), (1, u "java/lang/AbstractStringBuilder"), (0, u "EMPTYVALUE"), (0, u "[B"), (0, .fieldref 10 16), (0, .nameAndType 17 14), (0, u "value"), (0, .fieldref 1 19), (0, .nameAndType 20 21), (0, u "COMPACT_STRINGS"), (0, u "Z"), (0, .fieldref 10 23), (0, .nameAndType 24 25), (0, u "coder"), (0, u "B"), (6, .methodref 1 33), (0, .nameAndType 34 35), (0, u "length"), (0, u "()I"), (0, .class_ 37), (0, u "java/lang/Integer"), (2, .methodref 1 41), (0, .nameAndType 24 42), (0, u "()B"), (2, u "append"), (0, u "(Ljava/lang/String;)Ljava/lang/AbstractStringBuilder;"), (1, .class_ 49), (0, u "java/lang/CharSequence"), (19, u "(Ljava/lang/String;)V"), (5, u "maybeLatin1"), (3, .fieldref 10 80), (0, .nameAndType 81 82), (0, u "count"), (0, u "I"), (0, .methodref 10 84), (0, .nameAndType 85 86), (0, u "isLatin1"), (0, u "()Z"), (13, .methodref 10 101), (0, .nameAndType 102 103), (0, u "ensureCapacityInternal"), (0, u "(I)V"), (3, u "(I)I"), (80, u "getChars"), (19, .methodref 10 209), (0, .nameAndType 210 211), (0, u "putStringAt"), (0, u "(ILjava/lang/String;)V"), (5, u "inflateIfNeededFor"), (2, .nameAndType 221 222), (0, u "getBytes"), (0, u "([BIB)V"), (22, .methodref 36 246), (0, .nameAndType 247 107), (0, u "stringSize"), (0, .methodref 36 249), (0, .nameAndType 188 250), (0, u "(II[B)I"), (146, .methodref 10 398), (0, .nameAndType 217 69), (0, .methodref 1 220), (3, u "()[B"), (40, .class_ 445), (0, u "java/lang/Appendable"), (65, u "(I)Ljava/lang/AbstractStringBuilder;"), (40, u "getValue")] 56

def k12m0 : Method := { name := "<init>", desc := "()V", sig := { parameters := [], returnType := none }, accessFlags := 0, code := none }
def k12c1 : Code := { maxStack := 2, maxLocals := 2, code := jdk_68_method_2_code, exceptionTable := #[], attributes := #[] }
def k12m1 : Method := { name := "<init>", desc := "(I)V", sig := { parameters := [.int], returnType := none }, accessFlags := 0, code := some k12c1 }
def k12c2 : Code := { maxStack := 1, maxLocals := 1, code := jdk_68_method_6_code, exceptionTable := #[], attributes := #[] }
def k12m2 : Method := { name := "length", desc := "()I", sig := { parameters := [], returnType := some .int }, accessFlags := 1, code := some k12c2 }
def k12c3 : Code := { maxStack := 4, maxLocals := 3, code := jdk_68_method_9_code, exceptionTable := #[], attributes := #[] }
def k12m3 : Method := { name := "ensureCapacityInternal", desc := "(I)V", sig := { parameters := [.int], returnType := none }, accessFlags := 2, code := some k12c3 }
def k12c4 : Code := { maxStack := 3, maxLocals := 3, code := jdk_68_method_22_code, exceptionTable := #[], attributes := #[] }
def k12m4 : Method := { name := "append", desc := "(Ljava/lang/String;)Ljava/lang/AbstractStringBuilder;", sig := { parameters := [(.object "java/lang/String")], returnType := some (.object "java/lang/AbstractStringBuilder") }, accessFlags := 1, code := some k12c4 }
def k12c5 : Code := { maxStack := 4, maxLocals := 4, code := jdk_68_method_32_code, exceptionTable := #[], attributes := #[] }
def k12m5 : Method := { name := "append", desc := "(I)Ljava/lang/AbstractStringBuilder;", sig := { parameters := [.int], returnType := some (.object "java/lang/AbstractStringBuilder") }, accessFlags := 1, code := some k12c5 }
def k12c6 : Code := { maxStack := 1, maxLocals := 1, code := jdk_68_method_64_code, exceptionTable := #[], attributes := #[] }
def k12m6 : Method := { name := "getValue", desc := "()[B", sig := { parameters := [], returnType := some (.array .byte) }, accessFlags := 16, code := some k12c6 }
def k12c7 : Code := { maxStack := 1, maxLocals := 1, code := jdk_68_method_68_code, exceptionTable := #[], attributes := #[] }
def k12m7 : Method := { name := "isLatin1", desc := "()Z", sig := { parameters := [], returnType := some .boolean }, accessFlags := 16, code := some k12c7 }
def k12c8 : Code := { maxStack := 2, maxLocals := 2, code := jdk_68_method_71_code, exceptionTable := #[], attributes := #[] }
def k12m8 : Method := { name := "inflateIfNeededFor", desc := "(Ljava/lang/String;)V", sig := { parameters := [(.object "java/lang/String")], returnType := none }, accessFlags := 2, code := some k12c8 }
def k12c9 : Code := { maxStack := 4, maxLocals := 3, code := jdk_68_method_73_code, exceptionTable := #[], attributes := #[] }
def k12m9 : Method := { name := "putStringAt", desc := "(ILjava/lang/String;)V", sig := { parameters := [.int, (.object "java/lang/String")], returnType := none }, accessFlags := 2, code := some k12c9 }
/-- java/lang/AbstractStringBuilder -/
def k12 : Class := { plain "java/lang/AbstractStringBuilder" (some 0) with
  accessFlags := 1056
  interfaces := #[11, 4]
  cf := some (fileOf pool12 10 #[] #[{ accessFlags := 0, nameIndex := 7, descriptorIndex := 8, attributes := #[] }, { accessFlags := 0, nameIndex := 7, descriptorIndex := 103, attributes := #[] }, { accessFlags := 1, nameIndex := 34, descriptorIndex := 35, attributes := #[] }, { accessFlags := 2, nameIndex := 102, descriptorIndex := 103, attributes := #[] }, { accessFlags := 1, nameIndex := 45, descriptorIndex := 46, attributes := #[] }, { accessFlags := 1, nameIndex := 45, descriptorIndex := 511, attributes := #[] }, { accessFlags := 16, nameIndex := 552, descriptorIndex := 403, attributes := #[] }, { accessFlags := 16, nameIndex := 85, descriptorIndex := 86, attributes := #[] }, { accessFlags := 2, nameIndex := 217, descriptorIndex := 69, attributes := #[] }, { accessFlags := 2, nameIndex := 210, descriptorIndex := 211, attributes := #[] }] 1056 4 #[444, 48] #[{ accessFlags := 0, nameIndex := 17, descriptorIndex := 14, attributes := #[] }, { accessFlags := 0, nameIndex := 24, descriptorIndex := 25, attributes := #[] }, { accessFlags := 0, nameIndex := 75, descriptorIndex := 21, attributes := #[] }, { accessFlags := 0, nameIndex := 81, descriptorIndex := 82, attributes := #[] }, { accessFlags := 26, nameIndex := 13, descriptorIndex := 14, attributes := #[] }])
  fields := #[{ name := "value", type := (.array .byte), accessFlags := 0, slot := 0, constantValue := 0 }, { name := "coder", type := .byte, accessFlags := 0, slot := 1, constantValue := 0 }, { name := "maybeLatin1", type := .boolean, accessFlags := 0, slot := 2, constantValue := 0 }, { name := "count", type := .int, accessFlags := 0, slot := 3, constantValue := 0 }, { name := "EMPTYVALUE", type := (.array .byte), accessFlags := 26, slot := 0, constantValue := 0 }]
  methods := #[k12m0, k12m1, k12m2, k12m3, k12m4, k12m5, k12m6, k12m7, k12m8, k12m9]
  instanceTypes := #[(.array .byte), .byte, .boolean, .int]
  staticTypes := #[(.array .byte)]
  resolved := Array.replicate 609 none
  statics := none }

def pool13 : Array CpInfo := pool [(1, .methodref 2 3), (0, .class_ 4), (0, .nameAndType 5 6), (0, u "java/lang/AbstractStringBuilder"), (0, u "<init>"), (0, u "(I)V"), (11, .class_ 20), (1, u "java/lang/String"), (3, .class_ 26), (1, u "java/lang/StringBuilder"), (0, u "append"), (0, u "(Ljava/lang/String;)Ljava/lang/StringBuilder;"), (0, .methodref 2 30), (0, .nameAndType 27 31), (0, u "(Ljava/lang/String;)Ljava/lang/AbstractStringBuilder;"), (21, .methodref 2 54), (0, .nameAndType 27 55), (0, u "(I)Ljava/lang/AbstractStringBuilder;"), (81, .methodref 18 138), (0, .nameAndType 5 139), (0, u "(Ljava/lang/StringBuilder;)V"), (5, u "()V"), (10, u "()I"), (111, u "(I)Ljava/lang/StringBuilder;"), (74, .methodref 2 344), (0, .nameAndType 345 156), (0, u "length"), (3, .class_ 350), (0, u "java/lang/Appendable"), (0, .class_ 352), (0, u "java/io/Serializable"), (0, .class_ 354), (0, u "java/lang/Comparable"), (0, .class_ 356), (0, u "java/lang/CharSequence"), (0, u "serialVersionUID"), (0, u "J"), (40, u "toString"), (0, u "()Ljava/lang/String;")] 21

def k13c0 : Code := { maxStack := 2, maxLocals := 1, code := jdk_67_method_1_code, exceptionTable := #[], attributes := #[] }
def k13m0 : Method := { name := "<init>", desc := "()V", sig := { parameters := [], returnType := none }, accessFlags := 1, code := some k13c0 }
def k13c1 : Code := { maxStack := 2, maxLocals := 2, code := jdk_67_method_7_code, exceptionTable := #[], attributes := #[] }
def k13m1 : Method := { name := "append", desc := "(Ljava/lang/String;)Ljava/lang/StringBuilder;", sig := { parameters := [(.object "java/lang/String")], returnType := some (.object "java/lang/StringBuilder") }, accessFlags := 1, code := some k13c1 }
def k13c2 : Code := { maxStack := 2, maxLocals := 2, code := jdk_67_method_15_code, exceptionTable := #[], attributes := #[] }
def k13m2 : Method := { name := "append", desc := "(I)Ljava/lang/StringBuilder;", sig := { parameters := [.int], returnType := some (.object "java/lang/StringBuilder") }, accessFlags := 1, code := some k13c2 }
def k13c3 : Code := { maxStack := 3, maxLocals := 1, code := jdk_67_method_42_code, exceptionTable := #[], attributes := #[] }
def k13m3 : Method := { name := "toString", desc := "()Ljava/lang/String;", sig := { parameters := [], returnType := some (.object "java/lang/String") }, accessFlags := 1, code := some k13c3 }
def k13c4 : Code := { maxStack := 1, maxLocals := 1, code := jdk_67_method_93_code, exceptionTable := #[], attributes := #[] }
def k13m4 : Method := { name := "length", desc := "()I", sig := { parameters := [], returnType := some .int }, accessFlags := 4161, code := some k13c4 }
/-- java/lang/StringBuilder -/
def k13 : Class := { plain "java/lang/StringBuilder" (some 12) with
  accessFlags := 49
  interfaces := #[11, 2, 3, 4]
  cf := some (fileOf pool13 24 #[] #[{ accessFlags := 1, nameIndex := 5, descriptorIndex := 145, attributes := #[] }, { accessFlags := 1, nameIndex := 27, descriptorIndex := 28, attributes := #[] }, { accessFlags := 1, nameIndex := 27, descriptorIndex := 268, attributes := #[] }, { accessFlags := 1, nameIndex := 399, descriptorIndex := 400, attributes := #[] }, { accessFlags := 4161, nameIndex := 345, descriptorIndex := 156, attributes := #[] }] 49 2 #[349, 351, 353, 355] #[{ accessFlags := 24, nameIndex := 357, descriptorIndex := 358, attributes := #[] }])
  fields := #[{ name := "serialVersionUID", type := .long, accessFlags := 24, slot := 0, constantValue := 0 }]
  methods := #[k13m0, k13m1, k13m2, k13m3, k13m4]
  instanceTypes := #[(.array .byte), .byte, .boolean, .int]
  staticTypes := #[.long]
  resolved := Array.replicate 422 none
  statics := none }

def pool14 : Array CpInfo := pool [(2, .class_ 4), (1, u "java/lang/Object"), (0, u "<init>"), (0, u "()V"), (1, .class_ 10), (1, u "java/lang/System"), (0, u "allowSecurityManager"), (0, u "I"), (16, u "cons"), (0, u "Ljava/io/Console;"), (77, .class_ 110), (1, u "java/lang/System$CallersHolder"), (43, u "initialErrStream"), (0, u "Ljava/io/PrintStream;"), (19, u "security"), (0, u "Ljava/lang/SecurityManager;"), (31, .class_ 209), (0, u "java/lang/System$1"), (7, u "props"), (0, u "Ljava/util/Properties;"), (2, u "lineSeparator"), (0, u "Ljava/lang/String;"), (96, .class_ 321), (1, u "java/lang/System$LoggerFinder"), (5, .class_ 328), (0, u "java/lang/System$Logger"), (67, u "err"), (2, u "out"), (91, u "notSupportedJnuEncoding"), (15, u "in"), (17, u "initialIn"), (0, u "Ljava/io/InputStream;"), (35, u "bootLayer"), (0, u "Ljava/lang/ModuleLayer;"), (99, .class_ 664), (0, u "java/lang/System$2"), (9, u "NEVER"), (2, u "MAYBE"), (49, u "arraycopy"), (0, u "(Ljava/lang/Object;ILjava/lang/Object;II)V"), (72, .class_ 802), (0, u "java/lang/System$Logger$Level")] 31

def k14m0 : Method := { name := "<init>", desc := "()V", sig := { parameters := [], returnType := none }, accessFlags := 2, code := none }
def k14m1 : Method := { name := "arraycopy", desc := "(Ljava/lang/Object;ILjava/lang/Object;II)V", sig := { parameters := [(.object "java/lang/Object"), .int, (.object "java/lang/Object"), .int, .int], returnType := none }, accessFlags := 265, code := none }
/-- java/lang/System -/
def k14 : Class := { plain "java/lang/System" (some 0) with
  accessFlags := 49
  interfaces := #[]
  cf := some (fileOf pool14 8 #[.nestMembers #[319, 327, 801, 108, 663, 208]] #[{ accessFlags := 2, nameIndex := 5, descriptorIndex := 6, attributes := #[] }, { accessFlags := 265, nameIndex := 727, descriptorIndex := 728, attributes := #[] }] 49 2 #[] #[{ accessFlags := 25, nameIndex := 507, descriptorIndex := 526, attributes := #[] }, { accessFlags := 25, nameIndex := 399, descriptorIndex := 155, attributes := #[] }, { accessFlags := 25, nameIndex := 396, descriptorIndex := 155, attributes := #[] }, { accessFlags := 10, nameIndex := 525, descriptorIndex := 526, attributes := #[] }, { accessFlags := 26, nameIndex := 674, descriptorIndex := 12, attributes := #[] }, { accessFlags := 26, nameIndex := 677, descriptorIndex := 12, attributes := #[] }, { accessFlags := 10, nameIndex := 11, descriptorIndex := 12, attributes := #[] }, { accessFlags := 74, nameIndex := 175, descriptorIndex := 176, attributes := #[] }, { accessFlags := 10, nameIndex := 491, descriptorIndex := 222, attributes := #[] }, { accessFlags := 74, nameIndex := 29, descriptorIndex := 30, attributes := #[] }, { accessFlags := 74, nameIndex := 154, descriptorIndex := 155, attributes := #[] }, { accessFlags := 10, nameIndex := 217, descriptorIndex := 218, attributes := #[] }, { accessFlags := 10, nameIndex := 221, descriptorIndex := 222, attributes := #[] }, { accessFlags := 8, nameIndex := 562, descriptorIndex := 563, attributes := #[] }])
  fields := #[{ name := "in", type := (.object "java/io/InputStream"), accessFlags := 25, slot := 0, constantValue := 0 }, { name := "out", type := (.object "java/io/PrintStream"), accessFlags := 25, slot := 1, constantValue := 0 }, { name := "err", type := (.object "java/io/PrintStream"), accessFlags := 25, slot := 2, constantValue := 0 }, { name := "initialIn", type := (.object "java/io/InputStream"), accessFlags := 10, slot := 3, constantValue := 0 }, { name := "NEVER", type := .int, accessFlags := 26, slot := 4, constantValue := 0 }, { name := "MAYBE", type := .int, accessFlags := 26, slot := 5, constantValue := 0 }, { name := "allowSecurityManager", type := .int, accessFlags := 10, slot := 6, constantValue := 0 }, { name := "security", type := (.object "java/lang/SecurityManager"), accessFlags := 74, slot := 7, constantValue := 0 }, { name := "notSupportedJnuEncoding", type := (.object "java/lang/String"), accessFlags := 10, slot := 8, constantValue := 0 }, { name := "cons", type := (.object "java/io/Console"), accessFlags := 74, slot := 9, constantValue := 0 }, { name := "initialErrStream", type := (.object "java/io/PrintStream"), accessFlags := 74, slot := 10, constantValue := 0 }, { name := "props", type := (.object "java/util/Properties"), accessFlags := 10, slot := 11, constantValue := 0 }, { name := "lineSeparator", type := (.object "java/lang/String"), accessFlags := 10, slot := 12, constantValue := 0 }, { name := "bootLayer", type := (.object "java/lang/ModuleLayer"), accessFlags := 8, slot := 13, constantValue := 0 }]
  methods := #[k14m0, k14m1]
  instanceTypes := #[]
  staticTypes := #[(.object "java/io/InputStream"), (.object "java/io/PrintStream"), (.object "java/io/PrintStream"), (.object "java/io/InputStream"), .int, .int, .int, (.object "java/lang/SecurityManager"), (.object "java/lang/String"), (.object "java/io/Console"), (.object "java/io/PrintStream"), (.object "java/util/Properties"), (.object "java/lang/String"), (.object "java/lang/ModuleLayer")]
  resolved := Array.replicate 834 none
  statics := none }

def pool15 : Array CpInfo := pool [(2, .class_ 4), (1, u "java/lang/Object"), (0, u "<init>"), (0, u "()V"), (1, .class_ 10), (1, u "java/lang/Number"), (2, .class_ 14), (0, u "java/io/Serializable"), (0, u "serialVersionUID"), (0, u "J")] 20

def k15m0 : Method := { name := "<init>", desc := "()V", sig := { parameters := [], returnType := none }, accessFlags := 1, code := none }
/-- java/lang/Number -/
def k15 : Class := { plain "java/lang/Number" (some 0) with
  accessFlags := 1057
  interfaces := #[2]
  cf := some (fileOf pool15 8 #[] #[{ accessFlags := 1, nameIndex := 5, descriptorIndex := 6, attributes := #[] }] 1057 2 #[13] #[{ accessFlags := 26, nameIndex := 15, descriptorIndex := 16, attributes := #[] }])
  fields := #[{ name := "serialVersionUID", type := .long, accessFlags := 26, slot := 0, constantValue := 0 }]
  methods := #[k15m0]
  instanceTypes := #[]
  staticTypes := #[.long]
  resolved := Array.replicate 37 none
  statics := none }

def pool16 : Array CpInfo := pool [(1, .class_ 2), (0, u "java/lang/Integer"), (16, u "digits"), (0, u "[C"), (33, u "(I)I"), (19, u "stringSize"), (2, u "getChars"), (0, u "(II[B)I"), (4, .fieldref 1 84), (0, .nameAndType 85 86), (0, u "DigitOnes"), (0, u "[B"), (0, .fieldref 1 88), (0, .nameAndType 89 86), (0, u "DigitTens"), (99, .class_ 190), (0, u "java/lang/Integer$IntegerCache"), (3, u "I"), (8, .class_ 204), (0, u "java/lang/Number"), (2, u "value"), (94, u "TYPE"), (0, u "Ljava/lang/Class;"), (0, .class_ 305), (0, u "java/lang/Comparable"), (0, .class_ 307), (0, u "java/lang/constant/Constable"), (0, .class_ 309), (0, u "java/lang/constant/ConstantDesc"), (0, u "MIN_VALUE"), (1, u "MAX_VALUE"), (3, u "SIZE"), (1, u "BYTES"), (1, u "serialVersionUID"), (0, u "J")] 131

def k16c0 : Code := { maxStack := 4, maxLocals := 7, code := jdk_33_method_12_code, exceptionTable := #[], attributes := #[] }
def k16m0 : Method := { name := "getChars", desc := "(II[B)I", sig := { parameters := [.int, .int, (.array .byte)], returnType := some .int }, accessFlags := 8, code := some k16c0 }
def k16c1 : Code := { maxStack := 2, maxLocals := 4, code := jdk_33_method_13_code, exceptionTable := #[], attributes := #[] }
def k16m1 : Method := { name := "stringSize", desc := "(I)I", sig := { parameters := [.int], returnType := some .int }, accessFlags := 8, code := some k16c1 }
/-- java/lang/Integer -/
def k16 : Class := { plain "java/lang/Integer" (some 15) with
  accessFlags := 49
  interfaces := #[3, 5, 6]
  cf := some (fileOf pool16 1 #[.nestMembers #[189]] #[{ accessFlags := 8, nameIndex := 77, descriptorIndex := 78, attributes := #[] }, { accessFlags := 8, nameIndex := 74, descriptorIndex := 54, attributes := #[] }] 49 203 #[304, 306, 308] #[{ accessFlags := 25, nameIndex := 310, descriptorIndex := 194, attributes := #[] }, { accessFlags := 25, nameIndex := 312, descriptorIndex := 194, attributes := #[] }, { accessFlags := 25, nameIndex := 302, descriptorIndex := 303, attributes := #[] }, { accessFlags := 24, nameIndex := 19, descriptorIndex := 20, attributes := #[] }, { accessFlags := 24, nameIndex := 89, descriptorIndex := 86, attributes := #[] }, { accessFlags := 24, nameIndex := 85, descriptorIndex := 86, attributes := #[] }, { accessFlags := 18, nameIndex := 207, descriptorIndex := 194, attributes := #[] }, { accessFlags := 25, nameIndex := 316, descriptorIndex := 194, attributes := #[] }, { accessFlags := 25, nameIndex := 318, descriptorIndex := 194, attributes := #[] }, { accessFlags := 26, nameIndex := 320, descriptorIndex := 321, attributes := #[] }])
  fields := #[{ name := "MIN_VALUE", type := .int, accessFlags := 25, slot := 0, constantValue := 0 }, { name := "MAX_VALUE", type := .int, accessFlags := 25, slot := 1, constantValue := 0 }, { name := "TYPE", type := (.object "java/lang/Class"), accessFlags := 25, slot := 2, constantValue := 0 }, { name := "digits", type := (.array .char), accessFlags := 24, slot := 3, constantValue := 0 }, { name := "DigitTens", type := (.array .byte), accessFlags := 24, slot := 4, constantValue := 0 }, { name := "DigitOnes", type := (.array .byte), accessFlags := 24, slot := 5, constantValue := 0 }, { name := "value", type := .int, accessFlags := 18, slot := 0, constantValue := 0 }, { name := "SIZE", type := .int, accessFlags := 25, slot := 6, constantValue := 0 }, { name := "BYTES", type := .int, accessFlags := 25, slot := 7, constantValue := 0 }, { name := "serialVersionUID", type := .long, accessFlags := 26, slot := 8, constantValue := 0 }]
  methods := #[k16m0, k16m1]
  instanceTypes := #[.int]
  staticTypes := #[.int, .int, (.object "java/lang/Class"), (.array .char), (.array .byte), (.array .byte), .int, .int, .long]
  resolved := Array.replicate 453 none
  statics := some 1 }

def pool17 : Array CpInfo := pool [(2, .class_ 4), (1, u "java/lang/Object"), (0, u "<init>"), (0, u "()V"), (7, .class_ 16), (1, u "java/util/Arrays"), (57, .class_ 76), (1, u "java/util/Arrays$NaturalOrder"), (36, .class_ 115), (1, u "java/util/Arrays$LegacyMergeSort"), (1, u "Z"), (21, u "copyOfRange"), (10, .methodref 151 152), (0, .class_ 153), (0, .nameAndType 154 155), (0, u "java/lang/System"), (0, u "arraycopy"), (0, u "(Ljava/lang/Object;ILjava/lang/Object;II)V"), (148, .methodref 305 306), (0, .class_ 307), (0, .nameAndType 308 309), (0, u "java/lang/Math"), (0, u "min"), (0, u "(II)I"), (29, .methodref 14 340), (0, .nameAndType 341 342), (0, u "copyOfRangeByte"), (0, u "([BII)[B"), (0, .methodref 14 344), (0, .nameAndType 345 346), (0, u "checkLength"), (0, u "(II)V"), (28, .class_ 376), (0, u "java/util/Arrays$ArrayList"), (68, u "$assertionsDisabled"), (269, u "MIN_ARRAY_SORT_GRAN"), (0, u "I"), (2, u "INSERTIONSORT_THRESHOLD"), (255, .class_ 976), (0, u "java/util/Arrays$ArrayItr")] 52

def k17m0 : Method := { name := "<init>", desc := "()V", sig := { parameters := [], returnType := none }, accessFlags := 2, code := none }
def k17c1 : Code := { maxStack := 4, maxLocals := 2, code := jdk_65_method_131_code, exceptionTable := #[], attributes := #[] }
def k17m1 : Method := { name := "checkLength", desc := "(II)V", sig := { parameters := [.int, .int], returnType := none }, accessFlags := 10, code := some k17c1 }
def k17c2 : Code := { maxStack := 3, maxLocals := 3, code := jdk_65_method_132_code, exceptionTable := #[], attributes := #[] }
def k17m2 : Method := { name := "copyOfRange", desc := "([BII)[B", sig := { parameters := [(.array .byte), .int, .int], returnType := some (.array .byte) }, accessFlags := 9, code := some k17c2 }
def k17c3 : Code := { maxStack := 6, maxLocals := 5, code := jdk_65_method_133_code, exceptionTable := #[], attributes := #[] }
def k17m3 : Method := { name := "copyOfRangeByte", desc := "([BII)[B", sig := { parameters := [(.array .byte), .int, .int], returnType := some (.array .byte) }, accessFlags := 10, code := some k17c3 }
/-- java/util/Arrays -/
def k17 : Class := { plain "java/util/Arrays" (some 0) with
  accessFlags := 49
  interfaces := #[]
  cf := some (fileOf pool17 14 #[.nestMembers #[975, 375, 113, 74]] #[{ accessFlags := 2, nameIndex := 5, descriptorIndex := 6, attributes := #[] }, { accessFlags := 10, nameIndex := 345, descriptorIndex := 346, attributes := #[] }, { accessFlags := 9, nameIndex := 139, descriptorIndex := 342, attributes := #[] }, { accessFlags := 10, nameIndex := 341, descriptorIndex := 342, attributes := #[] }] 49 2 #[] #[{ accessFlags := 26, nameIndex := 715, descriptorIndex := 716, attributes := #[] }, { accessFlags := 26, nameIndex := 719, descriptorIndex := 716, attributes := #[] }, { accessFlags := 4120, nameIndex := 445, descriptorIndex := 117, attributes := #[] }])
  fields := #[{ name := "MIN_ARRAY_SORT_GRAN", type := .int, accessFlags := 26, slot := 0, constantValue := 0 }, { name := "INSERTIONSORT_THRESHOLD", type := .int, accessFlags := 26, slot := 1, constantValue := 0 }, { name := "$assertionsDisabled", type := .boolean, accessFlags := 4120, slot := 2, constantValue := 0 }]
  methods := #[k17m0, k17m1, k17m2, k17m3]
  instanceTypes := #[]
  staticTypes := #[.int, .int, .boolean]
  resolved := Array.replicate 1029 none
  statics := none }

def pool18 : Array CpInfo := pool [(1, .class_ 2), (0, u "java/lang/Math"), (1, .class_ 6), (1, u "java/lang/Object"), (0, u "<init>"), (0, u "()V"), (89, .class_ 100), (1, u "java/lang/Math$RandomNumberGeneratorHolder"), (71, u "negativeZeroFloatBits"), (0, u "J"), (2, u "negativeZeroDoubleBits"), (24, u "min"), (43, u "$assertionsDisabled"), (0, u "Z"), (88, u "(II)I"), (2, u "twoToTheDoubleScaleDown"), (0, u "D"), (4, u "twoToTheDoubleScaleUp"), (9, u "E"), (3, u "PI"), (2, u "TAU"), (2, u "DEGREES_TO_RADIANS"), (0, u "RADIANS_TO_DEGREES")] 94

def k18m0 : Method := { name := "<init>", desc := "()V", sig := { parameters := [], returnType := none }, accessFlags := 2, code := none }
def k18c1 : Code := { maxStack := 2, maxLocals := 2, code := jdk_29_method_69_code, exceptionTable := #[], attributes := #[] }
def k18m1 : Method := { name := "min", desc := "(II)I", sig := { parameters := [.int, .int], returnType := some .int }, accessFlags := 9, code := some k18c1 }
/-- java/lang/Math -/
def k18 : Class := { plain "java/lang/Math" (some 0) with
  accessFlags := 49
  interfaces := #[]
  cf := some (fileOf pool18 1 #[.nestMembers #[98]] #[{ accessFlags := 2, nameIndex := 7, descriptorIndex := 8, attributes := #[] }, { accessFlags := 9, nameIndex := 201, descriptorIndex := 335, attributes := #[] }] 49 4 #[] #[{ accessFlags := 25, nameIndex := 354, descriptorIndex := 339, attributes := #[] }, { accessFlags := 25, nameIndex := 358, descriptorIndex := 339, attributes := #[] }, { accessFlags := 25, nameIndex := 361, descriptorIndex := 339, attributes := #[] }, { accessFlags := 26, nameIndex := 364, descriptorIndex := 339, attributes := #[] }, { accessFlags := 26, nameIndex := 365, descriptorIndex := 339, attributes := #[] }, { accessFlags := 26, nameIndex := 172, descriptorIndex := 173, attributes := #[] }, { accessFlags := 26, nameIndex := 176, descriptorIndex := 173, attributes := #[] }, { accessFlags := 8, nameIndex := 344, descriptorIndex := 339, attributes := #[] }, { accessFlags := 8, nameIndex := 338, descriptorIndex := 339, attributes := #[] }, { accessFlags := 4120, nameIndex := 245, descriptorIndex := 246, attributes := #[] }])
  fields := #[{ name := "E", type := .double, accessFlags := 25, slot := 0, constantValue := 0 }, { name := "PI", type := .double, accessFlags := 25, slot := 1, constantValue := 0 }, { name := "TAU", type := .double, accessFlags := 25, slot := 2, constantValue := 0 }, { name := "DEGREES_TO_RADIANS", type := .double, accessFlags := 26, slot := 3, constantValue := 0 }, { name := "RADIANS_TO_DEGREES", type := .double, accessFlags := 26, slot := 4, constantValue := 0 }, { name := "negativeZeroFloatBits", type := .long, accessFlags := 26, slot := 5, constantValue := 0 }, { name := "negativeZeroDoubleBits", type := .long, accessFlags := 26, slot := 6, constantValue := 0 }, { name := "twoToTheDoubleScaleUp", type := .double, accessFlags := 8, slot := 7, constantValue := 0 }, { name := "twoToTheDoubleScaleDown", type := .double, accessFlags := 8, slot := 8, constantValue := 0 }, { name := "$assertionsDisabled", type := .boolean, accessFlags := 4120, slot := 9, constantValue := 0 }]
  methods := #[k18m0, k18m1]
  instanceTypes := #[]
  staticTypes := #[.double, .double, .double, .double, .double, .long, .long, .double, .double, .boolean]
  resolved := Array.replicate 460 none
  statics := none }

def pool19 : Array CpInfo := pool [(1, .class_ 2), (0, u "java/lang/String"), (1, .class_ 6), (1, u "java/lang/Object"), (0, u "<init>"), (0, u "()V"), (0, .methodref 1 10), (0, .nameAndType 11 12), (0, u "checkIndex"), (0, u "(II)V"), (1, .class_ 16), (1, u "java/lang/StringLatin1"), (36, u "([BI)C"), (67, u "$assertionsDisabled"), (0, u "Z"), (98, .class_ 223), (1, u "java/lang/StringLatin1$LinesSpliterator"), (28, u "charAt"), (137, .class_ 391), (0, u "java/lang/StringLatin1$CharsSpliterator")] 3

def k19m0 : Method := { name := "<init>", desc := "()V", sig := { parameters := [], returnType := none }, accessFlags := 0, code := none }
def k19c1 : Code := { maxStack := 2, maxLocals := 2, code := jdk_43_method_2_code, exceptionTable := #[], attributes := #[] }
def k19m1 : Method := { name := "charAt", desc := "([BI)C", sig := { parameters := [(.array .byte), .int], returnType := some .char }, accessFlags := 9, code := some k19c1 }
/-- java/lang/StringLatin1 -/
def k19 : Class := { plain "java/lang/StringLatin1" (some 0) with
  accessFlags := 48
  interfaces := #[]
  cf := some (fileOf pool19 14 #[.nestMembers #[390, 221]] #[{ accessFlags := 0, nameIndex := 7, descriptorIndex := 8, attributes := #[] }, { accessFlags := 9, nameIndex := 252, descriptorIndex := 53, attributes := #[] }] 48 4 #[] #[{ accessFlags := 4120, nameIndex := 121, descriptorIndex := 122, attributes := #[] }])
  fields := #[{ name := "$assertionsDisabled", type := .boolean, accessFlags := 4120, slot := 0, constantValue := 0 }]
  methods := #[k19m0, k19m1]
  instanceTypes := #[]
  staticTypes := #[.boolean]
  resolved := Array.replicate 395 none
  statics := none }

def pool20 : Array CpInfo := pool [(2, .class_ 4), (1, u "java/lang/Object"), (0, u "<init>"), (0, u "()V"), (17, .class_ 26), (1, u "jdk/internal/util/Preconditions"), (6, u "checkIndex"), (21, .class_ 56), (0, u "jdk/internal/util/Preconditions$4"), (57, .class_ 115), (0, u "jdk/internal/util/Preconditions$1"), (7, u "SIOOBE_FORMATTER"), (0, u "Ljava/util/function/BiFunction;"), (0, .class_ 126), (0, u "jdk/internal/util/Preconditions$2"), (3, u "AIOOBE_FORMATTER"), (0, .class_ 132), (0, u "jdk/internal/util/Preconditions$3"), (3, u "IOOBE_FORMATTER"), (41, u "(IILjava/util/function/BiFunction;)I")] 15

def k20m0 : Method := { name := "<init>", desc := "()V", sig := { parameters := [], returnType := none }, accessFlags := 1, code := none }
def k20c1 : Code := { maxStack := 3, maxLocals := 3, code := jdk_41_method_11_code, exceptionTable := #[], attributes := #[] }
def k20m1 : Method := { name := "checkIndex", desc := "(IILjava/util/function/BiFunction;)I", sig := { parameters := [.int, .int, (.object "java/util/function/BiFunction")], returnType := some .int }, accessFlags := 9, code := some k20c1 }
/-- jdk/internal/util/Preconditions -/
def k20 : Class := { plain "jdk/internal/util/Preconditions" (some 0) with
  accessFlags := 33
  interfaces := #[]
  cf := some (fileOf pool20 24 #[.nestMembers #[55, 131, 125, 114]] #[{ accessFlags := 1, nameIndex := 5, descriptorIndex := 6, attributes := #[] }, { accessFlags := 9, nameIndex := 33, descriptorIndex := 178, attributes := #[] }] 33 2 #[] #[{ accessFlags := 25, nameIndex := 123, descriptorIndex := 124, attributes := #[] }, { accessFlags := 25, nameIndex := 130, descriptorIndex := 124, attributes := #[] }, { accessFlags := 25, nameIndex := 136, descriptorIndex := 124, attributes := #[] }])
  fields := #[{ name := "SIOOBE_FORMATTER", type := (.object "java/util/function/BiFunction"), accessFlags := 25, slot := 0, constantValue := 0 }, { name := "AIOOBE_FORMATTER", type := (.object "java/util/function/BiFunction"), accessFlags := 25, slot := 1, constantValue := 0 }, { name := "IOOBE_FORMATTER", type := (.object "java/util/function/BiFunction"), accessFlags := 25, slot := 2, constantValue := 0 }]
  methods := #[k20m0, k20m1]
  instanceTypes := #[]
  staticTypes := #[(.object "java/util/function/BiFunction"), (.object "java/util/function/BiFunction"), (.object "java/util/function/BiFunction")]
  resolved := Array.replicate 194 none
  statics := some 2 }

def pool21 : Array CpInfo := pool [(9, u "<init>"), (6, .class_ 18), (1, u "java/lang/Object"), (0, u "()V"), (1, .class_ 23), (1, u "jdk/internal/util/ArraysSupport"), (0, u "LOG2_ARRAY_LONG_INDEX_SCALE"), (0, u "I"), (2, u "U"), (0, u "Ljdk/internal/misc/Unsafe;"), (8, u "BIG_ENDIAN"), (0, u "Z"), (8, u "LOG2_BYTE_BIT_SIZE"), (4, u "LOG2_ARRAY_INT_INDEX_SCALE"), (54, u "JLA"), (0, u "Ljdk/internal/access/JavaLangAccess;"), (11, u "LOG2_ARRAY_BOOLEAN_INDEX_SCALE"), (9, u "LOG2_ARRAY_BYTE_INDEX_SCALE"), (5, u "LOG2_ARRAY_CHAR_INDEX_SCALE"), (5, u "LOG2_ARRAY_SHORT_INDEX_SCALE"), (18, u "LOG2_ARRAY_FLOAT_INDEX_SCALE"), (24, u "LOG2_ARRAY_DOUBLE_INDEX_SCALE"), (89, u "T_BOOLEAN"), (2, u "T_CHAR"), (1, u "T_FLOAT"), (1, u "T_DOUBLE"), (1, u "T_BYTE"), (1, u "T_SHORT"), (1, u "T_INT"), (1, u "T_LONG"), (1, u "SOFT_MAX_ARRAY_LENGTH")] 83

def k21m0 : Method := { name := "<init>", desc := "()V", sig := { parameters := [], returnType := none }, accessFlags := 2, code := none }
/-- jdk/internal/util/ArraysSupport -/
def k21 : Class := { plain "jdk/internal/util/ArraysSupport" (some 0) with
  accessFlags := 33
  interfaces := #[]
  cf := some (fileOf pool21 21 #[] #[{ accessFlags := 2, nameIndex := 9, descriptorIndex := 19, attributes := #[] }] 33 16 #[] #[{ accessFlags := 24, nameIndex := 28, descriptorIndex := 29, attributes := #[] }, { accessFlags := 26, nameIndex := 38, descriptorIndex := 39, attributes := #[] }, { accessFlags := 25, nameIndex := 121, descriptorIndex := 25, attributes := #[] }, { accessFlags := 25, nameIndex := 131, descriptorIndex := 25, attributes := #[] }, { accessFlags := 25, nameIndex := 137, descriptorIndex := 25, attributes := #[] }, { accessFlags := 25, nameIndex := 143, descriptorIndex := 25, attributes := #[] }, { accessFlags := 25, nameIndex := 53, descriptorIndex := 25, attributes := #[] }, { accessFlags := 25, nameIndex := 24, descriptorIndex := 25, attributes := #[] }, { accessFlags := 25, nameIndex := 162, descriptorIndex := 25, attributes := #[] }, { accessFlags := 25, nameIndex := 187, descriptorIndex := 25, attributes := #[] }, { accessFlags := 26, nameIndex := 48, descriptorIndex := 25, attributes := #[] }, { accessFlags := 25, nameIndex := 277, descriptorIndex := 25, attributes := #[] }, { accessFlags := 25, nameIndex := 280, descriptorIndex := 25, attributes := #[] }, { accessFlags := 25, nameIndex := 282, descriptorIndex := 25, attributes := #[] }, { accessFlags := 25, nameIndex := 284, descriptorIndex := 25, attributes := #[] }, { accessFlags := 25, nameIndex := 286, descriptorIndex := 25, attributes := #[] }, { accessFlags := 25, nameIndex := 288, descriptorIndex := 25, attributes := #[] }, { accessFlags := 25, nameIndex := 290, descriptorIndex := 25, attributes := #[] }, { accessFlags := 25, nameIndex := 292, descriptorIndex := 25, attributes := #[] }, { accessFlags := 26, nameIndex := 108, descriptorIndex := 109, attributes := #[] }, { accessFlags := 25, nameIndex := 294, descriptorIndex := 25, attributes := #[] }])
  fields := #[{ name := "U", type := (.object "jdk/internal/misc/Unsafe"), accessFlags := 24, slot := 0, constantValue := 0 }, { name := "BIG_ENDIAN", type := .boolean, accessFlags := 26, slot := 1, constantValue := 0 }, { name := "LOG2_ARRAY_BOOLEAN_INDEX_SCALE", type := .int, accessFlags := 25, slot := 2, constantValue := 0 }, { name := "LOG2_ARRAY_BYTE_INDEX_SCALE", type := .int, accessFlags := 25, slot := 3, constantValue := 0 }, { name := "LOG2_ARRAY_CHAR_INDEX_SCALE", type := .int, accessFlags := 25, slot := 4, constantValue := 0 }, { name := "LOG2_ARRAY_SHORT_INDEX_SCALE", type := .int, accessFlags := 25, slot := 5, constantValue := 0 }, { name := "LOG2_ARRAY_INT_INDEX_SCALE", type := .int, accessFlags := 25, slot := 6, constantValue := 0 }, { name := "LOG2_ARRAY_LONG_INDEX_SCALE", type := .int, accessFlags := 25, slot := 7, constantValue := 0 }, { name := "LOG2_ARRAY_FLOAT_INDEX_SCALE", type := .int, accessFlags := 25, slot := 8, constantValue := 0 }, { name := "LOG2_ARRAY_DOUBLE_INDEX_SCALE", type := .int, accessFlags := 25, slot := 9, constantValue := 0 }, { name := "LOG2_BYTE_BIT_SIZE", type := .int, accessFlags := 26, slot := 10, constantValue := 0 }, { name := "T_BOOLEAN", type := .int, accessFlags := 25, slot := 11, constantValue := 0 }, { name := "T_CHAR", type := .int, accessFlags := 25, slot := 12, constantValue := 0 }, { name := "T_FLOAT", type := .int, accessFlags := 25, slot := 13, constantValue := 0 }, { name := "T_DOUBLE", type := .int, accessFlags := 25, slot := 14, constantValue := 0 }, { name := "T_BYTE", type := .int, accessFlags := 25, slot := 15, constantValue := 0 }, { name := "T_SHORT", type := .int, accessFlags := 25, slot := 16, constantValue := 0 }, { name := "T_INT", type := .int, accessFlags := 25, slot := 17, constantValue := 0 }, { name := "T_LONG", type := .int, accessFlags := 25, slot := 18, constantValue := 0 }, { name := "JLA", type := (.object "jdk/internal/access/JavaLangAccess"), accessFlags := 26, slot := 19, constantValue := 0 }, { name := "SOFT_MAX_ARRAY_LENGTH", type := .int, accessFlags := 25, slot := 20, constantValue := 0 }]
  methods := #[k21m0]
  instanceTypes := #[]
  staticTypes := #[(.object "jdk/internal/misc/Unsafe"), .boolean, .int, .int, .int, .int, .int, .int, .int, .int, .int, .int, .int, .int, .int, .int, .int, .int, .int, (.object "jdk/internal/access/JavaLangAccess"), .int]
  resolved := Array.replicate 378 none
  statics := none }

def pool22 : Array CpInfo := pool [(1, u "java/lang/Cloneable"), (0, .class_ 1), (0, u "java/lang/Object"), (0, .class_ 3)] 3

/-- java/lang/Cloneable -/
def k22 : Class := { plain "java/lang/Cloneable" (some 0) with
  accessFlags := 1537
  interfaces := #[]
  cf := some (fileOf pool22 2 #[] #[] 1537 4 #[] #[])
  fields := #[]
  methods := #[]
  instanceTypes := #[]
  staticTypes := #[]
  resolved := Array.replicate 8 none
  statics := none }

/-- the primitive byte -/
def k23 : Class := { plain "byte" none with kind := .primitive 'B', accessFlags := 0x411 }
/-- [B -/
def k24 : Class := { plain "[B" (some 0) with kind := .array 23 .byte, interfaces := #[22, 2], accessFlags := 1041 }

/-- the primitive char -/
def k25 : Class := { plain "char" none with kind := .primitive 'C', accessFlags := 0x411 }
/-- [C -/
def k26 : Class := { plain "[C" (some 0) with kind := .array 25 .char, interfaces := #[22, 2], accessFlags := 1041 }

/-- the primitive int -/
def k27 : Class := { plain "int" none with kind := .primitive 'I', accessFlags := 0x411 }
/-- [I -/
def k28 : Class := { plain "[I" (some 0) with kind := .array 27 .int, interfaces := #[22, 2], accessFlags := 1041 }

def heap : Heap := #[{ cls := 7, slots := #[.long 0, .int 1, .null, .int 0, .null, .int 0, .int 0], vm := .statics 7 },
  { cls := 16, slots := #[.int 0, .int 0, .null, .null, .ref 4, .ref 3, .int 0, .int 0, .long 0], vm := .statics 16 },
  { cls := 20, slots := #[.null, .null, .null], vm := .statics 20 },
  { cls := 24, slots := #[.int 48, .int 49, .int 50, .int 51, .int 52, .int 53, .int 54, .int 55, .int 56, .int 57, .int 48, .int 49, .int 50, .int 51, .int 52, .int 53, .int 54, .int 55, .int 56, .int 57, .int 48, .int 49, .int 50, .int 51, .int 52, .int 53, .int 54, .int 55, .int 56, .int 57, .int 48, .int 49, .int 50, .int 51, .int 52, .int 53, .int 54, .int 55, .int 56, .int 57, .int 48, .int 49, .int 50, .int 51, .int 52, .int 53, .int 54, .int 55, .int 56, .int 57, .int 48, .int 49, .int 50, .int 51, .int 52, .int 53, .int 54, .int 55, .int 56, .int 57, .int 48, .int 49, .int 50, .int 51, .int 52, .int 53, .int 54, .int 55, .int 56, .int 57, .int 48, .int 49, .int 50, .int 51, .int 52, .int 53, .int 54, .int 55, .int 56, .int 57, .int 48, .int 49, .int 50, .int 51, .int 52, .int 53, .int 54, .int 55, .int 56, .int 57, .int 48, .int 49, .int 50, .int 51, .int 52, .int 53, .int 54, .int 55, .int 56, .int 57], vm := .none },
  { cls := 24, slots := #[.int 48, .int 48, .int 48, .int 48, .int 48, .int 48, .int 48, .int 48, .int 48, .int 48, .int 49, .int 49, .int 49, .int 49, .int 49, .int 49, .int 49, .int 49, .int 49, .int 49, .int 50, .int 50, .int 50, .int 50, .int 50, .int 50, .int 50, .int 50, .int 50, .int 50, .int 51, .int 51, .int 51, .int 51, .int 51, .int 51, .int 51, .int 51, .int 51, .int 51, .int 52, .int 52, .int 52, .int 52, .int 52, .int 52, .int 52, .int 52, .int 52, .int 52, .int 53, .int 53, .int 53, .int 53, .int 53, .int 53, .int 53, .int 53, .int 53, .int 53, .int 54, .int 54, .int 54, .int 54, .int 54, .int 54, .int 54, .int 54, .int 54, .int 54, .int 55, .int 55, .int 55, .int 55, .int 55, .int 55, .int 55, .int 55, .int 55, .int 55, .int 56, .int 56, .int 56, .int 56, .int 56, .int 56, .int 56, .int 56, .int 56, .int 56, .int 57, .int 57, .int 57, .int 57, .int 57, .int 57, .int 57, .int 57, .int 57, .int 57], vm := .none }]
def classes : Array Class := #[k0, k1, k2, k3, k4, k5, k6, k7, k8, k9, k10, k11, k12, k13, k14, k15, k16, k17, k18, k19, k20, k21, k22, k23, k24, k25, k26, k27, k28]
def interned : List (Array UInt16 × Addr) := []
def slotsUsed : Nat := 219
def theMethod : MethodId := ⟨1, 1⟩
def args0 : Array Value := #[.int 65, .int 66, .int 67, .int 2, .int 80]
def aboutOver (below : List Frame) : State where
  vm := { classes := classes, interned := interned.toArray }
  heap := heap
  slotsUsed := slotsUsed
  threads := #[{ frames := .invoking theMethod args0 :: below }]
def below0 : List Frame := [.native { method := ⟨0, 0⟩, args := #[] }]
def about1 : State := aboutOver below0
def p0 : Program := .bare "" "" ""
def e0 : Env := launch0.env 0 0 0
theorem w_frames : about1.frames = Frame.invoking theMethod args0 :: below0 := rfl
set_option maxRecDepth 65536 in
theorem w_args : argsFit about1.vm theMethod args0 = true := by decide +kernel
set_option maxRecDepth 65536 in
theorem w_heap : heapFits about1 = true := by decide +kernel
set_option maxRecDepth 65536 in
theorem w_runnable : about1.curStatus? = some .runnable := by decide +kernel
set_option maxRecDepth 65536 in
theorem w_alone : about1.alone = true := by decide +kernel
set_option maxRecDepth 65536 in
theorem w_named : about1.methodNamed? x = some theMethod := by decide +kernel
set_option maxRecDepth 65536 in
theorem w_hears : about1.hears theMethod below0 = true := by decide +kernel
set_option maxRecDepth 65536 in
theorem w_ripe : about1.ripe theMethod args0 below0 = true := by decide +kernel
theorem w_running : about1.status = .running := rfl
set_option maxRecDepth 65536 in
theorem w_room : about1.hasRoom e0.platform room_1 = true :=
  launch0.hasRoom_least _ room_1 (by decide +kernel) (by decide +kernel) (by decide +kernel) (by decide +kernel) (by decide +kernel) (by decide +kernel)
theorem allAtoms_all (ts : List Jvm.Cond) (a : Array Jvm.Value) (st : Jvm.State) : (allAtoms ts).before a st = ts.all (fun c => c.before a st) := by
  induction ts with
  | nil => rfl
  | cons c t ih =>
    show (Jvm.Cond.and c (allAtoms t)).before a st = _
    rw [Jvm.Cond.before_and, ih, List.all_cons]
def words1 : List Jvm.Cond := Jvm.Cond.code x code maxLocals ret :: tables_1
/-- a 'code' word, met by the world's own term for the bytes: nothing is compared byte by byte -/
theorem code_word {y : MethodName} {bytes : ByteArray} {mx : Nat} {rt : Option FieldType} {a : Array Value} {s : State} {m : MethodId} {meth : Method} {c : Code} (h1 : s.methodNamed? y = some m) (h2 : s.vm.method? m = some meth) (h3 : meth.code = some c) (h4 : c.code = bytes)
    (h5 : (c.maxLocals == mx && c.exceptionTable.isEmpty && decide (c.maxStack ≤ mostOperands) && decide (meth.sig.returnType = rt) && !meth.locks && decide (parseMethodDescriptor y.desc = some meth.sig)) = true) : (Jvm.Cond.code y bytes mx rt).before a s = true := by
  simp only [Bool.and_eq_true, beq_iff_eq, Bool.not_eq_true', decide_eq_true_eq] at h5
  obtain ⟨⟨⟨⟨⟨g1, g2⟩, g3⟩, g4⟩, g5⟩, g6⟩ := h5
  simp [Cond.before, Cond.holds, Cond.value, h1, h2, h3, h4, g1, g2, g3, g4, g5, g6]
def isCode : Jvm.Cond → Bool
  | .code _ _ _ _ => true
  | _ => false
theorem all_split {L : List Jvm.Cond} {P : Jvm.Cond → Bool} (h1 : L.all (fun c => isCode c || P c) = true) (h2 : ∀ c ∈ L.filter isCode, P c = true) : L.all P = true := by
  refine List.all_eq_true.mpr fun c hc => ?_
  have h := List.all_eq_true.mp h1 c hc
  rcases Bool.eq_false_or_eq_true (isCode c) with hi | hi
  · exact h2 c (List.mem_filter.mpr ⟨hc, hi⟩)
  · simpa [hi] using h
set_option maxRecDepth 65536 in
theorem w_c0 : (Jvm.Cond.code x code maxLocals ret).before args0 about1 = true := code_word (m := ⟨1, 1⟩) (meth := k1m1) (c := k1c1) (by decide +kernel) rfl rfl rfl (by decide +kernel)
set_option maxRecDepth 65536 in
theorem w_c1 : (Jvm.Cond.code ({ cls := "java/lang/String", name := "<init>", desc := "([C)V" } : Jvm.MethodName) jdk_42_method_3_code (2 : Nat) (Option.none : Option Jvm.ClassFile.FieldType)).before args0 about1 = true := code_word (m := ⟨7, 1⟩) (meth := k7m1) (c := k7c1) (by decide +kernel) rfl rfl rfl (by decide +kernel)
set_option maxRecDepth 65536 in
theorem w_c2 : (Jvm.Cond.code ({ cls := "java/lang/String", name := "<init>", desc := "([CIILjava/lang/Void;)V" } : Jvm.MethodName) jdk_42_method_149_code (6 : Nat) (Option.none : Option Jvm.ClassFile.FieldType)).before args0 about1 = true := code_word (m := ⟨7, 6⟩) (meth := k7m6) (c := k7c6) (by decide +kernel) rfl rfl rfl (by decide +kernel)
set_option maxRecDepth 65536 in
theorem w_c3 : (Jvm.Cond.code ({ cls := "java/lang/Object", name := "<init>", desc := "()V" } : Jvm.MethodName) object_method_1_code (1 : Nat) (Option.none : Option Jvm.ClassFile.FieldType)).before args0 about1 = true := code_word (m := ⟨0, 0⟩) (meth := k0m0) (c := k0c0) (by decide +kernel) rfl rfl rfl (by decide +kernel)
set_option maxRecDepth 65536 in
theorem w_c4 : (Jvm.Cond.code ({ cls := "java/lang/StringUTF16", name := "compress", desc := "([CII)[B" } : Jvm.MethodName) jdk_52_method_16_code (6 : Nat) (Option.some (Jvm.ClassFile.FieldType.array Jvm.ClassFile.FieldType.byte))).before args0 about1 = true := code_word (m := ⟨8, 2⟩) (meth := k8m2) (c := k8c2) (by decide +kernel) rfl rfl rfl (by decide +kernel)
set_option maxRecDepth 65536 in
theorem w_c5 : (Jvm.Cond.code ({ cls := "java/lang/StringUTF16", name := "compress", desc := "([CI[BII)I" } : Jvm.MethodName) jdk_52_method_21_code (7 : Nat) (Option.some Jvm.ClassFile.FieldType.int)).before args0 about1 = true := code_word (m := ⟨8, 3⟩) (meth := k8m3) (c := k8c3) (by decide +kernel) rfl rfl rfl (by decide +kernel)
set_option maxRecDepth 65536 in
theorem w_c6 : (Jvm.Cond.code ({ cls := "java/lang/StringUTF16", name := "coderFromArrayLen", desc := "([BI)B" } : Jvm.MethodName) jdk_52_method_15_code (2 : Nat) (Option.some Jvm.ClassFile.FieldType.byte)).before args0 about1 = true := code_word (m := ⟨8, 1⟩) (meth := k8m1) (c := k8c1) (by decide +kernel) rfl rfl rfl (by decide +kernel)
set_option maxRecDepth 65536 in
theorem w_c7 : (Jvm.Cond.code ({ cls := "com/example/meander/meander/cluster/WorkerAddress", name := "<init>", desc := "(Ljava/lang/String;I)V" } : Jvm.MethodName) prog_5_method_1_code (3 : Nat) (Option.none : Option Jvm.ClassFile.FieldType)).before args0 about1 = true := code_word (m := ⟨10, 0⟩) (meth := k10m0) (c := k10c0) (by decide +kernel) rfl rfl rfl (by decide +kernel)
set_option maxRecDepth 65536 in
theorem w_c8 : (Jvm.Cond.code ({ cls := "java/lang/Record", name := "<init>", desc := "()V" } : Jvm.MethodName) jdk_30_method_1_code (1 : Nat) (Option.none : Option Jvm.ClassFile.FieldType)).before args0 about1 = true := code_word (m := ⟨9, 0⟩) (meth := k9m0) (c := k9c0) (by decide +kernel) rfl rfl rfl (by decide +kernel)
set_option maxRecDepth 65536 in
theorem w_c9 : (Jvm.Cond.code ({ cls := "com/example/meander/meander/cluster/WorkerAddress", name := "toString", desc := "()Ljava/lang/String;" } : Jvm.MethodName) prog_5_method_3_code (1 : Nat) (Option.some (Jvm.ClassFile.FieldType.object "java/lang/String"))).before args0 about1 = true := code_word (m := ⟨10, 1⟩) (meth := k10m1) (c := k10c1) (by decide +kernel) rfl rfl rfl (by decide +kernel)
set_option maxRecDepth 65536 in
theorem w_c10 : (Jvm.Cond.code ({ cls := "java/lang/StringBuilder", name := "<init>", desc := "()V" } : Jvm.MethodName) jdk_67_method_1_code (1 : Nat) (Option.none : Option Jvm.ClassFile.FieldType)).before args0 about1 = true := code_word (m := ⟨13, 0⟩) (meth := k13m0) (c := k13c0) (by decide +kernel) rfl rfl rfl (by decide +kernel)
set_option maxRecDepth 65536 in
theorem w_c11 : (Jvm.Cond.code ({ cls := "java/lang/AbstractStringBuilder", name := "<init>", desc := "(I)V" } : Jvm.MethodName) jdk_68_method_2_code (2 : Nat) (Option.none : Option Jvm.ClassFile.FieldType)).before args0 about1 = true := code_word (m := ⟨12, 1⟩) (meth := k12m1) (c := k12c1) (by decide +kernel) rfl rfl rfl (by decide +kernel)
set_option maxRecDepth 65536 in
theorem w_c12 : (Jvm.Cond.code ({ cls := "java/lang/StringBuilder", name := "append", desc := "(Ljava/lang/String;)Ljava/lang/StringBuilder;" } : Jvm.MethodName) jdk_67_method_7_code (2 : Nat) (Option.some (Jvm.ClassFile.FieldType.object "java/lang/StringBuilder"))).before args0 about1 = true := code_word (m := ⟨13, 1⟩) (meth := k13m1) (c := k13c1) (by decide +kernel) rfl rfl rfl (by decide +kernel)
set_option maxRecDepth 65536 in
theorem w_c13 : (Jvm.Cond.code ({ cls := "java/lang/AbstractStringBuilder", name := "append", desc := "(Ljava/lang/String;)Ljava/lang/AbstractStringBuilder;" } : Jvm.MethodName) jdk_68_method_22_code (3 : Nat) (Option.some (Jvm.ClassFile.FieldType.object "java/lang/AbstractStringBuilder"))).before args0 about1 = true := code_word (m := ⟨12, 4⟩) (meth := k12m4) (c := k12c4) (by decide +kernel) rfl rfl rfl (by decide +kernel)
set_option maxRecDepth 65536 in
theorem w_c14 : (Jvm.Cond.code ({ cls := "java/lang/String", name := "length", desc := "()I" } : Jvm.MethodName) jdk_42_method_54_code (1 : Nat) (Option.some Jvm.ClassFile.FieldType.int)).before args0 about1 = true := code_word (m := ⟨7, 3⟩) (meth := k7m3) (c := k7c3) (by decide +kernel) rfl rfl rfl (by decide +kernel)
set_option maxRecDepth 65536 in
theorem w_c15 : (Jvm.Cond.code ({ cls := "java/lang/String", name := "coder", desc := "()B" } : Jvm.MethodName) jdk_42_method_152_code (1 : Nat) (Option.some Jvm.ClassFile.FieldType.byte)).before args0 about1 = true := code_word (m := ⟨7, 8⟩) (meth := k7m8) (c := k7c8) (by decide +kernel) rfl rfl rfl (by decide +kernel)
set_option maxRecDepth 65536 in
theorem w_c16 : (Jvm.Cond.code ({ cls := "java/lang/AbstractStringBuilder", name := "ensureCapacityInternal", desc := "(I)V" } : Jvm.MethodName) jdk_68_method_9_code (3 : Nat) (Option.none : Option Jvm.ClassFile.FieldType)).before args0 about1 = true := code_word (m := ⟨12, 3⟩) (meth := k12m3) (c := k12c3) (by decide +kernel) rfl rfl rfl (by decide +kernel)
set_option maxRecDepth 65536 in
theorem w_c17 : (Jvm.Cond.code ({ cls := "java/lang/AbstractStringBuilder", name := "putStringAt", desc := "(ILjava/lang/String;)V" } : Jvm.MethodName) jdk_68_method_73_code (3 : Nat) (Option.none : Option Jvm.ClassFile.FieldType)).before args0 about1 = true := code_word (m := ⟨12, 9⟩) (meth := k12m9) (c := k12c9) (by decide +kernel) rfl rfl rfl (by decide +kernel)
set_option maxRecDepth 65536 in
theorem w_c18 : (Jvm.Cond.code ({ cls := "java/lang/AbstractStringBuilder", name := "inflateIfNeededFor", desc := "(Ljava/lang/String;)V" } : Jvm.MethodName) jdk_68_method_71_code (2 : Nat) (Option.none : Option Jvm.ClassFile.FieldType)).before args0 about1 = true := code_word (m := ⟨12, 8⟩) (meth := k12m8) (c := k12c8) (by decide +kernel) rfl rfl rfl (by decide +kernel)
set_option maxRecDepth 65536 in
theorem w_c19 : (Jvm.Cond.code ({ cls := "java/lang/String", name := "getBytes", desc := "([BIB)V" } : Jvm.MethodName) jdk_42_method_147_code (4 : Nat) (Option.none : Option Jvm.ClassFile.FieldType)).before args0 about1 = true := code_word (m := ⟨7, 5⟩) (meth := k7m5) (c := k7c5) (by decide +kernel) rfl rfl rfl (by decide +kernel)
set_option maxRecDepth 65536 in
theorem w_c20 : (Jvm.Cond.code ({ cls := "java/lang/StringBuilder", name := "append", desc := "(I)Ljava/lang/StringBuilder;" } : Jvm.MethodName) jdk_67_method_15_code (2 : Nat) (Option.some (Jvm.ClassFile.FieldType.object "java/lang/StringBuilder"))).before args0 about1 = true := code_word (m := ⟨13, 2⟩) (meth := k13m2) (c := k13c2) (by decide +kernel) rfl rfl rfl (by decide +kernel)
set_option maxRecDepth 65536 in
theorem w_c21 : (Jvm.Cond.code ({ cls := "java/lang/AbstractStringBuilder", name := "append", desc := "(I)Ljava/lang/AbstractStringBuilder;" } : Jvm.MethodName) jdk_68_method_32_code (4 : Nat) (Option.some (Jvm.ClassFile.FieldType.object "java/lang/AbstractStringBuilder"))).before args0 about1 = true := code_word (m := ⟨12, 5⟩) (meth := k12m5) (c := k12c5) (by decide +kernel) rfl rfl rfl (by decide +kernel)
set_option maxRecDepth 65536 in
theorem w_c22 : (Jvm.Cond.code ({ cls := "java/lang/Integer", name := "stringSize", desc := "(I)I" } : Jvm.MethodName) jdk_33_method_13_code (4 : Nat) (Option.some Jvm.ClassFile.FieldType.int)).before args0 about1 = true := code_word (m := ⟨16, 1⟩) (meth := k16m1) (c := k16c1) (by decide +kernel) rfl rfl rfl (by decide +kernel)
set_option maxRecDepth 65536 in
theorem w_c23 : (Jvm.Cond.code ({ cls := "java/lang/AbstractStringBuilder", name := "isLatin1", desc := "()Z" } : Jvm.MethodName) jdk_68_method_68_code (1 : Nat) (Option.some Jvm.ClassFile.FieldType.boolean)).before args0 about1 = true := code_word (m := ⟨12, 7⟩) (meth := k12m7) (c := k12c7) (by decide +kernel) rfl rfl rfl (by decide +kernel)
set_option maxRecDepth 65536 in
theorem w_c24 : (Jvm.Cond.code ({ cls := "java/lang/Integer", name := "getChars", desc := "(II[B)I" } : Jvm.MethodName) jdk_33_method_12_code (7 : Nat) (Option.some Jvm.ClassFile.FieldType.int)).before args0 about1 = true := code_word (m := ⟨16, 0⟩) (meth := k16m0) (c := k16c0) (by decide +kernel) rfl rfl rfl (by decide +kernel)
set_option maxRecDepth 65536 in
theorem w_c25 : (Jvm.Cond.code ({ cls := "java/lang/StringBuilder", name := "toString", desc := "()Ljava/lang/String;" } : Jvm.MethodName) jdk_67_method_42_code (1 : Nat) (Option.some (Jvm.ClassFile.FieldType.object "java/lang/String"))).before args0 about1 = true := code_word (m := ⟨13, 3⟩) (meth := k13m3) (c := k13c3) (by decide +kernel) rfl rfl rfl (by decide +kernel)
set_option maxRecDepth 65536 in
theorem w_c26 : (Jvm.Cond.code ({ cls := "java/lang/String", name := "<init>", desc := "(Ljava/lang/StringBuilder;)V" } : Jvm.MethodName) jdk_42_method_53_code (2 : Nat) (Option.none : Option Jvm.ClassFile.FieldType)).before args0 about1 = true := code_word (m := ⟨7, 2⟩) (meth := k7m2) (c := k7c2) (by decide +kernel) rfl rfl rfl (by decide +kernel)
set_option maxRecDepth 65536 in
theorem w_c27 : (Jvm.Cond.code ({ cls := "java/lang/String", name := "<init>", desc := "(Ljava/lang/AbstractStringBuilder;Ljava/lang/Void;)V" } : Jvm.MethodName) jdk_42_method_150_code (5 : Nat) (Option.none : Option Jvm.ClassFile.FieldType)).before args0 about1 = true := code_word (m := ⟨7, 7⟩) (meth := k7m7) (c := k7c7) (by decide +kernel) rfl rfl rfl (by decide +kernel)
set_option maxRecDepth 65536 in
theorem w_c28 : (Jvm.Cond.code ({ cls := "java/lang/AbstractStringBuilder", name := "getValue", desc := "()[B" } : Jvm.MethodName) jdk_68_method_64_code (1 : Nat) (Option.some (Jvm.ClassFile.FieldType.array Jvm.ClassFile.FieldType.byte))).before args0 about1 = true := code_word (m := ⟨12, 6⟩) (meth := k12m6) (c := k12c6) (by decide +kernel) rfl rfl rfl (by decide +kernel)
set_option maxRecDepth 65536 in
theorem w_c29 : (Jvm.Cond.code ({ cls := "java/lang/StringBuilder", name := "length", desc := "()I" } : Jvm.MethodName) jdk_67_method_93_code (1 : Nat) (Option.some Jvm.ClassFile.FieldType.int)).before args0 about1 = true := code_word (m := ⟨13, 4⟩) (meth := k13m4) (c := k13c4) (by decide +kernel) rfl rfl rfl (by decide +kernel)
set_option maxRecDepth 65536 in
theorem w_c30 : (Jvm.Cond.code ({ cls := "java/lang/AbstractStringBuilder", name := "length", desc := "()I" } : Jvm.MethodName) jdk_68_method_6_code (1 : Nat) (Option.some Jvm.ClassFile.FieldType.int)).before args0 about1 = true := code_word (m := ⟨12, 2⟩) (meth := k12m2) (c := k12c2) (by decide +kernel) rfl rfl rfl (by decide +kernel)
set_option maxRecDepth 65536 in
theorem w_c31 : (Jvm.Cond.code ({ cls := "java/util/Arrays", name := "copyOfRange", desc := "([BII)[B" } : Jvm.MethodName) jdk_65_method_132_code (3 : Nat) (Option.some (Jvm.ClassFile.FieldType.array Jvm.ClassFile.FieldType.byte))).before args0 about1 = true := code_word (m := ⟨17, 2⟩) (meth := k17m2) (c := k17c2) (by decide +kernel) rfl rfl rfl (by decide +kernel)
set_option maxRecDepth 65536 in
theorem w_c32 : (Jvm.Cond.code ({ cls := "java/util/Arrays", name := "copyOfRangeByte", desc := "([BII)[B" } : Jvm.MethodName) jdk_65_method_133_code (5 : Nat) (Option.some (Jvm.ClassFile.FieldType.array Jvm.ClassFile.FieldType.byte))).before args0 about1 = true := code_word (m := ⟨17, 3⟩) (meth := k17m3) (c := k17c3) (by decide +kernel) rfl rfl rfl (by decide +kernel)
set_option maxRecDepth 65536 in
theorem w_c33 : (Jvm.Cond.code ({ cls := "java/util/Arrays", name := "checkLength", desc := "(II)V" } : Jvm.MethodName) jdk_65_method_131_code (2 : Nat) (Option.none : Option Jvm.ClassFile.FieldType)).before args0 about1 = true := code_word (m := ⟨17, 1⟩) (meth := k17m1) (c := k17c1) (by decide +kernel) rfl rfl rfl (by decide +kernel)
set_option maxRecDepth 65536 in
theorem w_c34 : (Jvm.Cond.code ({ cls := "java/lang/Math", name := "min", desc := "(II)I" } : Jvm.MethodName) jdk_29_method_69_code (2 : Nat) (Option.some Jvm.ClassFile.FieldType.int)).before args0 about1 = true := code_word (m := ⟨18, 1⟩) (meth := k18m1) (c := k18c1) (by decide +kernel) rfl rfl rfl (by decide +kernel)
set_option maxRecDepth 65536 in
theorem w_c35 : (Jvm.Cond.code ({ cls := "com/example/meander/meander/cluster/WorkerAddressToStringPinLaw", name := "at", desc := "(Ljava/lang/String;I[CIIII)Z" } : Jvm.MethodName) method_4_code (9 : Nat) (Option.some Jvm.ClassFile.FieldType.boolean)).before args0 about1 = true := code_word (m := ⟨1, 3⟩) (meth := k1m3) (c := k1c3) (by decide +kernel) rfl rfl rfl (by decide +kernel)
set_option maxRecDepth 65536 in
theorem w_c36 : (Jvm.Cond.code ({ cls := "java/lang/String", name := "charAt", desc := "(I)C" } : Jvm.MethodName) jdk_42_method_56_code (2 : Nat) (Option.some Jvm.ClassFile.FieldType.char)).before args0 about1 = true := code_word (m := ⟨7, 4⟩) (meth := k7m4) (c := k7c4) (by decide +kernel) rfl rfl rfl (by decide +kernel)
set_option maxRecDepth 65536 in
theorem w_c37 : (Jvm.Cond.code ({ cls := "java/lang/String", name := "isLatin1", desc := "()Z" } : Jvm.MethodName) jdk_42_method_154_code (1 : Nat) (Option.some Jvm.ClassFile.FieldType.boolean)).before args0 about1 = true := code_word (m := ⟨7, 9⟩) (meth := k7m9) (c := k7c9) (by decide +kernel) rfl rfl rfl (by decide +kernel)
set_option maxRecDepth 65536 in
theorem w_c38 : (Jvm.Cond.code ({ cls := "java/lang/StringLatin1", name := "charAt", desc := "([BI)C" } : Jvm.MethodName) jdk_43_method_2_code (2 : Nat) (Option.some Jvm.ClassFile.FieldType.char)).before args0 about1 = true := code_word (m := ⟨19, 1⟩) (meth := k19m1) (c := k19c1) (by decide +kernel) rfl rfl rfl (by decide +kernel)
set_option maxRecDepth 65536 in
theorem w_c39 : (Jvm.Cond.code ({ cls := "java/lang/String", name := "checkIndex", desc := "(II)V" } : Jvm.MethodName) jdk_42_method_155_code (2 : Nat) (Option.none : Option Jvm.ClassFile.FieldType)).before args0 about1 = true := code_word (m := ⟨7, 10⟩) (meth := k7m10) (c := k7c10) (by decide +kernel) rfl rfl rfl (by decide +kernel)
set_option maxRecDepth 65536 in
theorem w_c40 : (Jvm.Cond.code ({ cls := "jdk/internal/util/Preconditions", name := "checkIndex", desc := "(IILjava/util/function/BiFunction;)I" } : Jvm.MethodName) jdk_41_method_11_code (3 : Nat) (Option.some Jvm.ClassFile.FieldType.int)).before args0 about1 = true := code_word (m := ⟨20, 1⟩) (meth := k20m1) (c := k20c1) (by decide +kernel) rfl rfl rfl (by decide +kernel)
set_option maxRecDepth 65536 in
theorem w_c41 : (Jvm.Cond.code ({ cls := "com/example/meander/meander/cluster/WorkerAddressToStringPinLaw", name := "pow10", desc := "(I)I" } : Jvm.MethodName) method_3_code (1 : Nat) (Option.some Jvm.ClassFile.FieldType.int)).before args0 about1 = true := code_word (m := ⟨1, 2⟩) (meth := k1m2) (c := k1c2) (by decide +kernel) rfl rfl rfl (by decide +kernel)
def codes1 : List Jvm.Cond := [Jvm.Cond.code x code maxLocals ret, Jvm.Cond.code ({ cls := "java/lang/String", name := "<init>", desc := "([C)V" } : Jvm.MethodName) jdk_42_method_3_code (2 : Nat) (Option.none : Option Jvm.ClassFile.FieldType), Jvm.Cond.code ({ cls := "java/lang/String", name := "<init>", desc := "([CIILjava/lang/Void;)V" } : Jvm.MethodName) jdk_42_method_149_code (6 : Nat) (Option.none : Option Jvm.ClassFile.FieldType), Jvm.Cond.code ({ cls := "java/lang/Object", name := "<init>", desc := "()V" } : Jvm.MethodName) object_method_1_code (1 : Nat) (Option.none : Option Jvm.ClassFile.FieldType), Jvm.Cond.code ({ cls := "java/lang/StringUTF16", name := "compress", desc := "([CII)[B" } : Jvm.MethodName) jdk_52_method_16_code (6 : Nat) (Option.some (Jvm.ClassFile.FieldType.array Jvm.ClassFile.FieldType.byte)), Jvm.Cond.code ({ cls := "java/lang/StringUTF16", name := "compress", desc := "([CI[BII)I" } : Jvm.MethodName) jdk_52_method_21_code (7 : Nat) (Option.some Jvm.ClassFile.FieldType.int), Jvm.Cond.code ({ cls := "java/lang/StringUTF16", name := "coderFromArrayLen", desc := "([BI)B" } : Jvm.MethodName) jdk_52_method_15_code (2 : Nat) (Option.some Jvm.ClassFile.FieldType.byte), Jvm.Cond.code ({ cls := "com/example/meander/meander/cluster/WorkerAddress", name := "<init>", desc := "(Ljava/lang/String;I)V" } : Jvm.MethodName) prog_5_method_1_code (3 : Nat) (Option.none : Option Jvm.ClassFile.FieldType), Jvm.Cond.code ({ cls := "java/lang/Record", name := "<init>", desc := "()V" } : Jvm.MethodName) jdk_30_method_1_code (1 : Nat) (Option.none : Option Jvm.ClassFile.FieldType), Jvm.Cond.code ({ cls := "com/example/meander/meander/cluster/WorkerAddress", name := "toString", desc := "()Ljava/lang/String;" } : Jvm.MethodName) prog_5_method_3_code (1 : Nat) (Option.some (Jvm.ClassFile.FieldType.object "java/lang/String")), Jvm.Cond.code ({ cls := "java/lang/StringBuilder", name := "<init>", desc := "()V" } : Jvm.MethodName) jdk_67_method_1_code (1 : Nat) (Option.none : Option Jvm.ClassFile.FieldType), Jvm.Cond.code ({ cls := "java/lang/AbstractStringBuilder", name := "<init>", desc := "(I)V" } : Jvm.MethodName) jdk_68_method_2_code (2 : Nat) (Option.none : Option Jvm.ClassFile.FieldType), Jvm.Cond.code ({ cls := "java/lang/StringBuilder", name := "append", desc := "(Ljava/lang/String;)Ljava/lang/StringBuilder;" } : Jvm.MethodName) jdk_67_method_7_code (2 : Nat) (Option.some (Jvm.ClassFile.FieldType.object "java/lang/StringBuilder")), Jvm.Cond.code ({ cls := "java/lang/AbstractStringBuilder", name := "append", desc := "(Ljava/lang/String;)Ljava/lang/AbstractStringBuilder;" } : Jvm.MethodName) jdk_68_method_22_code (3 : Nat) (Option.some (Jvm.ClassFile.FieldType.object "java/lang/AbstractStringBuilder")), Jvm.Cond.code ({ cls := "java/lang/String", name := "length", desc := "()I" } : Jvm.MethodName) jdk_42_method_54_code (1 : Nat) (Option.some Jvm.ClassFile.FieldType.int), Jvm.Cond.code ({ cls := "java/lang/String", name := "coder", desc := "()B" } : Jvm.MethodName) jdk_42_method_152_code (1 : Nat) (Option.some Jvm.ClassFile.FieldType.byte), Jvm.Cond.code ({ cls := "java/lang/AbstractStringBuilder", name := "ensureCapacityInternal", desc := "(I)V" } : Jvm.MethodName) jdk_68_method_9_code (3 : Nat) (Option.none : Option Jvm.ClassFile.FieldType), Jvm.Cond.code ({ cls := "java/lang/AbstractStringBuilder", name := "putStringAt", desc := "(ILjava/lang/String;)V" } : Jvm.MethodName) jdk_68_method_73_code (3 : Nat) (Option.none : Option Jvm.ClassFile.FieldType), Jvm.Cond.code ({ cls := "java/lang/AbstractStringBuilder", name := "inflateIfNeededFor", desc := "(Ljava/lang/String;)V" } : Jvm.MethodName) jdk_68_method_71_code (2 : Nat) (Option.none : Option Jvm.ClassFile.FieldType), Jvm.Cond.code ({ cls := "java/lang/String", name := "getBytes", desc := "([BIB)V" } : Jvm.MethodName) jdk_42_method_147_code (4 : Nat) (Option.none : Option Jvm.ClassFile.FieldType), Jvm.Cond.code ({ cls := "java/lang/StringBuilder", name := "append", desc := "(I)Ljava/lang/StringBuilder;" } : Jvm.MethodName) jdk_67_method_15_code (2 : Nat) (Option.some (Jvm.ClassFile.FieldType.object "java/lang/StringBuilder")), Jvm.Cond.code ({ cls := "java/lang/AbstractStringBuilder", name := "append", desc := "(I)Ljava/lang/AbstractStringBuilder;" } : Jvm.MethodName) jdk_68_method_32_code (4 : Nat) (Option.some (Jvm.ClassFile.FieldType.object "java/lang/AbstractStringBuilder")), Jvm.Cond.code ({ cls := "java/lang/Integer", name := "stringSize", desc := "(I)I" } : Jvm.MethodName) jdk_33_method_13_code (4 : Nat) (Option.some Jvm.ClassFile.FieldType.int), Jvm.Cond.code ({ cls := "java/lang/AbstractStringBuilder", name := "isLatin1", desc := "()Z" } : Jvm.MethodName) jdk_68_method_68_code (1 : Nat) (Option.some Jvm.ClassFile.FieldType.boolean), Jvm.Cond.code ({ cls := "java/lang/Integer", name := "getChars", desc := "(II[B)I" } : Jvm.MethodName) jdk_33_method_12_code (7 : Nat) (Option.some Jvm.ClassFile.FieldType.int), Jvm.Cond.code ({ cls := "java/lang/StringBuilder", name := "toString", desc := "()Ljava/lang/String;" } : Jvm.MethodName) jdk_67_method_42_code (1 : Nat) (Option.some (Jvm.ClassFile.FieldType.object "java/lang/String")), Jvm.Cond.code ({ cls := "java/lang/String", name := "<init>", desc := "(Ljava/lang/StringBuilder;)V" } : Jvm.MethodName) jdk_42_method_53_code (2 : Nat) (Option.none : Option Jvm.ClassFile.FieldType), Jvm.Cond.code ({ cls := "java/lang/String", name := "<init>", desc := "(Ljava/lang/AbstractStringBuilder;Ljava/lang/Void;)V" } : Jvm.MethodName) jdk_42_method_150_code (5 : Nat) (Option.none : Option Jvm.ClassFile.FieldType), Jvm.Cond.code ({ cls := "java/lang/AbstractStringBuilder", name := "getValue", desc := "()[B" } : Jvm.MethodName) jdk_68_method_64_code (1 : Nat) (Option.some (Jvm.ClassFile.FieldType.array Jvm.ClassFile.FieldType.byte)), Jvm.Cond.code ({ cls := "java/lang/StringBuilder", name := "length", desc := "()I" } : Jvm.MethodName) jdk_67_method_93_code (1 : Nat) (Option.some Jvm.ClassFile.FieldType.int), Jvm.Cond.code ({ cls := "java/lang/AbstractStringBuilder", name := "length", desc := "()I" } : Jvm.MethodName) jdk_68_method_6_code (1 : Nat) (Option.some Jvm.ClassFile.FieldType.int), Jvm.Cond.code ({ cls := "java/util/Arrays", name := "copyOfRange", desc := "([BII)[B" } : Jvm.MethodName) jdk_65_method_132_code (3 : Nat) (Option.some (Jvm.ClassFile.FieldType.array Jvm.ClassFile.FieldType.byte)), Jvm.Cond.code ({ cls := "java/util/Arrays", name := "copyOfRangeByte", desc := "([BII)[B" } : Jvm.MethodName) jdk_65_method_133_code (5 : Nat) (Option.some (Jvm.ClassFile.FieldType.array Jvm.ClassFile.FieldType.byte)), Jvm.Cond.code ({ cls := "java/util/Arrays", name := "checkLength", desc := "(II)V" } : Jvm.MethodName) jdk_65_method_131_code (2 : Nat) (Option.none : Option Jvm.ClassFile.FieldType), Jvm.Cond.code ({ cls := "java/lang/Math", name := "min", desc := "(II)I" } : Jvm.MethodName) jdk_29_method_69_code (2 : Nat) (Option.some Jvm.ClassFile.FieldType.int), Jvm.Cond.code ({ cls := "com/example/meander/meander/cluster/WorkerAddressToStringPinLaw", name := "at", desc := "(Ljava/lang/String;I[CIIII)Z" } : Jvm.MethodName) method_4_code (9 : Nat) (Option.some Jvm.ClassFile.FieldType.boolean), Jvm.Cond.code ({ cls := "java/lang/String", name := "charAt", desc := "(I)C" } : Jvm.MethodName) jdk_42_method_56_code (2 : Nat) (Option.some Jvm.ClassFile.FieldType.char), Jvm.Cond.code ({ cls := "java/lang/String", name := "isLatin1", desc := "()Z" } : Jvm.MethodName) jdk_42_method_154_code (1 : Nat) (Option.some Jvm.ClassFile.FieldType.boolean), Jvm.Cond.code ({ cls := "java/lang/StringLatin1", name := "charAt", desc := "([BI)C" } : Jvm.MethodName) jdk_43_method_2_code (2 : Nat) (Option.some Jvm.ClassFile.FieldType.char), Jvm.Cond.code ({ cls := "java/lang/String", name := "checkIndex", desc := "(II)V" } : Jvm.MethodName) jdk_42_method_155_code (2 : Nat) (Option.none : Option Jvm.ClassFile.FieldType), Jvm.Cond.code ({ cls := "jdk/internal/util/Preconditions", name := "checkIndex", desc := "(IILjava/util/function/BiFunction;)I" } : Jvm.MethodName) jdk_41_method_11_code (3 : Nat) (Option.some Jvm.ClassFile.FieldType.int), Jvm.Cond.code ({ cls := "com/example/meander/meander/cluster/WorkerAddressToStringPinLaw", name := "pow10", desc := "(I)I" } : Jvm.MethodName) method_3_code (1 : Nat) (Option.some Jvm.ClassFile.FieldType.int)]
set_option maxRecDepth 65536 in
theorem codes_eq : words1.filter isCode = codes1 := rfl
theorem w_codes : ∀ c ∈ words1.filter isCode, c.before args0 about1 = true := by
  rw [codes_eq]
  intro c hc
  simp only [codes1, List.mem_cons, List.not_mem_nil, or_false] at hc
  rcases hc with rfl | rfl | rfl | rfl | rfl | rfl | rfl | rfl | rfl | rfl | rfl | rfl | rfl | rfl | rfl | rfl | rfl | rfl | rfl | rfl | rfl | rfl | rfl | rfl | rfl | rfl | rfl | rfl | rfl | rfl | rfl | rfl | rfl | rfl | rfl | rfl | rfl | rfl | rfl | rfl | rfl | rfl
  · exact w_c0
  · exact w_c1
  · exact w_c2
  · exact w_c3
  · exact w_c4
  · exact w_c5
  · exact w_c6
  · exact w_c7
  · exact w_c8
  · exact w_c9
  · exact w_c10
  · exact w_c11
  · exact w_c12
  · exact w_c13
  · exact w_c14
  · exact w_c15
  · exact w_c16
  · exact w_c17
  · exact w_c18
  · exact w_c19
  · exact w_c20
  · exact w_c21
  · exact w_c22
  · exact w_c23
  · exact w_c24
  · exact w_c25
  · exact w_c26
  · exact w_c27
  · exact w_c28
  · exact w_c29
  · exact w_c30
  · exact w_c31
  · exact w_c32
  · exact w_c33
  · exact w_c34
  · exact w_c35
  · exact w_c36
  · exact w_c37
  · exact w_c38
  · exact w_c39
  · exact w_c40
  · exact w_c41
set_option maxRecDepth 65536 in
theorem w_t1 : (words1.take 24).all (fun c => isCode c || c.before args0 about1) = true := by decide +kernel
set_option maxRecDepth 65536 in
theorem w_t2 : ((words1.drop 24).take 24).all (fun c => isCode c || c.before args0 about1) = true := by decide +kernel
set_option maxRecDepth 65536 in
theorem w_t3 : (((words1.drop 24).drop 24).take 24).all (fun c => isCode c || c.before args0 about1) = true := by decide +kernel
set_option maxRecDepth 65536 in
theorem w_t4 : ((((words1.drop 24).drop 24).drop 24).take 24).all (fun c => isCode c || c.before args0 about1) = true := by decide +kernel
set_option maxRecDepth 65536 in
theorem w_t5 : (((((words1.drop 24).drop 24).drop 24).drop 24).take 24).all (fun c => isCode c || c.before args0 about1) = true := by decide +kernel
set_option maxRecDepth 65536 in
theorem w_t6 : ((((((words1.drop 24).drop 24).drop 24).drop 24).drop 24).take 24).all (fun c => isCode c || c.before args0 about1) = true := by decide +kernel
set_option maxRecDepth 65536 in
theorem w_t7 : (((((((words1.drop 24).drop 24).drop 24).drop 24).drop 24).drop 24).take 24).all (fun c => isCode c || c.before args0 about1) = true := by decide +kernel
set_option maxRecDepth 65536 in
theorem w_t8 : ((((((((words1.drop 24).drop 24).drop 24).drop 24).drop 24).drop 24).drop 24).take 24).all (fun c => isCode c || c.before args0 about1) = true := by decide +kernel
set_option maxRecDepth 65536 in
theorem w_t9 : (((((((((words1.drop 24).drop 24).drop 24).drop 24).drop 24).drop 24).drop 24).drop 24).take 24).all (fun c => isCode c || c.before args0 about1) = true := by decide +kernel
set_option maxRecDepth 65536 in
theorem w_t10 : (((((((((words1.drop 24).drop 24).drop 24).drop 24).drop 24).drop 24).drop 24).drop 24).drop 24).all (fun c => isCode c || c.before args0 about1) = true := by decide +kernel
theorem w_tables : (allAtoms (Jvm.Cond.code x code maxLocals ret :: tables_1)).before args0 about1 = true := by
  rw [allAtoms_all]
  show words1.all (fun c => c.before args0 about1) = true
  refine all_split ?_ w_codes
  rw [← List.take_append_drop 24 words1, List.all_append, w_t1, ← List.take_append_drop 24 (words1.drop 24), List.all_append, w_t2, ← List.take_append_drop 24 ((words1.drop 24).drop 24), List.all_append, w_t3, ← List.take_append_drop 24 (((words1.drop 24).drop 24).drop 24), List.all_append, w_t4, ← List.take_append_drop 24 ((((words1.drop 24).drop 24).drop 24).drop 24), List.all_append, w_t5, ← List.take_append_drop 24 (((((words1.drop 24).drop 24).drop 24).drop 24).drop 24), List.all_append, w_t6, ← List.take_append_drop 24 ((((((words1.drop 24).drop 24).drop 24).drop 24).drop 24).drop 24), List.all_append, w_t7, ← List.take_append_drop 24 (((((((words1.drop 24).drop 24).drop 24).drop 24).drop 24).drop 24).drop 24), List.all_append, w_t8, ← List.take_append_drop 24 ((((((((words1.drop 24).drop 24).drop 24).drop 24).drop 24).drop 24).drop 24).drop 24), List.all_append, w_t9, w_t10]
  rfl
set_option maxRecDepth 65536 in
theorem w_rest : rest_1_c.before args0 about1 = true := by decide +kernel
set_option maxRecDepth 65536 in
theorem w_case : (Jvm.Cond.and given_1 narrow_1).before args0 about1 = true := by decide +kernel
set_option maxRecDepth 65536 in
theorem w_consts : constsHeld consts_1 about1 := Jvm.Lit.constsHeldB_iff.mp (by decide +kernel)
theorem w_applies : (headSpec (Jvm.Cond.code x code maxLocals ret :: tables_1) room_1).applies x e0.platform about1 = true :=
  (Spec.applies_iff w_frames).mpr ⟨w_running, w_runnable, w_alone, w_named, w_hears, w_ripe, w_room, w_tables⟩
theorem atStart : AtStart classFile x code maxLocals ret World_1 tables_1 room_1 Calls_1 rest_1 Pre_1 launch0 p0 e0 about1 theMethod args0 below0 :=
  ⟨lists_1, trivial, launch0.admits_env _ _ _, launch0.least_env, fairChoices_fair.cas, fairChoices_fair.clock, w_frames, w_args, w_heap, w_applies, ⟨w_consts, trivial⟩, w_rest, w_case⟩
end start1
theorem witness_1 : WitnessClaimed_1 := ⟨start1.p0, start1.e0, start1.about1, start1.theMethod, start1.args0, start1.below0, start1.atStart⟩
end Jvm.Pilot.@@N@@
