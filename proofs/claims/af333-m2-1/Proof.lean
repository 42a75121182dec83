import JvmDerived
import JvmDerived.Pilot.@@N@@Statement
import JvmDerived.Pilot.@@N@@Code
set_option linter.unusedVariables false
set_option linter.unusedSimpArgs false
namespace Jvm.Pilot.@@N@@
open Jvm Jvm.ClassFile Sem Op Lib Jvm.Free Jvm.Stand Jvm.LawKit Jvm.RoadKit Bundle Jvm.Pilot.@@N@@.Jvm.D
/-! ## A small program logic over 'Stand': oGo says that from here the method comes to its end and Q holds there. -/
def oDok (Z : State) (EL : List (String × Nat)) (vm : Vm) (h : Heap) (D : List Addr) : Prop := ∀ x ∈ D, Z.heap.size ≤ x ∧ x < h.size ∧ Safe Z EL vm h x
def oInv (l : Launch) (Z : State) (a0 : Array Value) (EL : List (String × Nat)) (wd : Prop) (p : Program) (e : Env) (s : State) (m : MethodId) (args : Array Value) (below : List Frame) (meth : Method) (c : Code) (R : Room) (own : String) (bytes : ByteArray) (mx : Nat) (rt : Option FieldType) (nm : String)
    (D : List Addr) (h : Heap) (k n : Nat) (T : State) (locs : List Loc) (vm0 : Vm) (k0 : Nat) : Prop :=
  (p.tables.exec = Jvm.exec ∧ c.code = bytes ∧ c.maxLocals = mx ∧ meth.sig.returnType = rt ∧ meth.locks = false ∧ meth.name = nm ∧ EW Z a0 EL) ∧
  T.heap = h ∧ Ext Z.heap h ∧ Fr Z.heap.size locs ∧ Stand p l e R (s.setVm vm0) m args below meth c T locs k n ∧ s.Since vm0 k0 ∧ k0 ≤ h.size ∧ Z.Warmed39 vm0 ∧ vm0.findClass own = some m.cls ∧ CHr Z EL s.vm s.heap vm0 h ∧ (wd ∨ s.WarmedH vm0) ∧ oDok Z EL vm0 h D
def oRes (Z : State) (EL : List (String × Nat)) (wd : Prop) (p : Program) (e : Env) (s : State) (below : List Frame) (R : Room) (Q : Option Value → Heap → Prop) (O : Option Value → Heap → Addr → Prop) (t : State) : Prop :=
  ∃ (V : State) (v : Option Value) (L : List Loc), Steps p.tables e below t V ∧ V.status = .running ∧ Ended V below (.returned v) ∧ (Q v V.heap ∧ ∀ x, O v V.heap x → Z.heap.size ≤ x ∧ x < V.heap.size ∧ Safe Z EL V.vm V.heap x) ∧ Fr Z.heap.size L ∧ Ext Z.heap V.heap ∧ CHr Z EL s.vm s.heap V.vm V.heap ∧ (wd ∨ s.WarmedH V.vm) ∧ ReturnedEndW s (.returned v) V L R.cells R.slots
def oGo (l : Launch) (Z : State) (a0 : Array Value) (EL : List (String × Nat)) (wd : Prop) (p : Program) (e : Env) (s : State) (m : MethodId) (args : Array Value) (below : List Frame) (meth : Method) (c : Code) (R : Room) (own : String) (bytes : ByteArray) (mx : Nat) (rt : Option FieldType) (nm : String)
    (Q : Option Value → Heap → Prop) (O : Option Value → Heap → Addr → Prop) (D : List Addr) (h : Heap) (k n : Nat) (pc : Nat) (Ls : Array Slot) (st : List Value) : Prop :=
  ∀ T locs vm0 k0, oInv l Z a0 EL wd p e s m args below meth c R own bytes mx rt nm D h k n T locs vm0 k0 → oRes Z EL wd p e s below R Q O (T.setTop (mkF m pc Ls st))
def oCtr (ws : List Jvm.Cond) (l : Launch) (Z : State) (a0 : Array Value) (EL : List (String × Nat)) (wd : Prop) (y : MethodName) (bytes : ByteArray) (mx : Nat) (rt : Option FieldType) (rm : Room) (as' : Array Value) (D : List Addr) (h : Heap) (Q : Option Value → Heap → Prop) (O : Option Value → Heap → Addr → Prop) : Prop :=
  MetFree l y (head1 (Cond.code y bytes mx rt :: ws) rm) (fun a U => a = as' ∧ Z.Warmed39 U.vm ∧ U.heap = h ∧ Ext Z.heap h ∧ CHv Z EL U.vm h ∧ oDok Z EL U.vm h D) (fun _ _ _ _ _ => True)
    (fun _ U o U' => ∃ v L, o = .returned v ∧ (Q v U'.heap ∧ ∀ x, O v U'.heap x → Z.heap.size ≤ x ∧ x < U'.heap.size ∧ Safe Z EL U'.vm U'.heap x) ∧ Fr Z.heap.size L ∧ Ext Z.heap U'.heap ∧ CHr Z EL U.vm U.heap U'.vm U'.heap ∧ (wd ∨ U.WarmedH U'.vm) ∧ ReturnedEndW U o U' L rm.cells rm.slots)
abbrev oRet : Option Value → Heap → Addr → Prop := fun v _ x => v = some (.ref x)
abbrev oNo : Option Value → Heap → Addr → Prop := fun _ _ _ => False
section Logic
variable {l : Launch} {Z : State} {a0 : Array Value} {EL : List (String × Nat)} {wd : Prop} {p : Program} {e : Env} {s : State} {m : MethodId} {args : Array Value} {below : List Frame} {meth : Method} {c : Code} {R : Room} {own : String} {bytes : ByteArray} {mx : Nat} {rt : Option FieldType} {nm : String}
  {Q : Option Value → Heap → Prop} {O : Option Value → Heap → Addr → Prop} {D : List Addr} {h : Heap} {k n : Nat} {pc pc' pc1 pc2 : Nat} {Ls Ls' : Array Slot} {st st' : List Value}
theorem oDok.ext {vm : Vm} {h' : Heap} (E : Ext h h') (H : CHv Z EL vm h) (q : oDok Z EL vm h D) : oDok Z EL vm h' D := fun x hx => ⟨(q x hx).1, Nat.lt_of_lt_of_le (q x hx).2.1 E.1, (q x hx).2.2.ext E H⟩
theorem oDok.wr {vm : Vm} {h' : Heap} {a : Addr} {sl : Nat} {v : Value} (W : Wr h h' a sl v) (S : Safe Z EL vm h a) (H : CHv Z EL vm h) (q : oDok Z EL vm h D) : oDok Z EL vm h' D := fun x hx => ⟨(q x hx).1, by rw [W.size]; exact (q x hx).2.1, Safe.wr W S H (q x hx).2.2⟩
theorem oDok.chr {vm vm1 : Vm} {h' : Heap} (A : CHr Z EL vm h vm1 h') (q : oDok Z EL vm h D) : oDok Z EL vm1 h' D := fun x hx => ⟨(q x hx).1, Nat.lt_of_lt_of_le (q x hx).2.1 A.2.1, A.safe (q x hx).2.1 (q x hx).2.2⟩
theorem oDok.sub {vm : Vm} {D' : List Addr} (q : oDok Z EL vm h D) (hs : ∀ x ∈ D', x ∈ D) : oDok Z EL vm h D' := fun x hx => q x (hs x hx)
theorem ext_refl (h : Heap) : Ext h h := ⟨Nat.le_refl _, fun _ _ q => q⟩
theorem ext_trans {h h' h2 : Heap} (A : Ext h h') (B : Ext h' h2) : Ext h h2 := ⟨Nat.le_trans A.1 B.1, fun a c q => B.2 a c (A.2 a c q)⟩
theorem ext_wr {h0 h h' : Heap} {a : Addr} {sl : Nat} {v : Value} (E : Ext h0 h) (W : Wr h h' a sl v) (q : h0.size ≤ a) : Ext h0 h' := by
  refine ⟨by rw [W.size]; exact E.1, fun b cb hb => ?_⟩
  obtain ⟨cb', h1, -, -, -, h5, -⟩ := wr_at W (E.2 b cb hb)
  rw [← h5 (fun e1 => by subst e1; exact absurd (Array.getElem?_eq_some_iff.mp hb).1 (Nat.not_lt.mpr q))]; exact h1
/-- entering -/
theorem oCtr.enter {ws : List Jvm.Cond} {y : MethodName} {rm : Room} {as' : Array Value} (pn : plainFor y = true) (hEW : EW Z a0 EL) (ef : ∀ m, entryFrame m as' mx = mkF m 0 Ls [])
    (g : ∀ (p : Program) (e : Env) (s : State) (m : MethodId) (below : List Frame) (meth : Method) (c : Code), oGo l Z a0 EL wd p e s m as' below meth c rm y.cls bytes mx rt y.name Q O D h 0 0 0 Ls []) : oCtr ws l Z a0 EL wd y bytes mx rt rm as' D h Q O := by
  refine MetFree.of_bodySF pn hisR ?_
  intro p e s m args below meth c s₁ Bd hml0 hP hK
  obtain ⟨rfl, hZ, hh, hE, hC, hD⟩ := hP
  have X0 : Stand p l e rm s m args below meth c s₁ [] 0 0 := Stand.of_body Bd
  have e0 : s₁.heap = h := by rw [← hh, Bd.state]; rfl
  have hown : s.vm.findClass y.cls = some m.cls := findClass_of_methodNamed Bd.named
  have hnm := (name_of_methodNamed Bd.named Bd.method).1
  obtain ⟨V, v, L, h1, h2, h3, h4, h5, h6, h7, h8, h9⟩ := g p e s m below meth c s₁ [] s.vm s.heap.size ⟨⟨Bd.exec, Bd.bytes, hml0, Bd.returns, Bd.notSynchronized, hnm, hEW⟩, e0, hE, Fr.nil _, X0, (State.WarmedH.refl s).since _, by rw [hh]; exact Nat.le_refl _, hZ, hown, by rw [hh]; exact CHr.refl hC, Or.inr (State.WarmedH.refl s), hD⟩
  exact ⟨V, .returned v, by rw [ef]; exact h1, h2, h3, v, L, rfl, h4, h5, h6, h7, h8, h9⟩
/-- steps that touch neither heap nor tables -/
theorem oGo.pure (H : ∀ T : State, At T m c below → c.code = bytes → p.tables.exec = Jvm.exec → ∀ t, Steps p.tables e below (T.setTop (mkF m pc' Ls' st')) t → Steps p.tables e below (T.setTop (mkF m pc Ls st)) t)
    (g : oGo l Z a0 EL wd p e s m args below meth c R own bytes mx rt nm Q O D h k n pc' Ls' st') : oGo l Z a0 EL wd p e s m args below meth c R own bytes mx rt nm Q O D h k n pc Ls st := by
  intro T locs vm0 k0 I
  obtain ⟨V, v, L, hs, r⟩ := g T locs vm0 k0 I
  obtain ⟨⟨hx, hb, -⟩, -, -, -, X, -⟩ := I
  exact ⟨V, v, L, H T X.here hb hx V hs, r⟩
def oSl (o : Slot) : Prop := o = .unset ∨ ∃ w : Value, o = .val w ∧ w.category = 1
theorem oGo.aload {i : Nat} {v : Value} (hd : decode bytes pc = .ok (.aload i, 2)) (hp : pc + 2 = pc') (hl : Ls[i]? = some (.val v)) (hv : v.isRef = true) (g : oGo l Z a0 EL wd p e s m args below meth c R own bytes mx rt nm Q O D h k n pc' Ls (v :: st)) : oGo l Z a0 EL wd p e s m args below meth c R own bytes mx rt nm Q O D h k n pc Ls (st) := by
  subst hp; exact oGo.pure (fun T hA hb hx t hr => XS.aload hA hx rfl (by rw [hb]; exact hd) hl hv hr) g
theorem oGo.aload_n {i : Fin 4} {v : Value} (hd : decode bytes pc = .ok (.aload_n i, 1)) (hp : pc + 1 = pc') (hl : Ls[i.val]? = some (.val v)) (hv : v.isRef = true) (g : oGo l Z a0 EL wd p e s m args below meth c R own bytes mx rt nm Q O D h k n pc' Ls (v :: st)) : oGo l Z a0 EL wd p e s m args below meth c R own bytes mx rt nm Q O D h k n pc Ls (st) := by
  subst hp; exact oGo.pure (fun T hA hb hx t hr => XS.aloadN hA hx rfl (by rw [hb]; exact hd) hl hv hr) g
theorem oGo.iload {i : Nat} {v : Int32} (hd : decode bytes pc = .ok (.iload i, 2)) (hp : pc + 2 = pc') (hl : Ls[i]? = some (.val (.int v))) (g : oGo l Z a0 EL wd p e s m args below meth c R own bytes mx rt nm Q O D h k n pc' Ls (.int v :: st)) : oGo l Z a0 EL wd p e s m args below meth c R own bytes mx rt nm Q O D h k n pc Ls (st) := by
  subst hp; exact oGo.pure (fun T hA hb hx t hr => XS.iload hA hx rfl (by rw [hb]; exact hd) hl hr) g
theorem oGo.iload_n {i : Fin 4} {v : Int32} (hd : decode bytes pc = .ok (.iload_n i, 1)) (hp : pc + 1 = pc') (hl : Ls[i.val]? = some (.val (.int v))) (g : oGo l Z a0 EL wd p e s m args below meth c R own bytes mx rt nm Q O D h k n pc' Ls (.int v :: st)) : oGo l Z a0 EL wd p e s m args below meth c R own bytes mx rt nm Q O D h k n pc Ls (st) := by
  subst hp; exact oGo.pure (fun T hA hb hx t hr => XS.iloadN hA hx rfl (by rw [hb]; exact hd) hl hr) g
theorem oGo.istore {i : Nat} {v : Int32} (hd : decode bytes pc = .ok (.istore i, 2)) (hp : pc + 2 = pc') (hl : storeLocals Ls i (.int v) = some Ls') (g : oGo l Z a0 EL wd p e s m args below meth c R own bytes mx rt nm Q O D h k n pc' Ls' (st)) : oGo l Z a0 EL wd p e s m args below meth c R own bytes mx rt nm Q O D h k n pc Ls (.int v :: st) := by
  subst hp; exact oGo.pure (fun T hA hb hx t hr => XS.istore hA hx rfl (by rw [hb]; exact hd) rfl hl hr) g
theorem oGo.istore_n {i : Fin 4} {v : Int32} (hd : decode bytes pc = .ok (.istore_n i, 1)) (hp : pc + 1 = pc') (hl : storeLocals Ls i.val (.int v) = some Ls') (g : oGo l Z a0 EL wd p e s m args below meth c R own bytes mx rt nm Q O D h k n pc' Ls' (st)) : oGo l Z a0 EL wd p e s m args below meth c R own bytes mx rt nm Q O D h k n pc Ls (.int v :: st) := by
  subst hp; exact oGo.pure (fun T hA hb hx t hr => XS.istoreN hA hx rfl (by rw [hb]; exact hd) rfl hl hr) g
theorem oGo.lload {i : Nat} {v : Int64} (hd : decode bytes pc = .ok (.lload i, 2)) (hp : pc + 2 = pc') (hl : Ls[i]? = some (.val (.long v))) (g : oGo l Z a0 EL wd p e s m args below meth c R own bytes mx rt nm Q O D h k n pc' Ls (.long v :: st)) : oGo l Z a0 EL wd p e s m args below meth c R own bytes mx rt nm Q O D h k n pc Ls (st) := by
  subst hp; exact oGo.pure (fun T hA hb hx t hr => XT.lload hA hx rfl (by rw [hb]; exact hd) hl hr) g
theorem oGo.lload_n {i : Fin 4} {v : Int64} (hd : decode bytes pc = .ok (.lload_n i, 1)) (hp : pc + 1 = pc') (hl : Ls[i.val]? = some (.val (.long v))) (g : oGo l Z a0 EL wd p e s m args below meth c R own bytes mx rt nm Q O D h k n pc' Ls (.long v :: st)) : oGo l Z a0 EL wd p e s m args below meth c R own bytes mx rt nm Q O D h k n pc Ls (st) := by
  subst hp; exact oGo.pure (fun T hA hb hx t hr => XT.lloadN hA hx rfl (by rw [hb]; exact hd) hl hr) g
theorem oGo.lstore {i : Nat} {v : Int64} (hd : decode bytes pc = .ok (.lstore i, 2)) (hp : pc + 2 = pc') (hl : storeLocals Ls i (.long v) = some Ls') (g : oGo l Z a0 EL wd p e s m args below meth c R own bytes mx rt nm Q O D h k n pc' Ls' (st)) : oGo l Z a0 EL wd p e s m args below meth c R own bytes mx rt nm Q O D h k n pc Ls (.long v :: st) := by
  subst hp; exact oGo.pure (fun T hA hb hx t hr => XT.lstore hA hx rfl (by rw [hb]; exact hd) rfl hl hr) g
theorem oGo.lstore_n {i : Fin 4} {v : Int64} (hd : decode bytes pc = .ok (.lstore_n i, 1)) (hp : pc + 1 = pc') (hl : storeLocals Ls i.val (.long v) = some Ls') (g : oGo l Z a0 EL wd p e s m args below meth c R own bytes mx rt nm Q O D h k n pc' Ls' (st)) : oGo l Z a0 EL wd p e s m args below meth c R own bytes mx rt nm Q O D h k n pc Ls (.long v :: st) := by
  subst hp; exact oGo.pure (fun T hA hb hx t hr => XT.lstoreN hA hx rfl (by rw [hb]; exact hd) rfl hl hr) g
theorem oGo.astore {i : Nat} {v : Value} (hd : decode bytes pc = .ok (.astore i, 2)) (hp : pc + 2 = pc') (hv : v.isRef = true) (hl : storeLocals Ls i v = some Ls') (g : oGo l Z a0 EL wd p e s m args below meth c R own bytes mx rt nm Q O D h k n pc' Ls' (st)) : oGo l Z a0 EL wd p e s m args below meth c R own bytes mx rt nm Q O D h k n pc Ls (v :: st) := by
  subst hp; exact oGo.pure (fun T hA hb hx t hr => XS.astore hA hx rfl (by rw [hb]; exact hd) rfl hv hl hr) g
theorem oGo.astore_n {i : Fin 4} {v : Value} (hd : decode bytes pc = .ok (.astore_n i, 1)) (hp : pc + 1 = pc') (hv : v.isRef = true) (hl : storeLocals Ls i.val v = some Ls') (g : oGo l Z a0 EL wd p e s m args below meth c R own bytes mx rt nm Q O D h k n pc' Ls' (st)) : oGo l Z a0 EL wd p e s m args below meth c R own bytes mx rt nm Q O D h k n pc Ls (v :: st) := by
  subst hp; exact oGo.pure (fun T hA hb hx t hr => XS.astoreN hA hx rfl (by rw [hb]; exact hd) rfl hv hl hr) g
theorem oGo.istoreS {i : Nat} {v : Int32} {o : Slot} (hd : decode bytes pc = .ok (.istore i, 2)) (hp : pc + 2 = pc') (ho : oSl o) (hold : Ls[i]? = some o) (hl : Ls.setIfInBounds i (.val (.int v)) = Ls') (g : oGo l Z a0 EL wd p e s m args below meth c R own bytes mx rt nm Q O D h k n pc' Ls' st) : oGo l Z a0 EL wd p e s m args below meth c R own bytes mx rt nm Q O D h k n pc Ls (.int v :: st) := by
  subst hp hl; exact oGo.pure (fun T hA hb hx t hr => XS.istore hA hx rfl (by rw [hb]; exact hd) rfl (XS.store1 hold ho rfl) hr) g
theorem oGo.istore_nS {i : Fin 4} {v : Int32} {o : Slot} (hd : decode bytes pc = .ok (.istore_n i, 1)) (hp : pc + 1 = pc') (ho : oSl o) (hold : Ls[i.val]? = some o) (hl : Ls.setIfInBounds i.val (.val (.int v)) = Ls') (g : oGo l Z a0 EL wd p e s m args below meth c R own bytes mx rt nm Q O D h k n pc' Ls' st) : oGo l Z a0 EL wd p e s m args below meth c R own bytes mx rt nm Q O D h k n pc Ls (.int v :: st) := by
  subst hp hl; exact oGo.pure (fun T hA hb hx t hr => XS.istoreN hA hx rfl (by rw [hb]; exact hd) rfl (XS.store1 hold ho rfl) hr) g
theorem oGo.astoreS {i : Nat} {v : Value} {o : Slot} (hd : decode bytes pc = .ok (.astore i, 2)) (hp : pc + 2 = pc') (hv : v.isRef = true) (hc : v.category = 1) (ho : oSl o) (hold : Ls[i]? = some o) (hl : Ls.setIfInBounds i (.val (v)) = Ls') (g : oGo l Z a0 EL wd p e s m args below meth c R own bytes mx rt nm Q O D h k n pc' Ls' st) : oGo l Z a0 EL wd p e s m args below meth c R own bytes mx rt nm Q O D h k n pc Ls (v :: st) := by
  subst hp hl; exact oGo.pure (fun T hA hb hx t hr => XS.astore hA hx rfl (by rw [hb]; exact hd) rfl hv (XS.store1 hold ho hc) hr) g
theorem oGo.astore_nS {i : Fin 4} {v : Value} {o : Slot} (hd : decode bytes pc = .ok (.astore_n i, 1)) (hp : pc + 1 = pc') (hv : v.isRef = true) (hc : v.category = 1) (ho : oSl o) (hold : Ls[i.val]? = some o) (hl : Ls.setIfInBounds i.val (.val (v)) = Ls') (g : oGo l Z a0 EL wd p e s m args below meth c R own bytes mx rt nm Q O D h k n pc' Ls' st) : oGo l Z a0 EL wd p e s m args below meth c R own bytes mx rt nm Q O D h k n pc Ls (v :: st) := by
  subst hp hl; exact oGo.pure (fun T hA hb hx t hr => XS.astoreN hA hx rfl (by rw [hb]; exact hd) rfl hv (XS.store1 hold ho hc) hr) g
theorem oGo.iconst {i : Int} {v : Int32} (hd : decode bytes pc = .ok (.iconst i, 1)) (hp : pc + 1 = pc') (hv : Int32.ofInt i = v) (g : oGo l Z a0 EL wd p e s m args below meth c R own bytes mx rt nm Q O D h k n pc' Ls (.int v :: st)) : oGo l Z a0 EL wd p e s m args below meth c R own bytes mx rt nm Q O D h k n pc Ls (st) := by
  subst hp; subst hv; exact oGo.pure (fun T hA hb hx t hr => XS.iconst hA hx rfl (by rw [hb]; exact hd)  hr) g
theorem oGo.bipush {i : Int} {v : Int32} (hd : decode bytes pc = .ok (.bipush i, 2)) (hp : pc + 2 = pc') (hv : (Int8.ofInt i).toInt32 = v) (g : oGo l Z a0 EL wd p e s m args below meth c R own bytes mx rt nm Q O D h k n pc' Ls (.int v :: st)) : oGo l Z a0 EL wd p e s m args below meth c R own bytes mx rt nm Q O D h k n pc Ls (st) := by
  subst hp; subst hv; exact oGo.pure (fun T hA hb hx t hr => XS.bipush hA hx rfl (by rw [hb]; exact hd)  hr) g
theorem oGo.sipush {i : Int} {v : Int32} (hd : decode bytes pc = .ok (.sipush i, 3)) (hp : pc + 3 = pc') (hv : (Int16.ofInt i).toInt32 = v) (g : oGo l Z a0 EL wd p e s m args below meth c R own bytes mx rt nm Q O D h k n pc' Ls (.int v :: st)) : oGo l Z a0 EL wd p e s m args below meth c R own bytes mx rt nm Q O D h k n pc Ls (st) := by
  subst hp; subst hv; exact oGo.pure (fun T hA hb hx t hr => XS.sipush hA hx rfl (by rw [hb]; exact hd)  hr) g
theorem oGo.lconst {i : Fin 2} {v : Int64} (hd : decode bytes pc = .ok (.lconst i, 1)) (hp : pc + 1 = pc') (hv : Int64.ofNat i = v) (g : oGo l Z a0 EL wd p e s m args below meth c R own bytes mx rt nm Q O D h k n pc' Ls (.long v :: st)) : oGo l Z a0 EL wd p e s m args below meth c R own bytes mx rt nm Q O D h k n pc Ls (st) := by
  subst hp; subst hv; exact oGo.pure (fun T hA hb hx t hr => XT.lconst hA hx rfl (by rw [hb]; exact hd)  hr) g
theorem oGo.aconst_null  (hd : decode bytes pc = .ok (.aconst_null, 1)) (hp : pc + 1 = pc') (g : oGo l Z a0 EL wd p e s m args below meth c R own bytes mx rt nm Q O D h k n pc' Ls (.null :: st)) : oGo l Z a0 EL wd p e s m args below meth c R own bytes mx rt nm Q O D h k n pc Ls (st) := by
  subst hp; exact oGo.pure (fun T hA hb hx t hr => XS.aconstNull hA hx rfl (by rw [hb]; exact hd)  hr) g
theorem oGo.iadd {x y : Int32} (hd : decode bytes pc = .ok (.iadd, 1)) (hp : pc + 1 = pc') (g : oGo l Z a0 EL wd p e s m args below meth c R own bytes mx rt nm Q O D h k n pc' Ls (.int (x + y) :: st)) : oGo l Z a0 EL wd p e s m args below meth c R own bytes mx rt nm Q O D h k n pc Ls (.int y :: .int x :: st) := by
  subst hp; exact oGo.pure (fun T hA hb hx t hr => XS.iadd hA hx rfl (by rw [hb]; exact hd) rfl hr) g
theorem oGo.ladd {x y : Int64} (hd : decode bytes pc = .ok (.ladd, 1)) (hp : pc + 1 = pc') (g : oGo l Z a0 EL wd p e s m args below meth c R own bytes mx rt nm Q O D h k n pc' Ls (.long (x + y) :: st)) : oGo l Z a0 EL wd p e s m args below meth c R own bytes mx rt nm Q O D h k n pc Ls (.long y :: .long x :: st) := by
  subst hp; exact oGo.pure (fun T hA hb hx t hr => XT.ladd hA hx rfl (by rw [hb]; exact hd) rfl hr) g
theorem oGo.isub {x y : Int32} (hd : decode bytes pc = .ok (.isub, 1)) (hp : pc + 1 = pc') (g : oGo l Z a0 EL wd p e s m args below meth c R own bytes mx rt nm Q O D h k n pc' Ls (.int (x - y) :: st)) : oGo l Z a0 EL wd p e s m args below meth c R own bytes mx rt nm Q O D h k n pc Ls (.int y :: .int x :: st) := by
  subst hp; exact oGo.pure (fun T hA hb hx t hr => XS.isub hA hx rfl (by rw [hb]; exact hd) rfl hr) g
theorem oGo.lsub {x y : Int64} (hd : decode bytes pc = .ok (.lsub, 1)) (hp : pc + 1 = pc') (g : oGo l Z a0 EL wd p e s m args below meth c R own bytes mx rt nm Q O D h k n pc' Ls (.long (x - y) :: st)) : oGo l Z a0 EL wd p e s m args below meth c R own bytes mx rt nm Q O D h k n pc Ls (.long y :: .long x :: st) := by
  subst hp; exact oGo.pure (fun T hA hb hx t hr => XT.lsub hA hx rfl (by rw [hb]; exact hd) rfl hr) g
theorem oGo.imul {x y : Int32} (hd : decode bytes pc = .ok (.imul, 1)) (hp : pc + 1 = pc') (g : oGo l Z a0 EL wd p e s m args below meth c R own bytes mx rt nm Q O D h k n pc' Ls (.int (x * y) :: st)) : oGo l Z a0 EL wd p e s m args below meth c R own bytes mx rt nm Q O D h k n pc Ls (.int y :: .int x :: st) := by
  subst hp; exact oGo.pure (fun T hA hb hx t hr => XS.imul hA hx rfl (by rw [hb]; exact hd) rfl hr) g
theorem oGo.lmul {x y : Int64} (hd : decode bytes pc = .ok (.lmul, 1)) (hp : pc + 1 = pc') (g : oGo l Z a0 EL wd p e s m args below meth c R own bytes mx rt nm Q O D h k n pc' Ls (.long (x * y) :: st)) : oGo l Z a0 EL wd p e s m args below meth c R own bytes mx rt nm Q O D h k n pc Ls (.long y :: .long x :: st) := by
  subst hp; exact oGo.pure (fun T hA hb hx t hr => XT.lmul hA hx rfl (by rw [hb]; exact hd) rfl hr) g
theorem oGo.iand {x y : Int32} (hd : decode bytes pc = .ok (.iand, 1)) (hp : pc + 1 = pc') (g : oGo l Z a0 EL wd p e s m args below meth c R own bytes mx rt nm Q O D h k n pc' Ls (.int (x &&& y) :: st)) : oGo l Z a0 EL wd p e s m args below meth c R own bytes mx rt nm Q O D h k n pc Ls (.int y :: .int x :: st) := by
  subst hp; exact oGo.pure (fun T hA hb hx t hr => XS.iand hA hx rfl (by rw [hb]; exact hd) rfl hr) g
theorem oGo.land {x y : Int64} (hd : decode bytes pc = .ok (.land, 1)) (hp : pc + 1 = pc') (g : oGo l Z a0 EL wd p e s m args below meth c R own bytes mx rt nm Q O D h k n pc' Ls (.long (x &&& y) :: st)) : oGo l Z a0 EL wd p e s m args below meth c R own bytes mx rt nm Q O D h k n pc Ls (.long y :: .long x :: st) := by
  subst hp; exact oGo.pure (fun T hA hb hx t hr => XT.land hA hx rfl (by rw [hb]; exact hd) rfl hr) g
theorem oGo.ior {x y : Int32} (hd : decode bytes pc = .ok (.ior, 1)) (hp : pc + 1 = pc') (g : oGo l Z a0 EL wd p e s m args below meth c R own bytes mx rt nm Q O D h k n pc' Ls (.int (x ||| y) :: st)) : oGo l Z a0 EL wd p e s m args below meth c R own bytes mx rt nm Q O D h k n pc Ls (.int y :: .int x :: st) := by
  subst hp; exact oGo.pure (fun T hA hb hx t hr => XT.ior hA hx rfl (by rw [hb]; exact hd) rfl hr) g
theorem oGo.lor {x y : Int64} (hd : decode bytes pc = .ok (.lor, 1)) (hp : pc + 1 = pc') (g : oGo l Z a0 EL wd p e s m args below meth c R own bytes mx rt nm Q O D h k n pc' Ls (.long (x ||| y) :: st)) : oGo l Z a0 EL wd p e s m args below meth c R own bytes mx rt nm Q O D h k n pc Ls (.long y :: .long x :: st) := by
  subst hp; exact oGo.pure (fun T hA hb hx t hr => XT.lor hA hx rfl (by rw [hb]; exact hd) rfl hr) g
theorem oGo.ixor {x y : Int32} (hd : decode bytes pc = .ok (.ixor, 1)) (hp : pc + 1 = pc') (g : oGo l Z a0 EL wd p e s m args below meth c R own bytes mx rt nm Q O D h k n pc' Ls (.int (x ^^^ y) :: st)) : oGo l Z a0 EL wd p e s m args below meth c R own bytes mx rt nm Q O D h k n pc Ls (.int y :: .int x :: st) := by
  subst hp; exact oGo.pure (fun T hA hb hx t hr => XT.ixor hA hx rfl (by rw [hb]; exact hd) rfl hr) g
theorem oGo.lxor {x y : Int64} (hd : decode bytes pc = .ok (.lxor, 1)) (hp : pc + 1 = pc') (g : oGo l Z a0 EL wd p e s m args below meth c R own bytes mx rt nm Q O D h k n pc' Ls (.long (x ^^^ y) :: st)) : oGo l Z a0 EL wd p e s m args below meth c R own bytes mx rt nm Q O D h k n pc Ls (.long y :: .long x :: st) := by
  subst hp; exact oGo.pure (fun T hA hb hx t hr => XT.lxor hA hx rfl (by rw [hb]; exact hd) rfl hr) g
theorem oGo.ishl {x y : Int32} (hd : decode bytes pc = .ok (.ishl, 1)) (hp : pc + 1 = pc') (g : oGo l Z a0 EL wd p e s m args below meth c R own bytes mx rt nm Q O D h k n pc' Ls (.int (x <<< (y &&& 31)) :: st)) : oGo l Z a0 EL wd p e s m args below meth c R own bytes mx rt nm Q O D h k n pc Ls (.int y :: .int x :: st) := by
  subst hp; exact oGo.pure (fun T hA hb hx t hr => XT.ishl hA hx rfl (by rw [hb]; exact hd) rfl hr) g
theorem oGo.ishr {x y : Int32} (hd : decode bytes pc = .ok (.ishr, 1)) (hp : pc + 1 = pc') (g : oGo l Z a0 EL wd p e s m args below meth c R own bytes mx rt nm Q O D h k n pc' Ls (.int (x >>> (y &&& 31)) :: st)) : oGo l Z a0 EL wd p e s m args below meth c R own bytes mx rt nm Q O D h k n pc Ls (.int y :: .int x :: st) := by
  subst hp; exact oGo.pure (fun T hA hb hx t hr => XT.ishr hA hx rfl (by rw [hb]; exact hd) rfl hr) g
theorem oGo.iushr {x y : Int32} (hd : decode bytes pc = .ok (.iushr, 1)) (hp : pc + 1 = pc') (g : oGo l Z a0 EL wd p e s m args below meth c R own bytes mx rt nm Q O D h k n pc' Ls (.int (XT.ushr x y) :: st)) : oGo l Z a0 EL wd p e s m args below meth c R own bytes mx rt nm Q O D h k n pc Ls (.int y :: .int x :: st) := by
  subst hp; exact oGo.pure (fun T hA hb hx t hr => XT.iushr hA hx rfl (by rw [hb]; exact hd) rfl hr) g
theorem oGo.idiv {x y : Int32} (hd : decode bytes pc = .ok (.idiv, 1)) (hp : pc + 1 = pc') (hy : y ≠ 0) (g : oGo l Z a0 EL wd p e s m args below meth c R own bytes mx rt nm Q O D h k n pc' Ls (.int (x / y) :: st)) : oGo l Z a0 EL wd p e s m args below meth c R own bytes mx rt nm Q O D h k n pc Ls (.int y :: .int x :: st) := by
  subst hp; exact oGo.pure (fun T hA hb hx t hr => XS.idiv hA hx rfl (by rw [hb]; exact hd) rfl hy hr) g
theorem oGo.ldiv {x y : Int64} (hd : decode bytes pc = .ok (.ldiv, 1)) (hp : pc + 1 = pc') (hy : y ≠ 0) (g : oGo l Z a0 EL wd p e s m args below meth c R own bytes mx rt nm Q O D h k n pc' Ls (.long (x / y) :: st)) : oGo l Z a0 EL wd p e s m args below meth c R own bytes mx rt nm Q O D h k n pc Ls (.long y :: .long x :: st) := by
  subst hp; exact oGo.pure (fun T hA hb hx t hr => XT.ldiv hA hx rfl (by rw [hb]; exact hd) rfl hy hr) g
theorem oGo.irem {x y : Int32} (hd : decode bytes pc = .ok (.irem, 1)) (hp : pc + 1 = pc') (hy : y ≠ 0) (g : oGo l Z a0 EL wd p e s m args below meth c R own bytes mx rt nm Q O D h k n pc' Ls (.int (x % y) :: st)) : oGo l Z a0 EL wd p e s m args below meth c R own bytes mx rt nm Q O D h k n pc Ls (.int y :: .int x :: st) := by
  subst hp; rw [← irem_eq_mod] at g; exact oGo.pure (fun T hA hb hx t hr => XS.irem hA hx rfl (by rw [hb]; exact hd) rfl hy hr) g
theorem oGo.lrem {x y : Int64} (hd : decode bytes pc = .ok (.lrem, 1)) (hp : pc + 1 = pc') (hy : y ≠ 0) (g : oGo l Z a0 EL wd p e s m args below meth c R own bytes mx rt nm Q O D h k n pc' Ls (.long (x - x / y * y) :: st)) : oGo l Z a0 EL wd p e s m args below meth c R own bytes mx rt nm Q O D h k n pc Ls (.long y :: .long x :: st) := by
  subst hp; exact oGo.pure (fun T hA hb hx t hr => XT.lrem hA hx rfl (by rw [hb]; exact hd) rfl hy hr) g
theorem oGo.ineg {x : Int32} (hd : decode bytes pc = .ok (.ineg, 1)) (hp : pc + 1 = pc') (g : oGo l Z a0 EL wd p e s m args below meth c R own bytes mx rt nm Q O D h k n pc' Ls (.int (-x) :: st)) : oGo l Z a0 EL wd p e s m args below meth c R own bytes mx rt nm Q O D h k n pc Ls (.int x :: st) := by
  subst hp; exact oGo.pure (fun T hA hb hx t hr => XS.ineg hA hx rfl (by rw [hb]; exact hd) rfl hr) g
theorem oGo.lneg {x : Int64} (hd : decode bytes pc = .ok (.lneg, 1)) (hp : pc + 1 = pc') (g : oGo l Z a0 EL wd p e s m args below meth c R own bytes mx rt nm Q O D h k n pc' Ls (.long (-x) :: st)) : oGo l Z a0 EL wd p e s m args below meth c R own bytes mx rt nm Q O D h k n pc Ls (.long x :: st) := by
  subst hp; exact oGo.pure (fun T hA hb hx t hr => XT.lneg hA hx rfl (by rw [hb]; exact hd) rfl hr) g
theorem oGo.i2l {x : Int32} (hd : decode bytes pc = .ok (.i2l, 1)) (hp : pc + 1 = pc') (g : oGo l Z a0 EL wd p e s m args below meth c R own bytes mx rt nm Q O D h k n pc' Ls (.long x.toInt64 :: st)) : oGo l Z a0 EL wd p e s m args below meth c R own bytes mx rt nm Q O D h k n pc Ls (.int x :: st) := by
  subst hp; exact oGo.pure (fun T hA hb hx t hr => XT.i2l hA hx rfl (by rw [hb]; exact hd) rfl hr) g
theorem oGo.l2i {x : Int64} (hd : decode bytes pc = .ok (.l2i, 1)) (hp : pc + 1 = pc') (g : oGo l Z a0 EL wd p e s m args below meth c R own bytes mx rt nm Q O D h k n pc' Ls (.int x.toInt32 :: st)) : oGo l Z a0 EL wd p e s m args below meth c R own bytes mx rt nm Q O D h k n pc Ls (.long x :: st) := by
  subst hp; exact oGo.pure (fun T hA hb hx t hr => XT.l2i hA hx rfl (by rw [hb]; exact hd) rfl hr) g
theorem oGo.i2b {x : Int32} (hd : decode bytes pc = .ok (.i2b, 1)) (hp : pc + 1 = pc') (g : oGo l Z a0 EL wd p e s m args below meth c R own bytes mx rt nm Q O D h k n pc' Ls (.int x.toInt8.toInt32 :: st)) : oGo l Z a0 EL wd p e s m args below meth c R own bytes mx rt nm Q O D h k n pc Ls (.int x :: st) := by
  subst hp; exact oGo.pure (fun T hA hb hx t hr => XT.i2b hA hx rfl (by rw [hb]; exact hd) rfl hr) g
theorem oGo.i2c {x : Int32} (hd : decode bytes pc = .ok (.i2c, 1)) (hp : pc + 1 = pc') (g : oGo l Z a0 EL wd p e s m args below meth c R own bytes mx rt nm Q O D h k n pc' Ls (.int x.toUInt32.toUInt16.toUInt32.toInt32 :: st)) : oGo l Z a0 EL wd p e s m args below meth c R own bytes mx rt nm Q O D h k n pc Ls (.int x :: st) := by
  subst hp; exact oGo.pure (fun T hA hb hx t hr => XT.i2c hA hx rfl (by rw [hb]; exact hd) rfl hr) g
theorem oGo.lcmp {x y : Int64} (hd : decode bytes pc = .ok (.lcmp, 1)) (hp : pc + 1 = pc') (g : oGo l Z a0 EL wd p e s m args below meth c R own bytes mx rt nm Q O D h k n pc' Ls (.int (XT.cmpL x y) :: st)) : oGo l Z a0 EL wd p e s m args below meth c R own bytes mx rt nm Q O D h k n pc Ls (.long y :: .long x :: st) := by
  subst hp; exact oGo.pure (fun T hA hb hx t hr => XT.lcmp hA hx rfl (by rw [hb]; exact hd) rfl hr) g
theorem oGo.iinc {i : Nat} {d : Int} {x y : Int32} (hd : decode bytes pc = .ok (.iinc i d, 3)) (hp : pc + 3 = pc') (hl : Ls[i]? = some (.val (.int x))) (hv : Int32.ofInt d = y) (hl' : storeLocals Ls i (.int (x + y)) = some Ls') (g : oGo l Z a0 EL wd p e s m args below meth c R own bytes mx rt nm Q O D h k n pc' Ls' (st)) : oGo l Z a0 EL wd p e s m args below meth c R own bytes mx rt nm Q O D h k n pc Ls (st) := by
  subst hp; exact oGo.pure (fun T hA hb hx t hr => XS.iinc hA hx rfl (by rw [hb]; exact hd) hl (by rw [hv]; exact hl') hr) g
theorem oGo.dup {v : Value} (hd : decode bytes pc = .ok (.dup, 1)) (hp : pc + 1 = pc') (hc : v.category = 1) (g : oGo l Z a0 EL wd p e s m args below meth c R own bytes mx rt nm Q O D h k n pc' Ls (v :: v :: st)) : oGo l Z a0 EL wd p e s m args below meth c R own bytes mx rt nm Q O D h k n pc Ls (v :: st) := by
  subst hp; exact oGo.pure (fun T hA hb hx t hr => XS.dup hA hx rfl (by rw [hb]; exact hd) rfl hc hr) g
theorem oGo.pop {v : Value} (hd : decode bytes pc = .ok (.pop, 1)) (hp : pc + 1 = pc') (hc : v.category = 1) (g : oGo l Z a0 EL wd p e s m args below meth c R own bytes mx rt nm Q O D h k n pc' Ls (st)) : oGo l Z a0 EL wd p e s m args below meth c R own bytes mx rt nm Q O D h k n pc Ls (v :: st) := by
  subst hp; exact oGo.pure (fun T hA hb hx t hr => XT.pop hA hx rfl (by rw [hb]; exact hd) rfl hc hr) g
theorem oGo.dup_x1 {v w : Value} (hd : decode bytes pc = .ok (.dup_x1, 1)) (hp : pc + 1 = pc') (hc : v.category = 1) (hc' : w.category = 1) (g : oGo l Z a0 EL wd p e s m args below meth c R own bytes mx rt nm Q O D h k n pc' Ls (v :: w :: v :: st)) : oGo l Z a0 EL wd p e s m args below meth c R own bytes mx rt nm Q O D h k n pc Ls (v :: w :: st) := by
  subst hp; exact oGo.pure (fun T hA hb hx t hr => XT.dupX1 hA hx rfl (by rw [hb]; exact hd) rfl hc hc' hr) g
theorem oGo.dup2 {v w : Value} (hd : decode bytes pc = .ok (.dup2, 1)) (hp : pc + 1 = pc') (hc : v.category = 1) (hc' : w.category = 1) (g : oGo l Z a0 EL wd p e s m args below meth c R own bytes mx rt nm Q O D h k n pc' Ls (v :: w :: v :: w :: st)) : oGo l Z a0 EL wd p e s m args below meth c R own bytes mx rt nm Q O D h k n pc Ls (v :: w :: st) := by
  subst hp; exact oGo.pure (fun T hA hb hx t hr => XT.dup2 hA hx rfl (by rw [hb]; exact hd) rfl hc hc' hr) g
theorem oGo.goto {o : Int} (hd : decode bytes pc = .ok (.goto o, 3)) (ho : (pc : Int) + o = (pc' : Int)) (g : oGo l Z a0 EL wd p e s m args below meth c R own bytes mx rt nm Q O D h k n pc' Ls st) : oGo l Z a0 EL wd p e s m args below meth c R own bytes mx rt nm Q O D h k n pc Ls st :=
  oGo.pure (fun T hA hb hx t hr => XS.goto hA hx rfl (pc0 := pc) (pc' := pc') rfl (by rw [hb]; exact hd) (by omega) (by omega) hr) g
theorem own_icmp_eq {x y : Int32} : if_icmp.holds .eq x y = true ↔ x = y := by simp [if_icmp.holds, Int32.not_lt]
theorem own_icmp_eqN {x y : Int32} : if_icmp.holds .eq x y = false ↔ ¬ x = y := by simp [if_icmp.holds, Int32.not_lt]
theorem oGo.icmp_eq {x y : Int32} {o : Int} (hd : decode bytes pc = .ok (.if_icmp .eq o, 3)) (hp : pc + 3 = pc1) (ho : (pc : Int) + o = (pc2 : Int)) (gy : x = y → oGo l Z a0 EL wd p e s m args below meth c R own bytes mx rt nm Q O D h k n pc2 Ls st) (gn : ¬ x = y → oGo l Z a0 EL wd p e s m args below meth c R own bytes mx rt nm Q O D h k n pc1 Ls st) : oGo l Z a0 EL wd p e s m args below meth c R own bytes mx rt nm Q O D h k n pc Ls (.int y :: .int x :: st) := by
  subst hp
  by_cases q : x = y
  · exact oGo.pure (fun T hA hb hx t hr => XS.icmpYes hA hx rfl (pc0 := pc) (pc' := pc2) rfl (by rw [hb]; exact hd) rfl (own_icmp_eq.2 q) (by omega) (by omega) hr) (gy q)
  · exact oGo.pure (fun T hA hb hx t hr => XS.icmpNo hA hx rfl (by rw [hb]; exact hd) rfl (own_icmp_eqN.2 q) hr) (gn q)
theorem own_icmp_ne {x y : Int32} : if_icmp.holds .ne x y = true ↔ ¬ x = y := by simp [if_icmp.holds, Int32.not_lt]
theorem own_icmp_neN {x y : Int32} : if_icmp.holds .ne x y = false ↔ x = y := by simp [if_icmp.holds, Int32.not_lt]
theorem oGo.icmp_ne {x y : Int32} {o : Int} (hd : decode bytes pc = .ok (.if_icmp .ne o, 3)) (hp : pc + 3 = pc1) (ho : (pc : Int) + o = (pc2 : Int)) (gy : ¬ x = y → oGo l Z a0 EL wd p e s m args below meth c R own bytes mx rt nm Q O D h k n pc2 Ls st) (gn : x = y → oGo l Z a0 EL wd p e s m args below meth c R own bytes mx rt nm Q O D h k n pc1 Ls st) : oGo l Z a0 EL wd p e s m args below meth c R own bytes mx rt nm Q O D h k n pc Ls (.int y :: .int x :: st) := by
  subst hp
  by_cases q : x = y
  · exact oGo.pure (fun T hA hb hx t hr => XS.icmpNo hA hx rfl (by rw [hb]; exact hd) rfl (own_icmp_neN.2 q) hr) (gn q)
  · exact oGo.pure (fun T hA hb hx t hr => XS.icmpYes hA hx rfl (pc0 := pc) (pc' := pc2) rfl (by rw [hb]; exact hd) rfl (own_icmp_ne.2 q) (by omega) (by omega) hr) (gy q)
theorem own_icmp_lt {x y : Int32} : if_icmp.holds .lt x y = true ↔ x < y := by simp [if_icmp.holds, Int32.not_lt]
theorem own_icmp_ltN {x y : Int32} : if_icmp.holds .lt x y = false ↔ ¬ x < y := by simp [if_icmp.holds, Int32.not_lt]
theorem oGo.icmp_lt {x y : Int32} {o : Int} (hd : decode bytes pc = .ok (.if_icmp .lt o, 3)) (hp : pc + 3 = pc1) (ho : (pc : Int) + o = (pc2 : Int)) (gy : x < y → oGo l Z a0 EL wd p e s m args below meth c R own bytes mx rt nm Q O D h k n pc2 Ls st) (gn : ¬ x < y → oGo l Z a0 EL wd p e s m args below meth c R own bytes mx rt nm Q O D h k n pc1 Ls st) : oGo l Z a0 EL wd p e s m args below meth c R own bytes mx rt nm Q O D h k n pc Ls (.int y :: .int x :: st) := by
  subst hp
  by_cases q : x < y
  · exact oGo.pure (fun T hA hb hx t hr => XS.icmpYes hA hx rfl (pc0 := pc) (pc' := pc2) rfl (by rw [hb]; exact hd) rfl (own_icmp_lt.2 q) (by omega) (by omega) hr) (gy q)
  · exact oGo.pure (fun T hA hb hx t hr => XS.icmpNo hA hx rfl (by rw [hb]; exact hd) rfl (own_icmp_ltN.2 q) hr) (gn q)
theorem own_icmp_ge {x y : Int32} : if_icmp.holds .ge x y = true ↔ ¬ x < y := by simp [if_icmp.holds, Int32.not_lt]
theorem own_icmp_geN {x y : Int32} : if_icmp.holds .ge x y = false ↔ x < y := by simp [if_icmp.holds, Int32.not_lt]
theorem oGo.icmp_ge {x y : Int32} {o : Int} (hd : decode bytes pc = .ok (.if_icmp .ge o, 3)) (hp : pc + 3 = pc1) (ho : (pc : Int) + o = (pc2 : Int)) (gy : ¬ x < y → oGo l Z a0 EL wd p e s m args below meth c R own bytes mx rt nm Q O D h k n pc2 Ls st) (gn : x < y → oGo l Z a0 EL wd p e s m args below meth c R own bytes mx rt nm Q O D h k n pc1 Ls st) : oGo l Z a0 EL wd p e s m args below meth c R own bytes mx rt nm Q O D h k n pc Ls (.int y :: .int x :: st) := by
  subst hp
  by_cases q : x < y
  · exact oGo.pure (fun T hA hb hx t hr => XS.icmpNo hA hx rfl (by rw [hb]; exact hd) rfl (own_icmp_geN.2 q) hr) (gn q)
  · exact oGo.pure (fun T hA hb hx t hr => XS.icmpYes hA hx rfl (pc0 := pc) (pc' := pc2) rfl (by rw [hb]; exact hd) rfl (own_icmp_ge.2 q) (by omega) (by omega) hr) (gy q)
theorem own_icmp_gt {x y : Int32} : if_icmp.holds .gt x y = true ↔ y < x := by simp [if_icmp.holds, Int32.not_lt]
theorem own_icmp_gtN {x y : Int32} : if_icmp.holds .gt x y = false ↔ ¬ y < x := by simp [if_icmp.holds, Int32.not_lt]
theorem oGo.icmp_gt {x y : Int32} {o : Int} (hd : decode bytes pc = .ok (.if_icmp .gt o, 3)) (hp : pc + 3 = pc1) (ho : (pc : Int) + o = (pc2 : Int)) (gy : y < x → oGo l Z a0 EL wd p e s m args below meth c R own bytes mx rt nm Q O D h k n pc2 Ls st) (gn : ¬ y < x → oGo l Z a0 EL wd p e s m args below meth c R own bytes mx rt nm Q O D h k n pc1 Ls st) : oGo l Z a0 EL wd p e s m args below meth c R own bytes mx rt nm Q O D h k n pc Ls (.int y :: .int x :: st) := by
  subst hp
  by_cases q : y < x
  · exact oGo.pure (fun T hA hb hx t hr => XS.icmpYes hA hx rfl (pc0 := pc) (pc' := pc2) rfl (by rw [hb]; exact hd) rfl (own_icmp_gt.2 q) (by omega) (by omega) hr) (gy q)
  · exact oGo.pure (fun T hA hb hx t hr => XS.icmpNo hA hx rfl (by rw [hb]; exact hd) rfl (own_icmp_gtN.2 q) hr) (gn q)
theorem own_icmp_le {x y : Int32} : if_icmp.holds .le x y = true ↔ ¬ y < x := by simp [if_icmp.holds, Int32.not_lt]
theorem own_icmp_leN {x y : Int32} : if_icmp.holds .le x y = false ↔ y < x := by simp [if_icmp.holds, Int32.not_lt]
theorem oGo.icmp_le {x y : Int32} {o : Int} (hd : decode bytes pc = .ok (.if_icmp .le o, 3)) (hp : pc + 3 = pc1) (ho : (pc : Int) + o = (pc2 : Int)) (gy : ¬ y < x → oGo l Z a0 EL wd p e s m args below meth c R own bytes mx rt nm Q O D h k n pc2 Ls st) (gn : y < x → oGo l Z a0 EL wd p e s m args below meth c R own bytes mx rt nm Q O D h k n pc1 Ls st) : oGo l Z a0 EL wd p e s m args below meth c R own bytes mx rt nm Q O D h k n pc Ls (.int y :: .int x :: st) := by
  subst hp
  by_cases q : y < x
  · exact oGo.pure (fun T hA hb hx t hr => XS.icmpNo hA hx rfl (by rw [hb]; exact hd) rfl (own_icmp_leN.2 q) hr) (gn q)
  · exact oGo.pure (fun T hA hb hx t hr => XS.icmpYes hA hx rfl (pc0 := pc) (pc' := pc2) rfl (by rw [hb]; exact hd) rfl (own_icmp_le.2 q) (by omega) (by omega) hr) (gy q)
theorem own_if_eq {x : Int32} : ifCond.holds .eq x = true ↔ x = 0 := by simp [ifCond.holds, Int32.not_lt]
theorem own_if_eqN {x : Int32} : ifCond.holds .eq x = false ↔ ¬ x = 0 := by simp [ifCond.holds, Int32.not_lt]
theorem oGo.if_eq {x : Int32} {o : Int} (hd : decode bytes pc = .ok (.ifCond .eq o, 3)) (hp : pc + 3 = pc1) (ho : (pc : Int) + o = (pc2 : Int)) (gy : x = 0 → oGo l Z a0 EL wd p e s m args below meth c R own bytes mx rt nm Q O D h k n pc2 Ls st) (gn : ¬ x = 0 → oGo l Z a0 EL wd p e s m args below meth c R own bytes mx rt nm Q O D h k n pc1 Ls st) : oGo l Z a0 EL wd p e s m args below meth c R own bytes mx rt nm Q O D h k n pc Ls (.int x :: st) := by
  subst hp
  by_cases q : x = 0
  · exact oGo.pure (fun T hA hb hx t hr => XS.ifYes hA hx rfl (pc0 := pc) (pc' := pc2) rfl (by rw [hb]; exact hd) rfl (own_if_eq.2 q) (by omega) (by omega) hr) (gy q)
  · exact oGo.pure (fun T hA hb hx t hr => XS.ifNo hA hx rfl (by rw [hb]; exact hd) rfl (own_if_eqN.2 q) hr) (gn q)
theorem own_if_ne {x : Int32} : ifCond.holds .ne x = true ↔ ¬ x = 0 := by simp [ifCond.holds, Int32.not_lt]
theorem own_if_neN {x : Int32} : ifCond.holds .ne x = false ↔ x = 0 := by simp [ifCond.holds, Int32.not_lt]
theorem oGo.if_ne {x : Int32} {o : Int} (hd : decode bytes pc = .ok (.ifCond .ne o, 3)) (hp : pc + 3 = pc1) (ho : (pc : Int) + o = (pc2 : Int)) (gy : ¬ x = 0 → oGo l Z a0 EL wd p e s m args below meth c R own bytes mx rt nm Q O D h k n pc2 Ls st) (gn : x = 0 → oGo l Z a0 EL wd p e s m args below meth c R own bytes mx rt nm Q O D h k n pc1 Ls st) : oGo l Z a0 EL wd p e s m args below meth c R own bytes mx rt nm Q O D h k n pc Ls (.int x :: st) := by
  subst hp
  by_cases q : x = 0
  · exact oGo.pure (fun T hA hb hx t hr => XS.ifNo hA hx rfl (by rw [hb]; exact hd) rfl (own_if_neN.2 q) hr) (gn q)
  · exact oGo.pure (fun T hA hb hx t hr => XS.ifYes hA hx rfl (pc0 := pc) (pc' := pc2) rfl (by rw [hb]; exact hd) rfl (own_if_ne.2 q) (by omega) (by omega) hr) (gy q)
theorem own_if_lt {x : Int32} : ifCond.holds .lt x = true ↔ x < 0 := by simp [ifCond.holds, Int32.not_lt]
theorem own_if_ltN {x : Int32} : ifCond.holds .lt x = false ↔ ¬ x < 0 := by simp [ifCond.holds, Int32.not_lt]
theorem oGo.if_lt {x : Int32} {o : Int} (hd : decode bytes pc = .ok (.ifCond .lt o, 3)) (hp : pc + 3 = pc1) (ho : (pc : Int) + o = (pc2 : Int)) (gy : x < 0 → oGo l Z a0 EL wd p e s m args below meth c R own bytes mx rt nm Q O D h k n pc2 Ls st) (gn : ¬ x < 0 → oGo l Z a0 EL wd p e s m args below meth c R own bytes mx rt nm Q O D h k n pc1 Ls st) : oGo l Z a0 EL wd p e s m args below meth c R own bytes mx rt nm Q O D h k n pc Ls (.int x :: st) := by
  subst hp
  by_cases q : x < 0
  · exact oGo.pure (fun T hA hb hx t hr => XS.ifYes hA hx rfl (pc0 := pc) (pc' := pc2) rfl (by rw [hb]; exact hd) rfl (own_if_lt.2 q) (by omega) (by omega) hr) (gy q)
  · exact oGo.pure (fun T hA hb hx t hr => XS.ifNo hA hx rfl (by rw [hb]; exact hd) rfl (own_if_ltN.2 q) hr) (gn q)
theorem own_if_ge {x : Int32} : ifCond.holds .ge x = true ↔ ¬ x < 0 := by simp [ifCond.holds, Int32.not_lt]
theorem own_if_geN {x : Int32} : ifCond.holds .ge x = false ↔ x < 0 := by simp [ifCond.holds, Int32.not_lt]
theorem oGo.if_ge {x : Int32} {o : Int} (hd : decode bytes pc = .ok (.ifCond .ge o, 3)) (hp : pc + 3 = pc1) (ho : (pc : Int) + o = (pc2 : Int)) (gy : ¬ x < 0 → oGo l Z a0 EL wd p e s m args below meth c R own bytes mx rt nm Q O D h k n pc2 Ls st) (gn : x < 0 → oGo l Z a0 EL wd p e s m args below meth c R own bytes mx rt nm Q O D h k n pc1 Ls st) : oGo l Z a0 EL wd p e s m args below meth c R own bytes mx rt nm Q O D h k n pc Ls (.int x :: st) := by
  subst hp
  by_cases q : x < 0
  · exact oGo.pure (fun T hA hb hx t hr => XS.ifNo hA hx rfl (by rw [hb]; exact hd) rfl (own_if_geN.2 q) hr) (gn q)
  · exact oGo.pure (fun T hA hb hx t hr => XS.ifYes hA hx rfl (pc0 := pc) (pc' := pc2) rfl (by rw [hb]; exact hd) rfl (own_if_ge.2 q) (by omega) (by omega) hr) (gy q)
theorem own_if_gt {x : Int32} : ifCond.holds .gt x = true ↔ 0 < x := by simp [ifCond.holds, Int32.not_lt]
theorem own_if_gtN {x : Int32} : ifCond.holds .gt x = false ↔ ¬ 0 < x := by simp [ifCond.holds, Int32.not_lt]
theorem oGo.if_gt {x : Int32} {o : Int} (hd : decode bytes pc = .ok (.ifCond .gt o, 3)) (hp : pc + 3 = pc1) (ho : (pc : Int) + o = (pc2 : Int)) (gy : 0 < x → oGo l Z a0 EL wd p e s m args below meth c R own bytes mx rt nm Q O D h k n pc2 Ls st) (gn : ¬ 0 < x → oGo l Z a0 EL wd p e s m args below meth c R own bytes mx rt nm Q O D h k n pc1 Ls st) : oGo l Z a0 EL wd p e s m args below meth c R own bytes mx rt nm Q O D h k n pc Ls (.int x :: st) := by
  subst hp
  by_cases q : 0 < x
  · exact oGo.pure (fun T hA hb hx t hr => XS.ifYes hA hx rfl (pc0 := pc) (pc' := pc2) rfl (by rw [hb]; exact hd) rfl (own_if_gt.2 q) (by omega) (by omega) hr) (gy q)
  · exact oGo.pure (fun T hA hb hx t hr => XS.ifNo hA hx rfl (by rw [hb]; exact hd) rfl (own_if_gtN.2 q) hr) (gn q)
theorem own_if_le {x : Int32} : ifCond.holds .le x = true ↔ ¬ 0 < x := by simp [ifCond.holds, Int32.not_lt]
theorem own_if_leN {x : Int32} : ifCond.holds .le x = false ↔ 0 < x := by simp [ifCond.holds, Int32.not_lt]
theorem oGo.if_le {x : Int32} {o : Int} (hd : decode bytes pc = .ok (.ifCond .le o, 3)) (hp : pc + 3 = pc1) (ho : (pc : Int) + o = (pc2 : Int)) (gy : ¬ 0 < x → oGo l Z a0 EL wd p e s m args below meth c R own bytes mx rt nm Q O D h k n pc2 Ls st) (gn : 0 < x → oGo l Z a0 EL wd p e s m args below meth c R own bytes mx rt nm Q O D h k n pc1 Ls st) : oGo l Z a0 EL wd p e s m args below meth c R own bytes mx rt nm Q O D h k n pc Ls (.int x :: st) := by
  subst hp
  by_cases q : 0 < x
  · exact oGo.pure (fun T hA hb hx t hr => XS.ifNo hA hx rfl (by rw [hb]; exact hd) rfl (own_if_leN.2 q) hr) (gn q)
  · exact oGo.pure (fun T hA hb hx t hr => XS.ifYes hA hx rfl (pc0 := pc) (pc' := pc2) rfl (by rw [hb]; exact hd) rfl (own_if_le.2 q) (by omega) (by omega) hr) (gy q)
theorem oGo.ifnull_y {o : Int} {b : Addr} (hd : decode bytes pc = .ok (.ifnull o, 3)) (ho : (pc : Int) + o = (pc2 : Int)) (g : oGo l Z a0 EL wd p e s m args below meth c R own bytes mx rt nm Q O D h k n pc2 Ls st) : oGo l Z a0 EL wd p e s m args below meth c R own bytes mx rt nm Q O D h k n pc Ls (.null :: st) :=
  oGo.pure (fun T hA hb hx t hr => XS.ifnullYes hA hx rfl (pc0 := pc) (pc' := pc2) rfl (by rw [hb]; exact hd) rfl (by omega) (by omega) hr) g
theorem oGo.ifnull_n {o : Int} {b : Addr} (hd : decode bytes pc = .ok (.ifnull o, 3)) (hp : pc + 3 = pc1) (g : oGo l Z a0 EL wd p e s m args below meth c R own bytes mx rt nm Q O D h k n pc1 Ls st) : oGo l Z a0 EL wd p e s m args below meth c R own bytes mx rt nm Q O D h k n pc Ls (.ref b :: st) := by
  subst hp; exact oGo.pure (fun T hA hb hx t hr => XS.ifnullNo hA hx rfl (by rw [hb]; exact hd) rfl hr) g
theorem oGo.ifnonnull_y {o : Int} {b : Addr} (hd : decode bytes pc = .ok (.ifnonnull o, 3)) (ho : (pc : Int) + o = (pc2 : Int)) (g : oGo l Z a0 EL wd p e s m args below meth c R own bytes mx rt nm Q O D h k n pc2 Ls st) : oGo l Z a0 EL wd p e s m args below meth c R own bytes mx rt nm Q O D h k n pc Ls (.ref b :: st) :=
  oGo.pure (fun T hA hb hx t hr => XT.ifnonnullYes hA hx rfl (pc0 := pc) (pc' := pc2) rfl (by rw [hb]; exact hd) rfl (by omega) (by omega) hr) g
theorem oGo.ifnonnull_n {o : Int} {b : Addr} (hd : decode bytes pc = .ok (.ifnonnull o, 3)) (hp : pc + 3 = pc1) (g : oGo l Z a0 EL wd p e s m args below meth c R own bytes mx rt nm Q O D h k n pc1 Ls st) : oGo l Z a0 EL wd p e s m args below meth c R own bytes mx rt nm Q O D h k n pc Ls (.null :: st) := by
  subst hp; exact oGo.pure (fun T hA hb hx t hr => XT.ifnonnullNo hA hx rfl (by rw [hb]; exact hd) rfl hr) g
theorem oGo.acmp_y {cd : ClassFile.ACond} {v w : Value} {o : Int} (hd : decode bytes pc = .ok (.if_acmp cd o, 3)) (ho : (pc : Int) + o = (pc2 : Int)) (hv : v.isRef = true) (hw : w.isRef = true) (hq : XT.acmp cd v w = true) (g : oGo l Z a0 EL wd p e s m args below meth c R own bytes mx rt nm Q O D h k n pc2 Ls st) : oGo l Z a0 EL wd p e s m args below meth c R own bytes mx rt nm Q O D h k n pc Ls (w :: v :: st) :=
  oGo.pure (fun T hA hb hx t hr => XT.acmpYes hA hx rfl (pc0 := pc) (pc' := pc2) rfl (by rw [hb]; exact hd) rfl hv hw hq (by omega) (by omega) hr) g
theorem oGo.acmp_n {cd : ClassFile.ACond} {v w : Value} {o : Int} (hd : decode bytes pc = .ok (.if_acmp cd o, 3)) (hp : pc + 3 = pc1) (hv : v.isRef = true) (hw : w.isRef = true) (hq : XT.acmp cd v w = false) (g : oGo l Z a0 EL wd p e s m args below meth c R own bytes mx rt nm Q O D h k n pc1 Ls st) : oGo l Z a0 EL wd p e s m args below meth c R own bytes mx rt nm Q O D h k n pc Ls (w :: v :: st) := by
  subst hp; exact oGo.pure (fun T hA hb hx t hr => XT.acmpNo hA hx rfl (by rw [hb]; exact hd) rfl hv hw hq hr) g
/-- steps that may warm the tables -/
theorem oGo.move (H : ∀ (T : State) (locs : List Loc) (vm0 : Vm), Stand p l e R (s.setVm vm0) m args below meth c T locs k n → T.heap = h → Z.Warmed39 vm0 → vm0.findClass own = some m.cls → c.code = bytes → p.tables.exec = Jvm.exec → meth.name = nm → c.maxLocals = mx → ∃ T', Stand p l e R (s.setVm vm0) m args below meth c T' locs k n ∧ T'.heap = h ∧ ∀ t, Steps p.tables e below (T'.setTop (mkF m pc' Ls' st')) t → Steps p.tables e below (T.setTop (mkF m pc Ls st)) t)
    (g : oGo l Z a0 EL wd p e s m args below meth c R own bytes mx rt nm Q O D h k n pc' Ls' st') : oGo l Z a0 EL wd p e s m args below meth c R own bytes mx rt nm Q O D h k n pc Ls st := by
  intro T locs vm0 k0 I
  obtain ⟨⟨hx, hb, hm, hr, hl, hn, hE⟩, hT, hO, hF, X, hS, hk, hZ, hown, hC, hwd, hD⟩ := I
  obtain ⟨T', X', hT', hst⟩ := H T locs vm0 X hT hZ hown hb hx hn hm
  obtain ⟨V, v, L, hs, r⟩ := g T' locs vm0 k0 ⟨⟨hx, hb, hm, hr, hl, hn, hE⟩, hT', hO, hF, X', hS, hk, hZ, hown, hC, hwd, hD⟩
  exact ⟨V, v, L, hst V hs, r⟩
/-- steps that make a cell -/
theorem oGo.grow {P : Heap → Prop} {D' : List Addr} {k' n' : Nat} (H : ∀ (T : State) (locs : List Loc) (vm0 : Vm), Stand p l e R (s.setVm vm0) m args below meth c T locs k n → T.heap = h → Z.Warmed39 vm0 → vm0.findClass own = some m.cls → c.code = bytes → p.tables.exec = Jvm.exec → meth.name = nm → c.maxLocals = mx → ∃ T' h', Stand p l e R (s.setVm vm0) m args below meth c T' locs k' n' ∧ T'.heap = h' ∧ Ext h h' ∧ P h' ∧ ∀ t, Steps p.tables e below (T'.setTop (mkF m pc' Ls' st')) t → Steps p.tables e below (T.setTop (mkF m pc Ls st)) t)
    (hD : ∀ h', P h' → ∀ x ∈ D', x ∈ D ∨ (h.size ≤ x ∧ x < h'.size)) (g : ∀ h', Ext h h' → P h' → oGo l Z a0 EL wd p e s m args below meth c R own bytes mx rt nm Q O D' h' k' n' pc' Ls' st') : oGo l Z a0 EL wd p e s m args below meth c R own bytes mx rt nm Q O D h k n pc Ls st := by
  intro T locs vm0 k0 I
  obtain ⟨⟨hx, hb, hm, hr, hl, hn, hE⟩, hT, hO, hF, X, hS, hk, hZ, hown, hC, hwd, hDk⟩ := I
  obtain ⟨T', h', X', hT', hEx, hP, hst⟩ := H T locs vm0 X hT hZ hown hb hx hn hm
  have hD2 : oDok Z EL vm0 h' D' := fun x hx' => by
    rcases hD h' hP x hx' with q | ⟨q1, q2⟩
    · exact oDok.ext hEx hC.1 hDk x q
    · exact ⟨Nat.le_trans hO.1 q1, q2, (Safe.new q1).ext hEx hC.1⟩
  obtain ⟨V, v, L, hs, r⟩ := g h' hEx hP T' locs vm0 k0 ⟨⟨hx, hb, hm, hr, hl, hn, hE⟩, hT', ext_trans hO hEx, hF, X', hS, Nat.le_trans hk hEx.1, hZ, hown, hC.trans (CHr.ext hEx hC.1), hwd, hD2⟩
  exact ⟨V, v, L, hst V hs, r⟩
/-- a store into one slot -/
theorem oGo.write {a : Addr} {sl : Nat} {w : Value} (H : ∀ (T : State) (locs : List Loc) (vm0 : Vm), Stand p l e R (s.setVm vm0) m args below meth c T locs k n → T.heap = h → Z.Warmed39 vm0 → vm0.findClass own = some m.cls → c.code = bytes → p.tables.exec = Jvm.exec → meth.name = nm → c.maxLocals = mx → ∃ T' h', Stand p l e R (s.setVm vm0) m args below meth c T' (locs ++ [⟨a, sl⟩]) k n ∧ T'.heap = h' ∧ Wr h h' a sl w ∧ ∀ t, Steps p.tables e below (T'.setTop (mkF m pc' Ls' st')) t → Steps p.tables e below (T.setTop (mkF m pc Ls st)) t)
    (ha : a ∈ D) (g : ∀ h', Wr h h' a sl w → h'.size = h.size → oGo l Z a0 EL wd p e s m args below meth c R own bytes mx rt nm Q O D h' k n pc' Ls' st') : oGo l Z a0 EL wd p e s m args below meth c R own bytes mx rt nm Q O D h k n pc Ls st := by
  intro T locs vm0 k0 I
  obtain ⟨⟨hx, hb, hm, hr, hl, hn, hE⟩, hT, hO, hF, X, hS, hk, hZ, hown, hC, hwd, hDk⟩ := I
  obtain ⟨T', h', X', hT', W, hst⟩ := H T locs vm0 X hT hZ hown hb hx hn hm
  obtain ⟨q1, q2, q3⟩ := hDk a ha
  obtain ⟨V, v, L, hs, r⟩ := g h' W W.size T' _ vm0 k0 ⟨⟨hx, hb, hm, hr, hl, hn, hE⟩, hT', ext_wr hO W q1, Fr.snoc X' hF q1, X', hS, by rw [W.size]; exact hk, hZ, hown, hC.trans (CHr.wr W q3 hC.1), hwd, hDk.wr W q3 hC.1⟩
  exact ⟨V, v, L, hst V hs, r⟩
/-- a step that writes into known cells (arraycopy) -/
theorem oGo.writes {ws : List Addr} {P : Heap → Prop} (H : ∀ (T : State) (locs : List Loc) (vm0 : Vm), Stand p l e R (s.setVm vm0) m args below meth c T locs k n → T.heap = h → Z.Warmed39 vm0 → vm0.findClass own = some m.cls → c.code = bytes → p.tables.exec = Jvm.exec → meth.name = nm → c.maxLocals = mx → Fr Z.heap.size locs → (∀ x ∈ D, Z.heap.size ≤ x) → ∃ T' h' L', Stand p l e R (s.setVm vm0) m args below meth c T' L' k n ∧ T'.heap = h' ∧ Fr Z.heap.size L' ∧ Keep h h' ws ∧ P h' ∧ ∀ t, Steps p.tables e below (T'.setTop (mkF m pc' Ls' st')) t → Steps p.tables e below (T.setTop (mkF m pc Ls st)) t)
    (ha : ∀ x ∈ ws, x ∈ D) (g : ∀ h', Keep h h' ws → P h' → oGo l Z a0 EL wd p e s m args below meth c R own bytes mx rt nm Q O D h' k n pc' Ls' st') : oGo l Z a0 EL wd p e s m args below meth c R own bytes mx rt nm Q O D h k n pc Ls st := by
  intro T locs vm0 k0 I
  obtain ⟨⟨hx, hb, hm, hr, hl, hn, hE⟩, hT, hO, hF, X, hS, hk, hZ, hown, hC, hwd, hDk⟩ := I
  obtain ⟨T', h', L', X', hT', hF', K, hP, hst⟩ := H T locs vm0 X hT hZ hown hb hx hn hm hF (fun x q => (hDk x q).1)
  have hsafe : ∀ x ∈ ws, Safe Z EL vm0 h x := fun x q => (hDk x (ha x q)).2.2
  have hO' : Ext Z.heap h' := (Old.keep (Z := Z) (n0 := Z.heap.size) ⟨rfl, hO⟩ K fun x q => (hDk x (ha x q)).1).2
  obtain ⟨V, v, L, hs, r⟩ := g h' K hP T' L' vm0 k0 ⟨⟨hx, hb, hm, hr, hl, hn, hE⟩, hT', hO', hF', X', hS, Nat.le_trans hk K.1, hZ, hown, hC.trans (CHr.keep K hsafe hC.1), hwd, hDk.chr (CHr.keep K hsafe hC.1)⟩
  exact ⟨V, v, L, hst V hs, r⟩
/-- what stood at the start stands still -/
theorem oGo.old (g : Ext Z.heap h → Z.heap.size ≤ h.size → oGo l Z a0 EL wd p e s m args below meth c R own bytes mx rt nm Q O D h k n pc Ls st) : oGo l Z a0 EL wd p e s m args below meth c R own bytes mx rt nm Q O D h k n pc Ls st := fun T locs vm0 k0 I => g I.2.2.1 I.2.2.1.1 T locs vm0 k0 I
/-- steps that leave the state -/
theorem oGo.read (H : ∀ (T : State) (locs : List Loc) (vm0 : Vm), Stand p l e R (s.setVm vm0) m args below meth c T locs k n → T.heap = h → Z.Warmed39 vm0 → vm0.findClass own = some m.cls → c.code = bytes → p.tables.exec = Jvm.exec → meth.name = nm → c.maxLocals = mx → ∀ t, Steps p.tables e below (T.setTop (mkF m pc' Ls' st')) t → Steps p.tables e below (T.setTop (mkF m pc Ls st)) t)
    (g : oGo l Z a0 EL wd p e s m args below meth c R own bytes mx rt nm Q O D h k n pc' Ls' st') : oGo l Z a0 EL wd p e s m args below meth c R own bytes mx rt nm Q O D h k n pc Ls st := oGo.move (fun T locs vm0 X hT hZ hown hb hx hn hm => ⟨T, X, hT, H T locs vm0 X hT hZ hown hb hx hn hm⟩) g
theorem oGo.ldc_int {idx : Nat} {v : Int32} (hd : decode bytes pc = .ok (.ldc idx, 2)) (hp : pc + 2 = pc') (w : (Cond.constant own idx v).before a0 Z = true) (g : oGo l Z a0 EL wd p e s m args below meth c R own bytes mx rt nm Q O D h k n pc' Ls (.int v :: st)) : oGo l Z a0 EL wd p e s m args below meth c R own bytes mx rt nm Q O D h k n pc Ls st := by
  subst hp; exact oGo.read (fun T locs vm0 X hT hZ hown hb hx hn hm => X.ldcInt hx hown (mvT (s := s.setVm vm0) hZ w) (g := mkF m pc Ls st) rfl (by rw [hb]; exact hd)) g
theorem oGo.ldc2_long {idx : Nat} {v : Int64} (hd : decode bytes pc = .ok (.ldc2_w idx, 3)) (hp : pc + 3 = pc') (w : (Cond.constantLong own idx v).before a0 Z = true) (g : oGo l Z a0 EL wd p e s m args below meth c R own bytes mx rt nm Q O D h k n pc' Ls (.long v :: st)) : oGo l Z a0 EL wd p e s m args below meth c R own bytes mx rt nm Q O D h k n pc Ls st := by
  subst hp; exact oGo.read (fun T locs vm0 X hT hZ hown hb hx hn hm => X.ldc2Long hx hown (mvT (s := s.setVm vm0) hZ w) (g := mkF m pc Ls st) rfl (by rw [hb]; exact hd)) g
theorem oGo.getfield {idx : Nat} {a : Addr} {R0 Ow f d : String} {v : Value} (hd : decode bytes pc = .ok (.getfield idx, 3)) (hp : pc + 3 = pc') (w : (Cond.fieldLink own idx R0 f d).before a0 Z = true) (via : Via Z R0 Ow f d) (F : Fld Z h a Ow f d v)
    (g : oGo l Z a0 EL wd p e s m args below meth c R own bytes mx rt nm Q O D h k n pc' Ls (v :: st)) : oGo l Z a0 EL wd p e s m args below meth c R own bytes mx rt nm Q O D h k n pc Ls (.ref a :: st) := by
  subst hp; exact oGo.move (fun T locs vm0 X hT hZ hown hb hx hn hm => getF (s := s.setVm vm0) X hx hZ hown (host := "") (Or.inl w) via hT F (g := mkF m pc Ls (.ref a :: st)) rfl rfl (by rw [hb]; exact hd)) g
theorem oGo.getstatic {idx : Nat} {R0 Ow f d : String} {v : Value} (hd : decode bytes pc = .ok (.getstatic idx, 3)) (hp : pc + 3 = pc') (w : (Cond.fieldLink own idx R0 f d).before a0 Z = true) (via : Via Z R0 Ow f d) (F : Sta Z Z.heap Ow f d v)
    (g : oGo l Z a0 EL wd p e s m args below meth c R own bytes mx rt nm Q O D h k n pc' Ls (v :: st)) : oGo l Z a0 EL wd p e s m args below meth c R own bytes mx rt nm Q O D h k n pc Ls st := by
  subst hp
  intro T locs vm0 k0 I
  have hO : Ext Z.heap h := I.2.2.1
  exact oGo.move (fun T locs vm0 X hT hZ hown hb hx hn hm => getS (s := s.setVm vm0) (host := "") X hx hZ hown w via hT (F.ext hO) (g := mkF m pc Ls st) rfl (by rw [hb]; exact hd)) g T locs vm0 k0 I
theorem oGo.putfield {idx kk : Nat} {a : Addr} {R0 Ow f d Cn : String} {v old : Value} {ty : FieldType} (hd : decode bytes pc = .ok (.putfield idx, 3)) (hp : pc + 3 = pc') (w : (Cond.fieldLink own idx R0 f d).before a0 Z = true) (via : Via Z R0 Ow f d) (F : Fld Z h a Ow f d old) (E : Exa Z h a Cn)
    (L : (Cond.lays Cn Ow f d).before a0 Z = true ∨ ((Cond.laysFinal Cn Ow f d).before a0 Z = true ∧ own = Ow ∧ nm = "<init>")) (wi : (Cond.instantiable Cn kk).before a0 Z = true) (hty : parseFieldDescriptor d = some ty) (hnv : narrow ty v = v) (hf : fits ty v = true) (ha : a ∈ D)
    (g : ∀ h', Wr h h' a (Jvm.RoadKit.slotOf Z Ow f d) v → h'.size = h.size → oGo l Z a0 EL wd p e s m args below meth c R own bytes mx rt nm Q O D h' k n pc' Ls st) : oGo l Z a0 EL wd p e s m args below meth c R own bytes mx rt nm Q O D h k n pc Ls (v :: .ref a :: st) := by
  subst hp; exact oGo.write (fun T locs vm0 X hT hZ hown hb hx hn hm => putF (s := s.setVm vm0) X hx hZ hown (host := "") (Or.inl w) via hT F E (L.imp id fun q => ⟨q.1, q.2.1, hn.trans q.2.2⟩) wi hty hnv hf (g := mkF m pc Ls (v :: .ref a :: st)) rfl rfl (by rw [hb]; exact hd)) ha g
theorem oGo.new {idx sz : Nat} {Cn : String} {k' n' : Nat} (hd : decode bytes pc = .ok (.new idx, 3)) (hp : pc + 3 = pc') (w : (Cond.classLink own idx Cn).before a0 Z = true) (wi : (Cond.instantiable Cn sz).before a0 Z = true) (wz : (Cond.initialized Cn).before a0 Z = true) (hk : k + 1 = k') (hn : n + sz = n') (hc : k' ≤ R.cells) (hl : n' ≤ R.slots)
    (g : ∀ (h' : Heap) (a : Nat), a = h.size → a < h'.size → Ext h h' → Exa Z h' a Cn → (∀ {Ow f d : String} {ty : FieldType}, Laid Z a0 Cn Ow f d → parseFieldDescriptor d = some ty → Fld Z h' a Ow f d (defaultValue ty)) → oGo l Z a0 EL wd p e s m args below meth c R own bytes mx rt nm Q O (a :: D) h' k' n' pc' Ls (.ref a :: st)) : oGo l Z a0 EL wd p e s m args below meth c R own bytes mx rt nm Q O D h k n pc Ls st := by
  subst hp hk hn
  refine oGo.grow (P := fun h' => Exa Z h' h.size Cn ∧ ∀ {Ow f d : String} {ty : FieldType}, Laid Z a0 Cn Ow f d → parseFieldDescriptor d = some ty → Fld Z h' h.size Ow f d (defaultValue ty)) (D' := h.size :: D) (fun T locs vm0 X hT hZ hown hb hx hn hm => ?_) (fun h' q x hx => ?_) (fun h' E q => g h' _ rfl q.1.lt E q.1 q.2)
  · obtain ⟨T', h', X', e', E, A, F, -, hst⟩ := newO (s := s.setVm vm0) X hx hZ hown w wi wz hT (g := mkF m pc Ls st) rfl (by rw [hb]; exact hd) hc hl
    exact ⟨T', h', X', e', E, ⟨A, F⟩, hst⟩
  · rcases List.mem_cons.mp hx with rfl | hx
    · exact Or.inr ⟨Nat.le_refl _, q.1.lt⟩
    · exact Or.inl hx
theorem oGo.objinit {idx : Nat} {a : Addr} (hd : decode bytes pc = .ok (.invokespecial idx, 3)) (hp : pc + 3 = pc') (w1 : (Cond.methodLink own idx Lib.objectInit).before a0 Z = true) (w2 : (Cond.instanceMethod Lib.objectInit).before a0 Z = true) (w3 : (Cond.code Lib.objectInit ⟨#[0xb1]⟩ 1 none).before a0 Z = true)
    (hsz : Ls.size = mx) (hf : 1 ≤ R.frames) (hl : (st.map fun v => v.category).sum + 12 ≤ R.locals) (g : oGo l Z a0 EL wd p e s m args below meth c R own bytes mx rt nm Q O D h k n pc' Ls st) : oGo l Z a0 EL wd p e s m args below meth c R own bytes mx rt nm Q O D h k n pc Ls (.ref a :: st) := by
  subst hp; exact oGo.move (fun T locs vm0 X hT hZ hown hb hx hn hm => initO (s := s.setVm vm0) X hx hZ hown w1 w2 w3 hT (g := mkF m pc Ls (.ref a :: st)) rfl (hsz.trans hm.symm) rfl (by rw [hb]; exact hd) hf (W := (st.map fun v => v.category).sum) (by show 2 * 0 + _ ≤ _; omega) hl) g
/-! ### arrays -/
def oArr (Z : State) (h : Heap) (a : Addr) (ty : FieldType) (vs : List Value) : Prop := ∃ cl : Cell, Arr Z h a cl ty ∧ cl.slots.toList = vs ∧ vs.length < 2147483648 ∧ ∀ v ∈ vs, fits ty v = true
theorem oArr.lt {a : Addr} {ty : FieldType} {vs : List Value} (A : oArr Z h a ty vs) : a < h.size := A.elim fun _ q => q.1.lt
theorem oArr.ext {a : Addr} {ty : FieldType} {vs : List Value} {h' : Heap} (E : Ext h h') (A : oArr Z h a ty vs) : oArr Z h' a ty vs := A.elim fun cl q => ⟨cl, q.1.ext E, q.2⟩
theorem oArr.other {a b : Addr} {ty : FieldType} {vs : List Value} {h' : Heap} {sl : Nat} {w : Value} (W : Wr h h' b sl w) (A : oArr Z h a ty vs) (q : a ≠ b) : oArr Z h' a ty vs := A.elim fun cl r => ⟨cl, r.1.other W q, r.2⟩
theorem oArr.keep {a : Addr} {ty : FieldType} {vs : List Value} {h' : Heap} {ws : List Addr} (A : oArr Z h a ty vs) (K : Keep h h' ws) (q : a ∉ ws) : oArr Z h' a ty vs := A.elim fun cl r => ⟨cl, ⟨K.2.1 a cl r.1.1 q, r.1.2⟩, r.2⟩
theorem oArr.set {a : Addr} {ty : FieldType} {vs : List Value} {h' : Heap} {i : Nat} {w : Value} (W : Wr h h' a i w) (A : oArr Z h a ty vs) (hf : fits ty w = true) : oArr Z h' a ty (vs.set i w) := by
  obtain ⟨cl, h1, rfl, h3, h4⟩ := A
  refine ⟨cl.setSlot i w, h1.same W, by simp [Cell.setSlot], by simpa using h3, fun v hv => ?_⟩
  rcases List.mem_or_eq_of_mem_set hv with q | q
  · exact h4 v q
  · exact q ▸ hf
theorem own_n32 {i : Nat} (h : i < 2147483648) : (Int32.ofNat i).toNatClampNeg = i := by
  have q : i.toInt32.toInt = i := len_toInt (by omega)
  show i.toInt32.toNatClampNeg = i
  simp only [Int32.toNatClampNeg, q]; omega
theorem own_i32 {i : Nat} (h : i < 2147483648) : (Int32.ofNat i).toInt = i := len_toInt (by omega)
theorem own_nn {i : Nat} (h : i < 2147483648) : ¬ Int32.ofNat i < 0 := by
  rw [Int32.lt_iff_toInt_lt, own_i32 h]; simp
theorem own_inb {c : Cell} {vs : List Value} {i : Nat} (e : c.slots.toList = vs) (hb : vs.length < 2147483648) (hi : i < vs.length) : ¬ (Int32.ofNat i < 0 ∨ c.slots.size ≤ (Int32.ofNat i).toNatClampNeg) := by
  rw [own_n32 (by omega)]
  have : c.slots.size = vs.length := by rw [← e]; simp
  rintro (q | q)
  · exact own_nn (by omega) q
  · omega
theorem oArr.arv {a : Addr} {ty : FieldType} {vs : List Value} (A : oArr Z h a ty vs) (d : Value) : ∃ kk, Arv Z h a kk ty (Int32.ofNat vs.length) vs d := by
  obtain ⟨cl, h1, rfl, h3, h4⟩ := A
  refine ⟨cl.cls, cl, h1, rfl, by rw [own_n32 h3]; simp, own_nn h3, fun i hi => by simp [List.getD_eq_getElem?_getD, hi], fun i hi => h4 _ ?_⟩
  simp [List.getD_eq_getElem?_getD, hi]
theorem oArr.of_arv {a : Addr} {ty : FieldType} {vs : List Value} {kk : ClassId} {z : Int32} {d : Value} (A : Arv Z h a kk ty z vs d) (hl : z.toNatClampNeg = vs.length) : oArr Z h a ty vs := by
  obtain ⟨cl, h1, h2, h3, h4, h5, h6⟩ := A
  have hz := Int32.toInt_lt z
  have e : cl.slots.toList = vs := by
    apply List.ext_getElem?
    intro i
    by_cases q : i < cl.slots.size
    · have := h5 i q
      rw [← Array.getElem?_toList] at this
      rw [this]
      have q' : i < vs.length := by omega
      simp [List.getD_eq_getElem?_getD, q']
    · rw [List.getElem?_eq_none (by simpa using q), List.getElem?_eq_none (by omega)]
  refine ⟨cl, h1, e, by rw [← hl]; simp only [Int32.toNatClampNeg]; omega, fun v hv => ?_⟩
  obtain ⟨i, hi, rfl⟩ := List.getElem_of_mem hv
  have := h6 i (by omega)
  rwa [List.getD_eq_getElem?_getD, List.getElem?_eq_getElem hi] at this
theorem oGo.arraylength {a : Addr} {ty : FieldType} {vs : List Value} {z : Int32} (hd : decode bytes pc = .ok (.arraylength, 1)) (hp : pc + 1 = pc') (A : oArr Z h a ty vs) (hv : Int32.ofNat vs.length = z) (g : oGo l Z a0 EL wd p e s m args below meth c R own bytes mx rt nm Q O D h k n pc' Ls (.int z :: st)) : oGo l Z a0 EL wd p e s m args below meth c R own bytes mx rt nm Q O D h k n pc Ls (.ref a :: st) := by
  subst hp hv
  obtain ⟨cl, h1, rfl, h3, h4⟩ := A
  exact oGo.read (fun T locs vm0 X hT hZ hown hb hx hn hm t hr => X.arraylength hx (by rw [hT]; exact h1.1) (State.isArrayOf_alike (T := s.setVm vm0) hZ.alike h1.2.1) (g := mkF m pc Ls (.ref a :: st)) rfl rfl (by rw [hb]; exact hd) t (by simpa using hr)) g
theorem oGo.caload {a : Addr} {vs : List Value} {j : Int32} {i : Nat} {v : Value} (hd : decode bytes pc = .ok (.caload, 1)) (hp : pc + 1 = pc') (A : oArr Z h a .char vs) (hj : j = Int32.ofNat i) (hi : vs[i]? = some v) (g : oGo l Z a0 EL wd p e s m args below meth c R own bytes mx rt nm Q O D h k n pc' Ls (v :: st)) : oGo l Z a0 EL wd p e s m args below meth c R own bytes mx rt nm Q O D h k n pc Ls (.int j :: .ref a :: st) := by
  subst hp hj
  obtain ⟨cl, h1, rfl, h3, h4⟩ := A
  have hl : i < cl.slots.toList.length := (List.getElem?_eq_some_iff.mp hi).1
  exact oGo.read (fun T locs vm0 X hT hZ hown hb hx hn hm t hr => X.caload hx (by rw [hT]; exact h1.1) (State.isArrayOf_alike (T := s.setVm vm0) hZ.alike h1.2.1) h1.2.2 (own_inb rfl h3 hl) (by rw [own_n32 (by omega), ← Array.getElem?_toList]; exact hi) (g := mkF m pc Ls (.int (Int32.ofNat i) :: .ref a :: st)) rfl rfl (by rw [hb]; exact hd) t hr) g
theorem oGo.baload {a : Addr} {vs : List Value} {j : Int32} {i : Nat} {v : Value} (hd : decode bytes pc = .ok (.baload, 1)) (hp : pc + 1 = pc') (A : oArr Z h a .byte vs) (hj : j = Int32.ofNat i) (hi : vs[i]? = some v) (g : oGo l Z a0 EL wd p e s m args below meth c R own bytes mx rt nm Q O D h k n pc' Ls (v :: st)) : oGo l Z a0 EL wd p e s m args below meth c R own bytes mx rt nm Q O D h k n pc Ls (.int j :: .ref a :: st) := by
  subst hp hj
  obtain ⟨cl, h1, rfl, h3, h4⟩ := A
  have hl : i < cl.slots.toList.length := (List.getElem?_eq_some_iff.mp hi).1
  exact oGo.read (fun T locs vm0 X hT hZ hown hb hx hn hm t hr => X.baloadBytes hx (by rw [hT]; exact h1.1) (State.isArrayOf_alike (T := s.setVm vm0) hZ.alike h1.2.1) h1.2.2 (own_inb rfl h3 hl) (by rw [own_n32 (by omega), ← Array.getElem?_toList]; exact hi) (g := mkF m pc Ls (.int (Int32.ofNat i) :: .ref a :: st)) rfl rfl (by rw [hb]; exact hd) t hr) g
theorem oGo.laload {a : Addr} {vs : List Value} {j : Int32} {i : Nat} {v : Value} (hd : decode bytes pc = .ok (.laload, 1)) (hp : pc + 1 = pc') (A : oArr Z h a .long vs) (hj : j = Int32.ofNat i) (hi : vs[i]? = some v) (g : oGo l Z a0 EL wd p e s m args below meth c R own bytes mx rt nm Q O D h k n pc' Ls (v :: st)) : oGo l Z a0 EL wd p e s m args below meth c R own bytes mx rt nm Q O D h k n pc Ls (.int j :: .ref a :: st) := by
  subst hp hj
  obtain ⟨cl, h1, rfl, h3, h4⟩ := A
  have hl : i < cl.slots.toList.length := (List.getElem?_eq_some_iff.mp hi).1
  exact oGo.read (fun T locs vm0 X hT hZ hown hb hx hn hm t hr => X.laload hx (by rw [hT]; exact h1.1) (State.isArrayOf_alike (T := s.setVm vm0) hZ.alike h1.2.1) h1.2.2 (own_inb rfl h3 hl) (by rw [own_n32 (by omega), ← Array.getElem?_toList]; exact hi) (g := mkF m pc Ls (.int (Int32.ofNat i) :: .ref a :: st)) rfl rfl (by rw [hb]; exact hd) t hr) g
theorem oGo.iaload {a : Addr} {vs : List Value} {j : Int32} {i : Nat} {v : Value} (hd : decode bytes pc = .ok (.iaload, 1)) (hp : pc + 1 = pc') (A : oArr Z h a .int vs) (hj : j = Int32.ofNat i) (hi : vs[i]? = some v) (g : oGo l Z a0 EL wd p e s m args below meth c R own bytes mx rt nm Q O D h k n pc' Ls (v :: st)) : oGo l Z a0 EL wd p e s m args below meth c R own bytes mx rt nm Q O D h k n pc Ls (.int j :: .ref a :: st) := by
  subst hp hj
  obtain ⟨cl, h1, rfl, h3, h4⟩ := A
  have hl : i < cl.slots.toList.length := (List.getElem?_eq_some_iff.mp hi).1
  exact oGo.read (fun T locs vm0 X hT hZ hown hb hx hn hm t hr => X.iaload hx (by rw [hT]; exact h1.1) (State.isArrayOf_alike (T := s.setVm vm0) hZ.alike h1.2.1) h1.2.2 (own_inb rfl h3 hl) (by rw [own_n32 (by omega), ← Array.getElem?_toList]; exact hi) (g := mkF m pc Ls (.int (Int32.ofNat i) :: .ref a :: st)) rfl rfl (by rw [hb]; exact hd) t hr) g
theorem oGo.aaload {a : Addr} {ty : FieldType} {vs : List Value} {j : Int32} {i : Nat} {v : Value} (hd : decode bytes pc = .ok (.aaload, 1)) (hp : pc + 1 = pc') (A : oArr Z h a ty vs) (ht : ty.isReference = true) (hj : j = Int32.ofNat i) (hi : vs[i]? = some v) (g : oGo l Z a0 EL wd p e s m args below meth c R own bytes mx rt nm Q O D h k n pc' Ls (v :: st)) : oGo l Z a0 EL wd p e s m args below meth c R own bytes mx rt nm Q O D h k n pc Ls (.int j :: .ref a :: st) := by
  subst hp hj
  obtain ⟨cl, h1, rfl, h3, h4⟩ := A
  have hl : i < cl.slots.toList.length := (List.getElem?_eq_some_iff.mp hi).1
  exact oGo.read (fun T locs vm0 X hT hZ hown hb hx hn hm t hr => X.aaload hx (by rw [hT]; exact h1.1) (State.isArrayOf_alike (T := s.setVm vm0) hZ.alike h1.2.1) ht h1.2.2 (own_inb rfl h3 hl) (by rw [own_n32 (by omega), ← Array.getElem?_toList]; exact hi) (g := mkF m pc Ls (.int (Int32.ofNat i) :: .ref a :: st)) rfl rfl (by rw [hb]; exact hd) t hr) g
theorem oGo.castore {a : Addr} {vs : List Value} {j : Int32} {i : Nat} {x w : Int32} (hd : decode bytes pc = .ok (.castore, 1)) (hp : pc + 1 = pc') (A : oArr Z h a .char vs) (hj : j = Int32.ofNat i) (hi : i < vs.length) (hw : nar .char x = w) (ha : a ∈ D) (g : ∀ h', Wr h h' a i (.int w) → h'.size = h.size → oArr Z h' a .char (vs.set i (.int w)) → oGo l Z a0 EL wd p e s m args below meth c R own bytes mx rt nm Q O D h' k n pc' Ls st) : oGo l Z a0 EL wd p e s m args below meth c R own bytes mx rt nm Q O D h k n pc Ls (.int x :: .int j :: .ref a :: st) := by
  subst hp hj hw
  have A0 := A
  obtain ⟨cl, h1, rfl, h3, h4⟩ := A
  refine oGo.write (fun T locs vm0 X hT hZ hown hb hx hn hm => ?_) ha (fun h' W hs => g h' W hs (A0.set W (fits_nar_char x)))
  have q := stC (s := s.setVm vm0) X hx hZ hT h1 (own_inb rfl h3 hi) (g := mkF m pc Ls (.int x :: .int (Int32.ofNat i) :: .ref a :: st)) rfl rfl (by rw [hb]; exact hd)
  rw [own_n32 (by omega)] at q
  exact q
theorem oGo.bastore {a : Addr} {vs : List Value} {j : Int32} {i : Nat} {x w : Int32} (hd : decode bytes pc = .ok (.bastore, 1)) (hp : pc + 1 = pc') (A : oArr Z h a .byte vs) (hj : j = Int32.ofNat i) (hi : i < vs.length) (hw : nar .byte x = w) (ha : a ∈ D) (g : ∀ h', Wr h h' a i (.int w) → h'.size = h.size → oArr Z h' a .byte (vs.set i (.int w)) → oGo l Z a0 EL wd p e s m args below meth c R own bytes mx rt nm Q O D h' k n pc' Ls st) : oGo l Z a0 EL wd p e s m args below meth c R own bytes mx rt nm Q O D h k n pc Ls (.int x :: .int j :: .ref a :: st) := by
  subst hp hj hw
  have A0 := A
  obtain ⟨cl, h1, rfl, h3, h4⟩ := A
  refine oGo.write (fun T locs vm0 X hT hZ hown hb hx hn hm => ?_) ha (fun h' W hs => g h' W hs (A0.set W (fits_nar_byte x)))
  have q := stB (s := s.setVm vm0) X hx hZ hT h1 (own_inb rfl h3 hi) (g := mkF m pc Ls (.int x :: .int (Int32.ofNat i) :: .ref a :: st)) rfl rfl (by rw [hb]; exact hd)
  rw [own_n32 (by omega)] at q
  exact q
theorem oGo.iastore {a : Addr} {vs : List Value} {j : Int32} {i : Nat} {x w : Int32} (hd : decode bytes pc = .ok (.iastore, 1)) (hp : pc + 1 = pc') (A : oArr Z h a .int vs) (hj : j = Int32.ofNat i) (hi : i < vs.length) (hw : x = w) (ha : a ∈ D) (g : ∀ h', Wr h h' a i (.int w) → h'.size = h.size → oArr Z h' a .int (vs.set i (.int w)) → oGo l Z a0 EL wd p e s m args below meth c R own bytes mx rt nm Q O D h' k n pc' Ls st) : oGo l Z a0 EL wd p e s m args below meth c R own bytes mx rt nm Q O D h k n pc Ls (.int x :: .int j :: .ref a :: st) := by
  subst hp hj hw
  have A0 := A
  obtain ⟨cl, h1, rfl, h3, h4⟩ := A
  refine oGo.write (fun T locs vm0 X hT hZ hown hb hx hn hm => ?_) ha (fun h' W hs => g h' W hs (A0.set W (rfl)))
  have q := stI (s := s.setVm vm0) X hx hZ hT h1 (own_inb rfl h3 hi) (g := mkF m pc Ls (.int x :: .int (Int32.ofNat i) :: .ref a :: st)) rfl rfl (by rw [hb]; exact hd)
  rw [own_n32 (by omega)] at q
  exact q
theorem oGo.lastore {a : Addr} {vs : List Value} {j : Int32} {i : Nat} {x w : Int64} (hd : decode bytes pc = .ok (.lastore, 1)) (hp : pc + 1 = pc') (A : oArr Z h a .long vs) (hj : j = Int32.ofNat i) (hi : i < vs.length) (hw : x = w) (ha : a ∈ D) (g : ∀ h', Wr h h' a i (.long w) → h'.size = h.size → oArr Z h' a .long (vs.set i (.long w)) → oGo l Z a0 EL wd p e s m args below meth c R own bytes mx rt nm Q O D h' k n pc' Ls st) : oGo l Z a0 EL wd p e s m args below meth c R own bytes mx rt nm Q O D h k n pc Ls (.long x :: .int j :: .ref a :: st) := by
  subst hp hj hw
  have A0 := A
  obtain ⟨cl, h1, rfl, h3, h4⟩ := A
  refine oGo.write (fun T locs vm0 X hT hZ hown hb hx hn hm => ?_) ha (fun h' W hs => g h' W hs (A0.set W (rfl)))
  have q := stJ (s := s.setVm vm0) X hx hZ hT h1 (own_inb rfl h3 hi) (g := mkF m pc Ls (.long x :: .int (Int32.ofNat i) :: .ref a :: st)) rfl rfl (by rw [hb]; exact hd)
  rw [own_n32 (by omega)] at q
  exact q
theorem oGo.newarray {aty : ArrayType} {z : Int32} {i : Nat} {k' n' : Nat} (hd : decode bytes pc = .ok (.newarray aty, 2)) (hp : pc + 2 = pc') (w : (Cond.arrayClass (newarray.typeOf aty)).before a0 Z = true) (hz : z = Int32.ofNat i) (cap : Nat) (hi : i ≤ cap) (hcap : cap * 8 ≤ 536870912) (hk : k + 1 = k') (hn : n + cap = n') (hc : k' ≤ R.cells) (hl : n' ≤ R.slots) (hfd : fits (newarray.typeOf aty) (defaultValue (newarray.typeOf aty)) = true)
    (g : ∀ (h' : Heap) (a : Nat), a = h.size → a < h'.size → Ext h h' → oArr Z h' a (newarray.typeOf aty) (List.replicate i (defaultValue (newarray.typeOf aty))) → oGo l Z a0 EL wd p e s m args below meth c R own bytes mx rt nm Q O (a :: D) h' k' n' pc' Ls (.ref a :: st)) : oGo l Z a0 EL wd p e s m args below meth c R own bytes mx rt nm Q O D h k n pc Ls (.int z :: st) := by
  subst hp hk hn hz
  have hb31 : i < 2147483648 := by omega
  refine oGo.grow (P := fun h' => oArr Z h' h.size (newarray.typeOf aty) (List.replicate i (defaultValue (newarray.typeOf aty)))) (D' := h.size :: D) (fun T locs vm0 X hT hZ hown hb hx hn hm => ?_) (fun h' q x hx => ?_) (fun h' E q => g h' _ rfl q.lt E q)
  · obtain ⟨T', h', cA, X', e', E, A, hst⟩ := newP (s := s.setVm vm0) X hx hZ w hT (g := mkF m pc Ls (.int (Int32.ofNat i) :: st)) rfl (by rw [hb]; exact hd) rfl (own_nn hb31) (cap := cap) (by rw [own_n32 hb31]; exact hi) hcap hc hl
    refine ⟨T', h', X', e', E, ⟨_, A, ?_, by simpa using hb31, fun v hv => ?_⟩, hst⟩
    · simp [newA, own_n32 hb31]
    · rw [(List.mem_replicate.mp hv).2]; exact hfd
  · rcases List.mem_cons.mp hx with rfl | hx
    · exact Or.inr ⟨Nat.le_refl _, q.lt⟩
    · exact Or.inl hx
/-! ### calls -/
theorem oCtr.back {y : MethodName} {b' : ByteArray} {mx' : Nat} {rt' : Option FieldType} {rm : Room} {len W : Nat} {as' : Array Value} {Q' : Option Value → Heap → Prop} {O' : Option Value → Heap → Addr → Prop} {D' : List Addr} {vm0 : Vm}
    (hM : oCtr [] l Z a0 EL wd y b' mx' rt' rm as' D' h Q' O') (hZ : Z.Warmed39 vm0) (wc : (Cond.code y b' mx' rt').before a0 Z = true) (wz : (Cond.initialized y.cls).before a0 Z = true) (hf : rm.frames + 1 ≤ R.frames) (hl : W + (mx' + 11) + rm.locals ≤ R.locals) (hEL : EW Z a0 EL) (hO : Ext Z.heap h) (H : CHv Z EL vm0 h) (hD : oDok Z EL vm0 h D') :
    BackS l R p e below (s.setVm vm0) args y len W (fun A a => a = as' ∧ A.U.heap = h ∧ A.cells + rm.cells ≤ R.cells ∧ A.slots + rm.slots ≤ R.slots)
      (fun A _ v B => ∃ L, (Q' v B.U.heap ∧ ∀ x, O' v B.U.heap x → Z.heap.size ≤ x ∧ x < B.U.heap.size ∧ Safe Z EL B.U.vm B.U.heap x) ∧ Fr Z.heap.size L ∧ Ext Z.heap B.U.heap ∧ B.locs = A.locs ++ L ∧ B.cells = A.cells + rm.cells ∧ B.slots = A.slots + rm.slots ∧ CHr Z EL vm0 h B.U.vm B.U.heap ∧ (wd ∨ A.U.WarmedH B.U.vm)) :=
  BackS.of_freeW (bytes := b') (maxL := mx') (ret := rt') (E := fun _ first o t L k n => k = rm.cells ∧ n = rm.slots ∧ (∃ v, o = .returned v ∧ Q' v t.heap ∧ ∀ x, O' v t.heap x → Z.heap.size ≤ x ∧ x < t.heap.size ∧ Safe Z EL t.vm t.heap x) ∧ Fr Z.heap.size L ∧ Ext Z.heap t.heap ∧ CHr Z EL first.vm first.heap t.vm t.heap ∧ (wd ∨ first.WarmedH t.vm)) hM hf hl
    (fun m meth c A a Y hp => have hU : Z.Warmed39 A.U.vm := wtrans (s := s.setVm vm0) hZ Y.warmed
      ⟨by show (Cond.and _ .tt).before a A.U = true; rw [Cond.before_and, mv hU wc]; rfl, mv hU wc, mv hU wz, hp.2.2.1, hp.2.2.2⟩)
    (fun m meth c A a g mk Y hp => ⟨hp.1, wtrans (s := s.setVm vm0) hZ Y.warmed, hp.2.1, hO, (CHv.at (T := A.U) Y hZ hEL H).1, hD.chr (CHv.at (T := A.U) Y hZ hEL H)⟩) (fun _ _ _ _ _ _ _ _ _ => trivial)
    (fun _ _ _ _ ⟨v, L, h1, h2, h3, h4, h5, h6, h7⟩ => ⟨L, _, _, h7, rfl, rfl, ⟨v, h1, h2⟩, h3, h4, h5, h6⟩)
    (fun m meth c A a g mk v t L k n Y hp _ _ ⟨e1, e2, ⟨v', e3, e4⟩, e5, e6, e7, e8⟩ => by
      cases e3; subst e1 e2
      refine ⟨L, e4, e5, e6, rfl, rfl, rfl, (CHv.at Y hZ hEL H).trans ?_, e8⟩
      rw [← hp.2.1]; exact e7)
theorem oGo.after {T : State} {locs : List Loc} {vm0 : Vm} {k0 : Nat} {rm : Room} {k' n' : Nat} {Q' : Option Value → Heap → Prop} {O' : Option Value → Heap → Addr → Prop} {rest : List Value} {as' : Array Value}
    (I : oInv l Z a0 EL wd p e s m args below meth c R own bytes mx rt nm D h k n T locs vm0 k0) (hk : k + rm.cells = k') (hn : n + rm.slots = n')
    (X : ∃ (v : Option Value) (vm₁ : Vm) (B : Pt), (s.setVm vm0).WarmedH vm₁ ∧ Stand p l e R ((s.setVm vm0).setVm B.U.vm) m args below meth c B.U B.locs B.cells B.slots ∧ (s.setVm vm0).Since B.U.vm B.U.heap.size ∧ T.heap.size ≤ B.U.heap.size ∧
      (fun (A : Pt) (_ : Array Value) (v : Option Value) (B : Pt) => ∃ L, (Q' v B.U.heap ∧ ∀ x, O' v B.U.heap x → Z.heap.size ≤ x ∧ x < B.U.heap.size ∧ Safe Z EL B.U.vm B.U.heap x) ∧ Fr Z.heap.size L ∧ Ext Z.heap B.U.heap ∧ B.locs = A.locs ++ L ∧ B.cells = A.cells + rm.cells ∧ B.slots = A.slots + rm.slots ∧ CHr Z EL vm0 h B.U.vm B.U.heap ∧ (wd ∨ A.U.WarmedH B.U.vm)) ⟨T.setVm vm₁, locs, k, n⟩ as' v B ∧
      Steps p.tables e below (T.setTop (mkF m pc Ls st)) (B.U.setTop (mkF m pc' Ls (v.toList ++ rest))))
    (g : ∀ v h', h.size ≤ h'.size → Q' v h' → ∃ D2 : List Addr, (∀ x ∈ D2, x ∈ D ∨ O' v h' x) ∧ oGo l Z a0 EL wd p e s m args below meth c R own bytes mx rt nm Q O D2 h' k' n' pc' Ls (v.toList ++ rest)) : oRes Z EL wd p e s below R Q O (T.setTop (mkF m pc Ls st)) := by
  subst hk hn
  obtain ⟨⟨hx, hb, hm, hr, hl, hn, hE⟩, hT, hO, hF, X0, hS, hk, hZ, hown, hC, hwd, hDk⟩ := I
  obtain ⟨v, vm₁, ⟨U, Lb, kb, nb⟩, hW1, XB, hSB, hsz, ⟨L, ⟨hq, hOq⟩, hFL, hOB, e1, e2, e3, hCB, hwB⟩, hst⟩ := X
  dsimp only [Pt.U, Pt.locs, Pt.cells, Pt.slots] at *
  subst e1 e2 e3
  rw [hT] at hsz
  obtain ⟨X', hS', hZ', hown'⟩ := rebS hS hk XB hSB hsz hZ hown
  have hwd' : wd ∨ s.WarmedH U.vm := by
    rcases hwd with q | q
    · exact Or.inl q
    · rcases hwB with r | r
      · exact Or.inl r
      · exact Or.inr (State.WarmedH.trans (t := s.setVm vm0) q (State.WarmedH.trans (s := s.setVm vm0) (t := T.setVm vm₁) hW1 r))
  obtain ⟨D2, hD2, g2⟩ := g v U.heap hsz hq
  have hDk2 : oDok Z EL U.vm U.heap D2 := fun x hx' => (hD2 x hx').elim (fun q => hDk.chr hCB x q) (fun q => hOq x q)
  obtain ⟨V, v', L', hs, r⟩ := g2 U (locs ++ L) U.vm U.heap.size ⟨⟨hx, hb, hm, hr, hl, hn, hE⟩, rfl, hOB, hF.app hFL, X', hS', Nat.le_refl _, hZ', hown', hC.trans hCB, hwd', hDk2⟩
  exact ⟨V, v', L', hst.trans hs, r⟩
theorem oGo.invokestatic {idx : Nat} {y : MethodName} {b' : ByteArray} {mx' : Nat} {rt' rs : Option FieldType} {ps : List FieldType} {rm : Room} {D' : List Addr} {Q' : Option Value → Heap → Prop} {O' : Option Value → Heap → Addr → Prop} {k' n' : Nat} {argsL rest : List Value}
    (hd : decode bytes pc = .ok (.invokestatic idx, 3)) (hp : pc + 3 = pc') (w1 : (Cond.methodLink own idx y).before a0 Z = true) (w2 : (Cond.static y).before a0 Z = true) (w3 : (Cond.initialized y.cls).before a0 Z = true) (w4 : (Cond.code y b' mx' rt').before a0 Z = true)
    (hy : y.cls ≠ "java/lang/invoke/MethodHandle" ∧ y.cls ≠ "java/lang/invoke/VarHandle") (pd : parseMethodDescriptor y.desc = some ⟨ps, rs⟩) (hll : argsL.length = ps.length) (hst : st = argsL.reverse ++ rest) (hsz : Ls.size = mx)
    (hM : oCtr [] l Z a0 EL wd y b' mx' rt' rm argsL.toArray D' h Q' O') (hD : ∀ x ∈ D', x ∈ D) (hf : rm.frames + 1 ≤ R.frames) (hl : (rest.map fun v => v.category).sum + (mx' + 11) + rm.locals ≤ R.locals) (hk : k + rm.cells = k') (hn : n + rm.slots = n') (hc : k' ≤ R.cells) (hs : n' ≤ R.slots)
    (g : ∀ v h', h.size ≤ h'.size → Q' v h' → ∃ D2 : List Addr, (∀ x ∈ D2, x ∈ D ∨ O' v h' x) ∧ oGo l Z a0 EL wd p e s m args below meth c R own bytes mx rt nm Q O D2 h' k' n' pc' Ls (v.toList ++ rest)) : oGo l Z a0 EL wd p e s m args below meth c R own bytes mx rt nm Q O D h k n pc Ls st := by
  subst hp hst
  intro T locs vm0 k0 I
  have I0 := I
  obtain ⟨⟨hx, hb, hm, hr, hlk, hnm, hE⟩, hT, hO, hF, X, hS, hk0, hZ, hown, hC, hwd, hDk⟩ := I
  refine oGo.after I0 hk hn (as' := argsL.toArray) (rest := rest) (callSS (s := s.setVm vm0) X hx hown (mvT (s := s.setVm vm0) hZ w1) (mvT (s := s.setVm vm0) hZ w2) (mvT (s := s.setVm vm0) hZ w3) (mvT (s := s.setVm vm0) hZ w4) hy
    (oCtr.back (W := (rest.map fun v => v.category).sum) hM hZ w4 w3 hf hl hE hO hC.1 (hDk.sub hD)) (g := mkF m pc Ls (argsL.reverse ++ rest)) rfl (hsz.trans hm.symm) (lenOf pd hll) rfl (by show 2 * 0 + _ ≤ _; omega) (by rw [hb]; exact hd) (fun _ _ => ⟨rfl, hT, by show k + _ ≤ _; omega, by show n + _ ≤ _; omega⟩)) g
theorem oGo.invokespecial {idx : Nat} {y : MethodName} {b' : ByteArray} {mx' : Nat} {rs : Option FieldType} {ps : List FieldType} {rm : Room} {D' : List Addr} {Q' : Option Value → Heap → Prop} {O' : Option Value → Heap → Addr → Prop} {k' n' : Nat} {a : Addr} {argsL rest : List Value}
    (hd : decode bytes pc = .ok (.invokespecial idx, 3)) (hp : pc + 3 = pc') (hi : y.name = "<init>") (w1 : (Cond.methodLink own idx y).before a0 Z = true) (w2 : (Cond.instanceMethod y).before a0 Z = true) (w3 : (Cond.initialized y.cls).before a0 Z = true) (w4 : (Cond.code y b' mx' none).before a0 Z = true)
    (hy : y.cls ≠ "java/lang/invoke/MethodHandle" ∧ y.cls ≠ "java/lang/invoke/VarHandle") (pd : parseMethodDescriptor y.desc = some ⟨ps, rs⟩) (hll : argsL.length = ps.length) (hst : st = argsL.reverse ++ .ref a :: rest) (hsz : Ls.size = mx)
    (hM : oCtr [] l Z a0 EL wd y b' mx' none rm (.ref a :: argsL).toArray D' h Q' O') (hD : ∀ x ∈ D', x ∈ D) (hf : rm.frames + 1 ≤ R.frames) (hl : (rest.map fun v => v.category).sum + (mx' + 11) + rm.locals ≤ R.locals) (hk : k + rm.cells = k') (hn : n + rm.slots = n') (hc : k' ≤ R.cells) (hs : n' ≤ R.slots)
    (g : ∀ v h', h.size ≤ h'.size → Q' v h' → ∃ D2 : List Addr, (∀ x ∈ D2, x ∈ D ∨ O' v h' x) ∧ oGo l Z a0 EL wd p e s m args below meth c R own bytes mx rt nm Q O D2 h' k' n' pc' Ls (v.toList ++ rest)) : oGo l Z a0 EL wd p e s m args below meth c R own bytes mx rt nm Q O D h k n pc Ls st := by
  subst hp hst
  intro T locs vm0 k0 I
  have I0 := I
  obtain ⟨⟨hx, hb, hm, hr, hlk, hnm, hE⟩, hT, hO, hF, X, hS, hk0, hZ, hown, hC, hwd, hDk⟩ := I
  refine oGo.after I0 hk hn (as' := (.ref a :: argsL).toArray) (rest := rest) (X.specialBackS hx hi hown (mvT (s := s.setVm vm0) hZ w1) (mvT (s := s.setVm vm0) hZ w2) (mvT (s := s.setVm vm0) hZ w4) hy
    (oCtr.back (W := (rest.map fun v => v.category).sum) hM hZ w4 w3 hf hl hE hO hC.1 (hDk.sub hD)) (g := mkF m pc Ls (argsL.reverse ++ .ref a :: rest)) rfl (hsz.trans hm.symm) (Steps.refl _) (lenOf pd hll) rfl (by show 2 * 0 + _ ≤ _; omega) (by rw [hb]; exact hd) (fun _ _ => ⟨rfl, hT, by show k + _ ≤ _; omega, by show n + _ ≤ _; omega⟩)) g
theorem oGo.invokevirtual {idx : Nat} {y : MethodName} {Cn : String} {b' : ByteArray} {mx' : Nat} {rt' rs : Option FieldType} {ps : List FieldType} {rm : Room} {D' : List Addr} {Q' : Option Value → Heap → Prop} {O' : Option Value → Heap → Addr → Prop} {k' n' : Nat} {a : Addr} {argsL rest : List Value}
    (hd : decode bytes pc = .ok (.invokevirtual idx, 3)) (hp : pc + 3 = pc') (w1 : (Cond.methodLink own idx y).before a0 Z = true) (w2 : (Cond.declares y).before a0 Z = true) (w5 : (Cond.selects Cn y y).before a0 Z = true) (w6 : (Cond.instanceMethod y).before a0 Z = true) (w3 : (Cond.initialized y.cls).before a0 Z = true) (w4 : (Cond.code y b' mx' rt').before a0 Z = true)
    (hy : y.cls ≠ "java/lang/invoke/MethodHandle" ∧ y.cls ≠ "java/lang/invoke/VarHandle") (pd : parseMethodDescriptor y.desc = some ⟨ps, rs⟩) (hll : argsL.length = ps.length) (hst : st = argsL.reverse ++ .ref a :: rest) (hsz : Ls.size = mx) (E : Exa Z h a Cn)
    (hM : oCtr [] l Z a0 EL wd y b' mx' rt' rm (.ref a :: argsL).toArray D' h Q' O') (hD : ∀ x ∈ D', x ∈ D) (hf : rm.frames + 1 ≤ R.frames) (hl : (rest.map fun v => v.category).sum + (mx' + 11) + rm.locals ≤ R.locals) (hk : k + rm.cells = k') (hn : n + rm.slots = n') (hc : k' ≤ R.cells) (hs : n' ≤ R.slots)
    (g : ∀ v h', h.size ≤ h'.size → Q' v h' → ∃ D2 : List Addr, (∀ x ∈ D2, x ∈ D ∨ O' v h' x) ∧ oGo l Z a0 EL wd p e s m args below meth c R own bytes mx rt nm Q O D2 h' k' n' pc' Ls (v.toList ++ rest)) : oGo l Z a0 EL wd p e s m args below meth c R own bytes mx rt nm Q O D h k n pc Ls st := by
  subst hp hst
  intro T locs vm0 k0 I
  have I0 := I
  obtain ⟨⟨hx, hb, hm, hr, hlk, hnm, hE⟩, hT, hO, hF, X, hS, hk0, hZ, hown, hC, hwd, hDk⟩ := I
  obtain ⟨cq, kq, q1, q2, q3⟩ := isOf (s := s.setVm vm0) (T := T) hZ hT E
  refine oGo.after I0 hk hn (as' := (.ref a :: argsL).toArray) (rest := rest) (X.virtualBackS hx hown (mvT (s := s.setVm vm0) hZ w1) (mvT (s := s.setVm vm0) hZ w2) (notFace_of_selects (args := #[]) (mvT (s := s.setVm vm0) hZ w5)) (mvT (s := s.setVm vm0) hZ w5) (mvT (s := s.setVm vm0) hZ w6) hy
    (oCtr.back (W := (rest.map fun v => v.category).sum) hM hZ w4 w3 hf hl hE hO hC.1 (hDk.sub hD)) q1 q3 (g := mkF m pc Ls (argsL.reverse ++ .ref a :: rest)) rfl (hsz.trans hm.symm) (Steps.refl _) (lenOf pd hll) rfl (by show 2 * 0 + _ ≤ _; omega) (by rw [hb]; exact hd) (fun _ _ => ⟨rfl, hT, by show k + _ ≤ _; omega, by show n + _ ≤ _; omega⟩)) g
/-! ### the end -/
theorem oGo.leave {T : State} {locs : List Loc} {vm0 : Vm} {k0 : Nat} {v : Option Value} (I : oInv l Z a0 EL wd p e s m args below meth c R own bytes mx rt nm D h k n T locs vm0 k0) (hk : k ≤ R.cells) (hn : n ≤ R.slots) (hv : rt = none → v = none) (hq : Q v h) (hOx : ∀ x, O v h x → x ∈ D)
    (hst : ∀ fs, (∀ (f : JFrame) (acts : List Action), f.method = m → f.locked = none → f.entered = [] → (doReturn e (T.setTop f) acts v).1 = T.setFrames fs) → Steps p.tables e below (T.setTop (mkF m pc Ls st)) (T.setFrames fs)) : oRes Z EL wd p e s below R Q O (T.setTop (mkF m pc Ls st)) := by
  obtain ⟨⟨hx, hb, hm, hr, hl, hnm, hE⟩, hT, hO, hF, X, hS, hk0, hZ, hown, hC, hwd, hDk⟩ := I
  obtain ⟨fs, h1, h2, h3, h4⟩ := X.leaveW hS (by rw [hT]; exact hk0) (v := v) (by rw [hr]; exact hv) hl
  have hW : (s.setVm vm0).WarmedH T.vm := X.warmed
  refine ⟨T.setFrames fs, v, locs, hst fs h1, h2, h3, ⟨by show Q v T.heap; rw [hT]; exact hq, fun x qx => ?_⟩, hF, by show Ext Z.heap T.heap; rw [hT]; exact hO, ?_, ?_, h4.1, h4.2.1, h4.2.2.1, h4.2.2.2.mono hk hn⟩
  · have qx' : O v h x := by rw [← hT]; exact qx
    show Z.heap.size ≤ x ∧ x < T.heap.size ∧ Safe Z EL T.vm T.heap x
    rw [hT]; exact hDk.chr (CHv.at X hZ hE hC.1) x (hOx x qx')
  · show CHr Z EL s.vm s.heap T.vm T.heap
    rw [hT]; exact hC.trans (CHv.at X hZ hE hC.1)
  · exact hwd.imp id fun q => State.WarmedH.trans (t := s.setVm vm0) q hW
theorem oGo.ireturn {z : Int32} (hd : decode bytes pc = .ok (.ireturn, 1)) (hr : rt = some .int) (hk : k ≤ R.cells) (hn : n ≤ R.slots) (hq : Q (some (.int z)) h) (hOx : ∀ x, O (some (.int z)) h x → x ∈ D) : oGo l Z a0 EL wd p e s m args below meth c R own bytes mx rt nm Q O D h k n pc Ls (.int z :: st) := fun T locs vm0 k0 I =>
  oGo.leave I hk hn (fun q => by rw [hr] at q; cases q) hq hOx fun fs hfs => retOut I.2.2.2.2.1 I.1.1 (by rw [I.1.2.2.2.1]; exact hr) rfl (Or.inl ⟨rfl, Or.inl rfl, z, rfl⟩) (by rw [I.1.2.1]; exact hd) hfs
theorem oGo.nreturn {z w : Int32} {t : FieldType} (hd : decode bytes pc = .ok (.ireturn, 1)) (hr : rt = some t) (ht : t = .boolean ∨ t = .byte ∨ t = .char ∨ t = .short) (hw : nar t z = w) (hk : k ≤ R.cells) (hn : n ≤ R.slots) (hq : Q (some (.int w)) h) (hOx : ∀ x, O (some (.int w)) h x → x ∈ D) : oGo l Z a0 EL wd p e s m args below meth c R own bytes mx rt nm Q O D h k n pc Ls (.int z :: st) := fun T locs vm0 k0 I =>
  oGo.leave I hk hn (fun q => by rw [hr] at q; cases q) hq hOx fun fs hfs => retN I.2.2.2.2.1 I.1.1 (by rw [I.1.2.2.2.1]; exact hr) ht (by rw [I.1.2.1]; exact hd) (by rw [hw]; exact hfs)
theorem oGo.lreturn {z : Int64} (hd : decode bytes pc = .ok (.lreturn, 1)) (hr : rt = some .long) (hk : k ≤ R.cells) (hn : n ≤ R.slots) (hq : Q (some (.long z)) h) (hOx : ∀ x, O (some (.long z)) h x → x ∈ D) : oGo l Z a0 EL wd p e s m args below meth c R own bytes mx rt nm Q O D h k n pc Ls (.long z :: st) := fun T locs vm0 k0 I =>
  oGo.leave I hk hn (fun q => by rw [hr] at q; cases q) hq hOx fun fs hfs => retOut I.2.2.2.2.1 I.1.1 (by rw [I.1.2.2.2.1]; exact hr) rfl (Or.inr (Or.inl ⟨rfl, rfl, z, rfl⟩)) (by rw [I.1.2.1]; exact hd) hfs
theorem oGo.areturn {v : Value} {t : FieldType} (hd : decode bytes pc = .ok (.areturn, 1)) (hr : rt = some t) (ht : t.isReference = true) (hv : v.isRef = true) (hw : narrow t v = v) (hk : k ≤ R.cells) (hn : n ≤ R.slots) (hq : Q (some v) h) (hOx : ∀ x, O (some v) h x → x ∈ D) : oGo l Z a0 EL wd p e s m args below meth c R own bytes mx rt nm Q O D h k n pc Ls (v :: st) := fun T locs vm0 k0 I =>
  oGo.leave I hk hn (fun q => by rw [hr] at q; cases q) hq hOx fun fs hfs => retOut I.2.2.2.2.1 I.1.1 (by rw [I.1.2.2.2.1]; exact hr) hw (Or.inr (Or.inr (Or.inr (Or.inr ⟨rfl, ht, hv⟩)))) (by rw [I.1.2.1]; exact hd) hfs
theorem oGo.return_ (hd : decode bytes pc = .ok (.return_, 1)) (hr : rt = none) (hk : k ≤ R.cells) (hn : n ≤ R.slots) (hq : Q none h) (hOx : ∀ x, O none h x → x ∈ D) : oGo l Z a0 EL wd p e s m args below meth c R own bytes mx rt nm Q O D h k n pc Ls [] := fun T locs vm0 k0 I =>
  oGo.leave I hk hn (fun _ => rfl) hq hOx fun fs hfs => I.2.2.2.2.1.returnOut I.1.1 (by rw [I.1.2.2.2.1]; exact hr) (by rw [I.1.2.1]; exact hd) hfs
end Logic
/-! ### addresses are natural numbers -/
theorem own_ne {a b : Nat} (h : a ≠ b) : a ≠ b := h
theorem own_ltN {a n : Nat} (h : a < n) : a < n := h
theorem own_leN {a n : Nat} (h : a ≤ n) : a ≤ n := h
theorem own_nin1 {a b : Nat} (h : a ≠ b) : a ∉ [b] := by simpa using h
theorem own_nin2 {a b c : Nat} (h : a ≠ b) (h2 : a ≠ c) : a ∉ [b, c] := by simp [h, h2]
theorem own_new1 {a n : Nat} {ws : List Nat} (h : n ≤ a) : ∀ x ∈ [a], x ∈ ws ∨ n ≤ x := fun x hx => Or.inr (by rw [List.mem_singleton.mp hx]; exact h)
theorem own_new2 {a b n : Nat} {ws : List Nat} (h : n ≤ a) (h2 : n ≤ b) : ∀ x ∈ [a, b], x ∈ ws ∨ n ≤ x := fun x hx => Or.inr (by rcases List.mem_cons.mp hx with rfl | hx; exact h; rw [List.mem_singleton.mp hx]; exact h2)
/-! ### numbers and texts -/
abbrev oI (xs : List Int32) : List Value := xs.map Value.int
def lo8 (x : Int32) : Int32 := x.toInt8.toInt32
def hi8 (x : Int32) : Int32 := lo8 (x >>> ((8 : Int32) &&& 31))
def wide2 (cs : List Int32) : List Int32 := cs.flatMap fun c => [lo8 c, hi8 c]
theorem lo8_idem (x : Int32) : nar .byte (lo8 x) = lo8 x := by
  show (x.toInt8.toInt32).toInt8.toInt32 = x.toInt8.toInt32
  rw [Int8.toInt8_toInt32]
theorem own_succ (i : Nat) : Int32.ofNat i + 1 = Int32.ofNat (i + 1) := by
  rw [Int32.ofNat_add]; rfl
theorem own_lt {a b : Nat} (ha : a < 2147483648) (hb : b < 2147483648) : Int32.ofNat a < Int32.ofNat b ↔ a < b := by
  rw [Int32.lt_iff_toInt_lt, own_i32 ha, own_i32 hb]; omega
theorem own_eq {a b : Nat} (ha : a < 2147483648) (hb : b < 2147483648) : Int32.ofNat a = Int32.ofNat b ↔ a = b := by
  rw [← Int32.toInt_inj, own_i32 ha, own_i32 hb]; omega
theorem own_shl1 (i : Nat) : Int32.ofNat i <<< ((1 : Int32) &&& 31) = Int32.ofNat (2 * i) := by
  rw [shlm (m := 2) (by decide), Nat.mul_comm, Int32.ofNat_mul]; rfl
theorem own_ge0 {x : Int32} : ¬ x < 0 ↔ 0 ≤ x.toInt := by rw [Int32.lt_iff_toInt_lt]; simp
theorem own_le {x : Int32} {n : Int32} : ¬ n < x ↔ x.toInt ≤ n.toInt := by rw [Int32.lt_iff_toInt_lt]; omega
/-- an int between two bounds, as a natural number -/
theorem own_nat {x : Int32} {N : Nat} (h0 : 0 ≤ x.toInt) (h1 : x.toInt < N) : ∃ i : Nat, i < N ∧ x = Int32.ofNat i := by
  refine ⟨x.toInt.toNat, by omega, ?_⟩
  apply Int32.toInt_inj.mp
  have := Int32.toInt_lt x
  rw [own_i32 (by omega)]; omega
theorem own_char {x : Int32} (h : fits .char (.int x) = true) : ¬ x < 0 ∧ ¬ 65535 < x := rng_char h
theorem own_take_set {α : Type} (xs : List α) (i : Nat) (v : α) (h : i < xs.length) : (xs.set i v).take (i + 1) = xs.take i ++ [v] := by
  rw [List.take_set, List.take_add_one, List.set_append_right _ _ (by simp; omega)]
  simp [h, Nat.min_eq_left (Nat.le_of_lt h)]
theorem own_take_succ {α : Type} (xs : List α) (i : Nat) (v : α) (h : xs[i]? = some v) : xs.take (i + 1) = xs.take i ++ [v] := by
  rw [List.take_add_one, h]; rfl
theorem wide2_len (cs : List Int32) : (wide2 cs).length = 2 * cs.length := by
  induction cs with
  | nil => rfl
  | cons c cs ih => simp only [wide2, List.flatMap_cons, List.length_append, List.length_cons, List.length_nil] at ih ⊢; rw [ih]; omega
theorem wide2_get (cs : List Int32) : ∀ (i : Nat) (c : Int32), cs[i]? = some c → (wide2 cs)[2 * i]? = some (lo8 c) ∧ (wide2 cs)[2 * i + 1]? = some (hi8 c) := by
  induction cs with
  | nil => intro i c h; simp at h
  | cons a cs ih =>
    intro i c h
    cases i with
    | zero => simp at h; subst h; exact ⟨rfl, rfl⟩
    | succ i =>
      have := ih i c (by simpa using h)
      have e : wide2 (a :: cs) = lo8 a :: hi8 a :: wide2 cs := rfl
      rw [e, show 2 * (i + 1) = 2 * i + 1 + 1 by omega]
      simpa using this
theorem wide2_lo (cs : List Int32) (i : Nat) (c : Int32) (h : cs[i]? = some c) : (oI (wide2 cs))[2 * i]? = some (.int (lo8 c)) := by rw [List.getElem?_map, (wide2_get cs i c h).1]; rfl
theorem wide2_hi (cs : List Int32) (i : Nat) (c : Int32) (h : cs[i]? = some c) : (oI (wide2 cs))[2 * i + 1]? = some (.int (hi8 c)) := by rw [List.getElem?_map, (wide2_get cs i c h).2]; rfl
theorem wide2_step (cs : List Int32) (vs : List Value) (i : Nat) (c : Int32) (h : cs[i]? = some c) (hv : 2 * i + 1 < vs.length) (ht : vs.take (2 * i) = (oI (wide2 cs)).take (2 * i)) :
    ((vs.set (2 * i) (.int (lo8 c))).set (2 * i + 1) (.int (hi8 c))).take (2 * (i + 1)) = (oI (wide2 cs)).take (2 * (i + 1)) := by
  rw [show 2 * (i + 1) = 2 * i + 1 + 1 by omega, own_take_set _ _ _ (by simpa using hv), own_take_set _ _ _ (by omega), ht, own_take_succ _ _ _ (wide2_hi cs i c h), own_take_succ _ _ _ (wide2_lo cs i c h)]
def oStr (Z : State) (h : Heap) (x t : Addr) (cs : List Int32) : Prop := Exa Z h x "java/lang/String" ∧ Fld Z h x "java/lang/String" "value" "[B" (.ref t) ∧
  ((Fld Z h x "java/lang/String" "coder" "B" (.int 0) ∧ oArr Z h t .byte (oI (cs.map lo8)) ∧ ∀ c ∈ cs, ¬ 255 < c) ∨ (Fld Z h x "java/lang/String" "coder" "B" (.int 1) ∧ oArr Z h t .byte (oI (wide2 cs)))) ∧ ∀ c ∈ cs, ¬ c < 0 ∧ ¬ 65535 < c
theorem shr0 (c : Int32) : c >>> ((0 : Int32) &&& 31) = c := by
  rw [show ((0 : Int32) &&& 31) = 0 from by decide]; simp
theorem own_toNat {x : Int32} (h0 : 0 ≤ x.toInt) : (x.toBitVec.toNat : Int) = x.toInt := by
  have := x.toBitVec.isLt
  have e : x.toInt = x.toBitVec.toInt := rfl
  rw [e] at h0 ⊢
  rw [BitVec.toInt_eq_toNat_cond] at h0 ⊢
  split at h0 <;> split <;> omega
theorem own_ofNat {x : Int32} {n : Nat} (h : x.toBitVec.toNat = n) : x = Int32.ofNat n := by
  apply Int32.toBitVec_inj.mp
  apply BitVec.eq_of_toNat_eq
  rw [h]
  show _ = (BitVec.ofNat 32 n).toNat
  rw [BitVec.toNat_ofNat, ← h]; have := x.toBitVec.isLt; omega
theorem lo8_and (x : Int32) : (lo8 x &&& 255).toBitVec.toNat = x.toBitVec.toNat % 256 := by
  have h : (lo8 x).toBitVec = (x.toBitVec.signExtend 8).signExtend 32 := by rw [lo8, Int8.toBitVec_toInt32, Int32.toBitVec_toInt8]
  have e : ((x.toBitVec.signExtend 8).signExtend 32).toNat % 256 = x.toBitVec.toNat % 256 := by
    have hlt := x.toBitVec.isLt
    simp only [BitVec.toNat_setWidth, BitVec.toNat_signExtend]
    split <;> split <;> omega
  rw [Int32.toBitVec_and, BitVec.toNat_and, h, ← e]
  exact Nat.and_two_pow_sub_one_eq_mod _ 8
theorem own_i2c (x : Int32) : (x.toUInt32.toUInt16.toUInt32.toInt32).toBitVec.toNat = x.toBitVec.toNat % 65536 := by
  show ((x.toBitVec.setWidth 16).setWidth 32).toNat = _
  have := x.toBitVec.isLt
  simp only [BitVec.toNat_setWidth]; omega
theorem nar_char {c : Int32} (h0 : ¬ c < 0) (h1 : ¬ 65535 < c) : nar .char c = c := by
  have a := own_toNat (own_ge0.mp h0)
  have b := own_le.mp h1
  have e : (65535 : Int32).toInt = 65535 := rfl
  apply Int32.toBitVec_inj.mp
  apply BitVec.eq_of_toNat_eq
  show (c.toUInt32.toUInt16.toUInt32.toInt32).toBitVec.toNat = _
  rw [own_i2c]; omega
theorem nar_nar (x : Int32) : nar .char (nar .char x) = nar .char x := nar_char (own_char (fits_nar_char x)).1 (own_char (fits_nar_char x)).2
theorem lat_says {c : Int32} (h0 : ¬ c < 0) (h1 : ¬ 255 < c) : nar .char ((lo8 c &&& 255).toUInt32.toUInt16.toUInt32.toInt32) = c := by
  have a := own_toNat (own_ge0.mp h0)
  have b := own_le.mp h1
  have e : (255 : Int32).toInt = 255 := rfl
  apply Int32.toBitVec_inj.mp
  apply BitVec.eq_of_toNat_eq
  show ((lo8 c &&& 255).toUInt32.toUInt16.toUInt32.toInt32.toUInt32.toUInt16.toUInt32.toInt32).toBitVec.toNat = _
  rw [own_i2c, own_i2c, lo8_and]; omega
theorem pair_says {c : Int32} (h0 : ¬ c < 0) (h1 : ¬ 65535 < c) : nar .char ((((lo8 c &&& 255) <<< ((0 : Int32) &&& 31)) ||| ((hi8 c &&& 255) <<< ((8 : Int32) &&& 31))).toUInt32.toUInt16.toUInt32.toInt32) = c := by
  have a := own_toNat (own_ge0.mp h0)
  have b := own_le.mp h1
  have e : (65535 : Int32).toInt = 65535 := rfl
  have hn : c.toBitVec.toNat < 65536 := by omega
  have a1 := lo8_and c
  have a2 : (hi8 c &&& 255).toBitVec.toNat = c.toBitVec.toNat / 256 := by
    rw [hi8, lo8_and]
    have e : ((8 : Int32) &&& 31) = 8 := by decide
    rw [e, Int32.toBitVec_shiftRight]
    have e2 : ((8 : Int32).toBitVec.smod 32) = 8#32 := by decide
    rw [e2, BitVec.sshiftRight_eq', BitVec.toNat_sshiftRight_of_msb_false (by rw [BitVec.msb_eq_false_iff_two_mul_lt]; omega)]
    show c.toBitVec.toNat >>> 8 % 256 = _
    rw [Nat.shiftRight_eq_div_pow]
    omega
  rw [shlm (x := lo8 c &&& 255) (k := 0) (m := 1) (by decide), shlm (x := hi8 c &&& 255) (k := 8) (m := 256) (by decide), Int32.mul_one]
  apply Int32.toBitVec_inj.mp
  apply BitVec.eq_of_toNat_eq
  show ((((lo8 c &&& 255) ||| ((hi8 c &&& 255) * 256)).toUInt32.toUInt16.toUInt32.toInt32).toUInt32.toUInt16.toUInt32.toInt32).toBitVec.toNat = _
  rw [own_i2c, own_i2c, Int32.toBitVec_or, BitVec.toNat_or, a1, Int32.toBitVec_mul, BitVec.toNat_mul, a2]
  have e3 : (c.toBitVec.toNat / 256 * (256 : Int32).toBitVec.toNat) % 2 ^ 32 = 2 ^ 8 * (c.toBitVec.toNat / 256) := by
    show (c.toBitVec.toNat / 256 * 256) % 4294967296 = _
    omega
  rw [e3, Nat.or_comm, ← Nat.two_pow_add_eq_or_of_lt (by omega)]
  omega
theorem own_shr1 {n : Nat} (h : 2 * n < 2147483648) : Int32.ofNat (2 * n) >>> ((1 : Int32) &&& 31) = Int32.ofNat n := by
  have a := own_toNat (x := Int32.ofNat (2 * n)) (by rw [own_i32 h]; omega)
  rw [own_i32 h] at a
  apply own_ofNat
  rw [show ((1 : Int32) &&& 31) = 1 by decide, Int32.toBitVec_shiftRight, show ((1 : Int32).toBitVec.smod 32) = 1#32 by decide, BitVec.sshiftRight_eq', BitVec.toNat_sshiftRight_of_msb_false (by rw [BitVec.msb_eq_false_iff_two_mul_lt]; omega)]
  show (Int32.ofNat (2 * n)).toBitVec.toNat >>> 1 = _
  rw [Nat.shiftRight_eq_div_pow]; omega
theorem own_and_lo (x m : Int32) (hm : ¬ m < 0) : ¬ (x &&& m) < 0 := own_ge0.mpr ((c_andS x m).2.2 (own_ge0.mp hm))
theorem own_and_hi (x m : Int32) (hm : ¬ m < 0) : ¬ m < (x &&& m) := by
  rw [own_le]
  have a := own_toNat (own_ge0.mp (own_and_lo x m hm))
  have b := own_toNat (own_ge0.mp hm)
  have c : (x &&& m).toBitVec.toNat ≤ m.toBitVec.toNat := by
    rw [Int32.toBitVec_and, BitVec.toNat_and]; exact Nat.and_le_right
  omega
theorem own_sub {x y : Int32} (h1 : -2147483648 ≤ x.toInt - y.toInt) (h2 : x.toInt - y.toInt < 2147483648) : (x - y).toInt = x.toInt - y.toInt := by
  rw [Int32.toInt_sub]
  exact Int.bmod_eq_of_le (by omega) (by omega)
theorem own_subI {i j : Nat} (hi : i < 1000000) (hj : j < 1000000) : (Int32.ofNat j - Int32.ofNat i).toInt = (j : Int) - i := by
  have a := own_i32 (i := i) (by omega)
  have b := own_i32 (i := j) (by omega)
  rw [own_sub (by omega) (by omega), a, b]
theorem own_subc {x k : Int32} (h0 : 0 ≤ k.toInt) (h1 : k.toInt ≤ x.toInt) : (x - k).toInt = x.toInt - k.toInt := by
  have := Int32.toInt_lt x
  exact own_sub (by omega) (by omega)
theorem own_eqI {args : Array Value} {first s : State} {o : Option Outcome} {idx : List Nat} {t : Term} {n : Int32} (h : (Cond.eq t (Term.int n)).value args first o s idx = some true) : t.eval args first o idx s = some (.int n) := by
  simp only [Cond.value, Term.int_eval] at h
  cases ht : t.eval args first o idx s with
  | none => simp [ht] at h
  | some x => cases x <;> simp [ht] at h ⊢; exact h
theorem own_255 {c : Int32} (h : ¬ 255 < c) : ¬ 65535 < c := by
  rw [own_le] at h ⊢
  have e : (255 : Int32).toInt = 255 := rfl
  have e2 : (65535 : Int32).toInt = 65535 := rfl
  omega
theorem own_b255 (x : Int32) : ¬ (x &&& 255).toUInt32.toUInt16.toUInt32.toInt32 < 0 ∧ ¬ 255 < (x &&& 255).toUInt32.toUInt16.toUInt32.toInt32 := by
  have h0 := own_and_lo x 255 (by decide)
  have h1 := own_and_hi x 255 (by decide)
  have e : (x &&& 255).toUInt32.toUInt16.toUInt32.toInt32 = x &&& 255 := nar_char h0 (own_255 h1)
  rw [e]; exact ⟨h0, h1⟩
theorem own_irem (x k : Int32) (n : Nat) (h0 : 0 < n) (h1 : n < 2147483648) (hk : k = Int32.ofNat n) : ∃ i : Nat, i < n ∧ (x &&& 2147483647) % k = Int32.ofNat i := by
  have a := own_ge0.mp (own_and_lo x 2147483647 (by decide))
  have e : k.toInt = (n : Int) := by rw [hk, own_i32 h1]
  have b := (c_irem (x &&& 2147483647) k (n : Int) e).1 a
  refine own_nat ?_ ?_
  · rw [b]; exact Int.emod_nonneg _ (by omega)
  · rw [b]; exact Int.emod_lt_of_pos _ (by omega)
theorem own_subN {i j : Nat} (h : i ≤ j) (hj : j < 2147483648) : Int32.ofNat j - Int32.ofNat i = Int32.ofNat (j - i) := by
  apply Int32.toInt_inj.mp
  have a := own_i32 (i := i) (by omega)
  have b := own_i32 hj
  have c := own_i32 (i := j - i) (by omega)
  rw [own_sub (by omega) (by omega), a, b, c]; omega
theorem own_add2 (i : Nat) : Int32.ofNat i + 2 = Int32.ofNat (i + 2) := by rw [Int32.ofNat_add]; rfl
theorem shl0 (c : Int32) : c <<< ((0 : Int32) &&& 31) = c := by rw [shlm (m := 1) (by decide), Int32.mul_one]
theorem own_app_take {vs : List Value} {cs ds : List Int32} (hv : vs.take cs.length = oI (cs.map lo8)) (hl : cs.length + ds.length ≤ vs.length) : (vs.take cs.length ++ oI (ds.map lo8) ++ vs.drop (cs.length + ds.length)).take (cs.length + ds.length) = oI ((cs ++ ds).map lo8) := by
  rw [hv, List.take_left' (by simp)]; simp
theorem own_sub_map (cs : List Int32) (i k : Nat) : ((oI (cs.map lo8)).drop i).take k = oI (((cs.drop i).take k).map lo8) := by
  simp [List.map_drop, List.map_take]
def oG (a0 : Array Value) (Z : State) (EL : List (String × Nat)) : Prop := (∀ d ∈ tables_1, d.before a0 Z = true) ∧ EW Z a0 EL ∧ (∀ d ∈ jdkStatics_1, d.before a0 Z = true) ∧ True
theorem sCOMPACT {a0 : Array Value} {Z : State} {EL : List (String × Nat)} (hG : oG a0 Z EL) : ∃ z, Sta Z Z.heap "java/lang/String" "COMPACT_STRINGS" "Z" (.int z) ∧ ¬ z = 0 := by
  obtain ⟨z, e⟩ := is_v (Cond.before_iff.mp (hG.2.2.1 _ (List.mem_of_getElem? (i := 1) rfl)))
  exact ⟨z, Sta.start e (Or.inl (hG.2.2.1 _ (List.mem_of_getElem? (i := 0) rfl))), gotF (Cond.eq_ints e (Term.int_eval (0))) (not_v (Cond.before_iff.mp (hG.2.2.1 _ (List.mem_of_getElem? (i := 2) rfl))))⟩
theorem sSIOOBE {a0 : Array Value} {Z : State} {EL : List (String × Nat)} (hG : oG a0 Z EL) : ∃ v, Sta Z Z.heap "jdk/internal/util/Preconditions" "SIOOBE_FORMATTER" "Ljava/util/function/BiFunction;" v ∧ v.isRef = true := by
  obtain ⟨v, e, r⟩ := isR_v (Cond.before_iff.mp (hG.2.2.1 _ (List.mem_of_getElem? (i := 8) rfl)))
  exact ⟨v, Sta.start e (Or.inl (hG.2.2.1 _ (List.mem_of_getElem? (i := 7) rfl))), r⟩
theorem sASSERT {a0 : Array Value} {Z : State} {EL : List (String × Nat)} (hG : oG a0 Z EL) : Sta Z Z.heap "java/lang/StringUTF16" "$assertionsDisabled" "Z" (.int 1) := Sta.start (own_eqI (Cond.before_iff.mp (hG.2.2.1 _ (List.mem_of_getElem? (i := 12) rfl)))) (Or.inl (hG.2.2.1 _ (List.mem_of_getElem? (i := 11) rfl)))
theorem sHI {a0 : Array Value} {Z : State} {EL : List (String × Nat)} (hG : oG a0 Z EL) : Sta Z Z.heap "java/lang/StringUTF16" "HI_BYTE_SHIFT" "I" (.int 0) := Sta.start (own_eqI (Cond.before_iff.mp (hG.2.2.1 _ (List.mem_of_getElem? (i := 15) rfl)))) (Or.inl (hG.2.2.1 _ (List.mem_of_getElem? (i := 14) rfl)))
theorem sLO {a0 : Array Value} {Z : State} {EL : List (String × Nat)} (hG : oG a0 Z EL) : Sta Z Z.heap "java/lang/StringUTF16" "LO_BYTE_SHIFT" "I" (.int 8) := Sta.start (own_eqI (Cond.before_iff.mp (hG.2.2.1 _ (List.mem_of_getElem? (i := 18) rfl)))) (Or.inl (hG.2.2.1 _ (List.mem_of_getElem? (i := 17) rfl)))
theorem w0 {a0 : Array Value} {Z : State} {EL : List (String × Nat)} (hG : oG a0 Z EL) : ((Jvm.Cond.arrayClass Jvm.ClassFile.FieldType.char)).before a0 Z = true := hG.1 _ (List.mem_of_getElem? (i := 0) rfl)
theorem w1 {a0 : Array Value} {Z : State} {EL : List (String × Nat)} (hG : oG a0 Z EL) : ((Jvm.Cond.methodLink "com/example/rulewarden/rulewarden/model/IpAddressDecimalPinLaw" (8 : Nat) ({ cls := "com/example/rulewarden/rulewarden/model/IpAddressDecimalPinLaw", name := "ch", desc := "(I)C" } : Jvm.MethodName))).before a0 Z = true := hG.1 _ (List.mem_of_getElem? (i := 1) rfl)
theorem w2 {a0 : Array Value} {Z : State} {EL : List (String × Nat)} (hG : oG a0 Z EL) : ((Jvm.Cond.static ({ cls := "com/example/rulewarden/rulewarden/model/IpAddressDecimalPinLaw", name := "ch", desc := "(I)C" } : Jvm.MethodName))).before a0 Z = true := hG.1 _ (List.mem_of_getElem? (i := 2) rfl)
theorem w3 {a0 : Array Value} {Z : State} {EL : List (String × Nat)} (hG : oG a0 Z EL) : ((Jvm.Cond.initialized "com/example/rulewarden/rulewarden/model/IpAddressDecimalPinLaw")).before a0 Z = true := hG.1 _ (List.mem_of_getElem? (i := 3) rfl)
theorem w4 {a0 : Array Value} {Z : State} {EL : List (String × Nat)} (hG : oG a0 Z EL) : ((Jvm.Cond.code ({ cls := "com/example/rulewarden/rulewarden/model/IpAddressDecimalPinLaw", name := "ch", desc := "(I)C" } : Jvm.MethodName) method_2_code (1 : Nat) (Option.some Jvm.ClassFile.FieldType.char))).before a0 Z = true := hG.1 _ (List.mem_of_getElem? (i := 4) rfl)
theorem w5 {a0 : Array Value} {Z : State} {EL : List (String × Nat)} (hG : oG a0 Z EL) : ((Jvm.Cond.constant "com/example/rulewarden/rulewarden/model/IpAddressDecimalPinLaw" (7 : Nat) (65535 : Int32))).before a0 Z = true := hG.1 _ (List.mem_of_getElem? (i := 5) rfl)
theorem w6 {a0 : Array Value} {Z : State} {EL : List (String × Nat)} (hG : oG a0 Z EL) : ((Jvm.Cond.classLink "com/example/rulewarden/rulewarden/model/IpAddressDecimalPinLaw" (14 : Nat) "java/lang/String")).before a0 Z = true := hG.1 _ (List.mem_of_getElem? (i := 6) rfl)
theorem w7 {a0 : Array Value} {Z : State} {EL : List (String × Nat)} (hG : oG a0 Z EL) : ((Jvm.Cond.instantiable "java/lang/String" (4 : Nat))).before a0 Z = true := hG.1 _ (List.mem_of_getElem? (i := 7) rfl)
theorem w8 {a0 : Array Value} {Z : State} {EL : List (String × Nat)} (hG : oG a0 Z EL) : ((Jvm.Cond.initialized "java/lang/String")).before a0 Z = true := hG.1 _ (List.mem_of_getElem? (i := 8) rfl)
theorem w9 {a0 : Array Value} {Z : State} {EL : List (String × Nat)} (hG : oG a0 Z EL) : ((Jvm.Cond.methodLink "com/example/rulewarden/rulewarden/model/IpAddressDecimalPinLaw" (16 : Nat) ({ cls := "java/lang/String", name := "<init>", desc := "([C)V" } : Jvm.MethodName))).before a0 Z = true := hG.1 _ (List.mem_of_getElem? (i := 9) rfl)
theorem w10 {a0 : Array Value} {Z : State} {EL : List (String × Nat)} (hG : oG a0 Z EL) : ((Jvm.Cond.instanceMethod ({ cls := "java/lang/String", name := "<init>", desc := "([C)V" } : Jvm.MethodName))).before a0 Z = true := hG.1 _ (List.mem_of_getElem? (i := 10) rfl)
theorem w11 {a0 : Array Value} {Z : State} {EL : List (String × Nat)} (hG : oG a0 Z EL) : ((Jvm.Cond.code ({ cls := "java/lang/String", name := "<init>", desc := "([C)V" } : Jvm.MethodName) jdk_42_method_3_code (2 : Nat) (Option.none : Option Jvm.ClassFile.FieldType))).before a0 Z = true := hG.1 _ (List.mem_of_getElem? (i := 11) rfl)
theorem w12 {a0 : Array Value} {Z : State} {EL : List (String × Nat)} (hG : oG a0 Z EL) : ((Jvm.Cond.methodLink "java/lang/String" (27 : Nat) ({ cls := "java/lang/String", name := "<init>", desc := "([CIILjava/lang/Void;)V" } : Jvm.MethodName))).before a0 Z = true := hG.1 _ (List.mem_of_getElem? (i := 12) rfl)
theorem w13 {a0 : Array Value} {Z : State} {EL : List (String × Nat)} (hG : oG a0 Z EL) : ((Jvm.Cond.instanceMethod ({ cls := "java/lang/String", name := "<init>", desc := "([CIILjava/lang/Void;)V" } : Jvm.MethodName))).before a0 Z = true := hG.1 _ (List.mem_of_getElem? (i := 13) rfl)
theorem w15 {a0 : Array Value} {Z : State} {EL : List (String × Nat)} (hG : oG a0 Z EL) : ((Jvm.Cond.code ({ cls := "java/lang/String", name := "<init>", desc := "([CIILjava/lang/Void;)V" } : Jvm.MethodName) jdk_42_method_149_code (6 : Nat) (Option.none : Option Jvm.ClassFile.FieldType))).before a0 Z = true := hG.1 _ (List.mem_of_getElem? (i := 15) rfl)
theorem w16 {a0 : Array Value} {Z : State} {EL : List (String × Nat)} (hG : oG a0 Z EL) : ((Jvm.Cond.methodLink "java/lang/String" (1 : Nat) ({ cls := "java/lang/Object", name := "<init>", desc := "()V" } : Jvm.MethodName))).before a0 Z = true := hG.1 _ (List.mem_of_getElem? (i := 16) rfl)
theorem w17 {a0 : Array Value} {Z : State} {EL : List (String × Nat)} (hG : oG a0 Z EL) : ((Jvm.Cond.instanceMethod ({ cls := "java/lang/Object", name := "<init>", desc := "()V" } : Jvm.MethodName))).before a0 Z = true := hG.1 _ (List.mem_of_getElem? (i := 17) rfl)
theorem w18 {a0 : Array Value} {Z : State} {EL : List (String × Nat)} (hG : oG a0 Z EL) : ((Jvm.Cond.code ({ cls := "java/lang/Object", name := "<init>", desc := "()V" } : Jvm.MethodName) object_method_1_code (1 : Nat) (Option.none : Option Jvm.ClassFile.FieldType))).before a0 Z = true := hG.1 _ (List.mem_of_getElem? (i := 18) rfl)
theorem w19 {a0 : Array Value} {Z : State} {EL : List (String × Nat)} (hG : oG a0 Z EL) : ((Jvm.Cond.fieldLink "java/lang/String" (38 : Nat) "java/lang/String" "COMPACT_STRINGS" "Z")).before a0 Z = true := hG.1 _ (List.mem_of_getElem? (i := 19) rfl)
theorem w20 {a0 : Array Value} {Z : State} {EL : List (String × Nat)} (hG : oG a0 Z EL) : ((Jvm.Cond.methodLink "java/lang/String" (177 : Nat) ({ cls := "java/lang/StringUTF16", name := "compress", desc := "([CII)[B" } : Jvm.MethodName))).before a0 Z = true := hG.1 _ (List.mem_of_getElem? (i := 20) rfl)
theorem w21 {a0 : Array Value} {Z : State} {EL : List (String × Nat)} (hG : oG a0 Z EL) : ((Jvm.Cond.static ({ cls := "java/lang/StringUTF16", name := "compress", desc := "([CII)[B" } : Jvm.MethodName))).before a0 Z = true := hG.1 _ (List.mem_of_getElem? (i := 21) rfl)
theorem w22 {a0 : Array Value} {Z : State} {EL : List (String × Nat)} (hG : oG a0 Z EL) : ((Jvm.Cond.initialized "java/lang/StringUTF16")).before a0 Z = true := hG.1 _ (List.mem_of_getElem? (i := 22) rfl)
theorem w23 {a0 : Array Value} {Z : State} {EL : List (String × Nat)} (hG : oG a0 Z EL) : ((Jvm.Cond.code ({ cls := "java/lang/StringUTF16", name := "compress", desc := "([CII)[B" } : Jvm.MethodName) jdk_52_method_16_code (6 : Nat) (Option.some (Jvm.ClassFile.FieldType.array Jvm.ClassFile.FieldType.byte)))).before a0 Z = true := hG.1 _ (List.mem_of_getElem? (i := 23) rfl)
theorem w24 {a0 : Array Value} {Z : State} {EL : List (String × Nat)} (hG : oG a0 Z EL) : ((Jvm.Cond.arrayClass Jvm.ClassFile.FieldType.byte)).before a0 Z = true := hG.1 _ (List.mem_of_getElem? (i := 24) rfl)
theorem w25 {a0 : Array Value} {Z : State} {EL : List (String × Nat)} (hG : oG a0 Z EL) : ((Jvm.Cond.methodLink "java/lang/StringUTF16" (115 : Nat) ({ cls := "java/lang/StringUTF16", name := "compress", desc := "([CI[BII)I" } : Jvm.MethodName))).before a0 Z = true := hG.1 _ (List.mem_of_getElem? (i := 25) rfl)
theorem w26 {a0 : Array Value} {Z : State} {EL : List (String × Nat)} (hG : oG a0 Z EL) : ((Jvm.Cond.static ({ cls := "java/lang/StringUTF16", name := "compress", desc := "([CI[BII)I" } : Jvm.MethodName))).before a0 Z = true := hG.1 _ (List.mem_of_getElem? (i := 26) rfl)
theorem w27 {a0 : Array Value} {Z : State} {EL : List (String × Nat)} (hG : oG a0 Z EL) : ((Jvm.Cond.code ({ cls := "java/lang/StringUTF16", name := "compress", desc := "([CI[BII)I" } : Jvm.MethodName) jdk_52_method_21_code (7 : Nat) (Option.some Jvm.ClassFile.FieldType.int))).before a0 Z = true := hG.1 _ (List.mem_of_getElem? (i := 27) rfl)
theorem w28 {a0 : Array Value} {Z : State} {EL : List (String × Nat)} (hG : oG a0 Z EL) : ((Jvm.Cond.methodLink "java/lang/String" (47 : Nat) ({ cls := "java/lang/StringUTF16", name := "coderFromArrayLen", desc := "([BI)B" } : Jvm.MethodName))).before a0 Z = true := hG.1 _ (List.mem_of_getElem? (i := 28) rfl)
theorem w29 {a0 : Array Value} {Z : State} {EL : List (String × Nat)} (hG : oG a0 Z EL) : ((Jvm.Cond.static ({ cls := "java/lang/StringUTF16", name := "coderFromArrayLen", desc := "([BI)B" } : Jvm.MethodName))).before a0 Z = true := hG.1 _ (List.mem_of_getElem? (i := 29) rfl)
theorem w30 {a0 : Array Value} {Z : State} {EL : List (String × Nat)} (hG : oG a0 Z EL) : ((Jvm.Cond.code ({ cls := "java/lang/StringUTF16", name := "coderFromArrayLen", desc := "([BI)B" } : Jvm.MethodName) jdk_52_method_15_code (2 : Nat) (Option.some Jvm.ClassFile.FieldType.byte))).before a0 Z = true := hG.1 _ (List.mem_of_getElem? (i := 30) rfl)
theorem w31 {a0 : Array Value} {Z : State} {EL : List (String × Nat)} (hG : oG a0 Z EL) : ((Jvm.Cond.fieldLink "java/lang/String" (15 : Nat) "java/lang/String" "coder" "B")).before a0 Z = true := hG.1 _ (List.mem_of_getElem? (i := 31) rfl)
theorem w32 {a0 : Array Value} {Z : State} {EL : List (String × Nat)} (hG : oG a0 Z EL) : ((Jvm.Cond.laysFinal "java/lang/String" "java/lang/String" "coder" "B")).before a0 Z = true := hG.1 _ (List.mem_of_getElem? (i := 32) rfl)
theorem w33 {a0 : Array Value} {Z : State} {EL : List (String × Nat)} (hG : oG a0 Z EL) : ((Jvm.Cond.fieldLink "java/lang/String" (9 : Nat) "java/lang/String" "value" "[B")).before a0 Z = true := hG.1 _ (List.mem_of_getElem? (i := 33) rfl)
theorem w34 {a0 : Array Value} {Z : State} {EL : List (String × Nat)} (hG : oG a0 Z EL) : ((Jvm.Cond.laysFinal "java/lang/String" "java/lang/String" "value" "[B")).before a0 Z = true := hG.1 _ (List.mem_of_getElem? (i := 34) rfl)
theorem w35 {a0 : Array Value} {Z : State} {EL : List (String × Nat)} (hG : oG a0 Z EL) : ((Jvm.Cond.methodLink "com/example/rulewarden/rulewarden/model/IpAddressDecimalPinLaw" (23 : Nat) ({ cls := "com/example/rulewarden/rulewarden/model/IpAddress", name := "decimal", desc := "(Ljava/lang/String;II)I" } : Jvm.MethodName))).before a0 Z = true := hG.1 _ (List.mem_of_getElem? (i := 35) rfl)
theorem w36 {a0 : Array Value} {Z : State} {EL : List (String × Nat)} (hG : oG a0 Z EL) : ((Jvm.Cond.static ({ cls := "com/example/rulewarden/rulewarden/model/IpAddress", name := "decimal", desc := "(Ljava/lang/String;II)I" } : Jvm.MethodName))).before a0 Z = true := hG.1 _ (List.mem_of_getElem? (i := 36) rfl)
theorem w37 {a0 : Array Value} {Z : State} {EL : List (String × Nat)} (hG : oG a0 Z EL) : ((Jvm.Cond.initialized "com/example/rulewarden/rulewarden/model/IpAddress")).before a0 Z = true := hG.1 _ (List.mem_of_getElem? (i := 37) rfl)
theorem w38 {a0 : Array Value} {Z : State} {EL : List (String × Nat)} (hG : oG a0 Z EL) : ((Jvm.Cond.code ({ cls := "com/example/rulewarden/rulewarden/model/IpAddress", name := "decimal", desc := "(Ljava/lang/String;II)I" } : Jvm.MethodName) prog_50_method_16_code (7 : Nat) (Option.some Jvm.ClassFile.FieldType.int))).before a0 Z = true := hG.1 _ (List.mem_of_getElem? (i := 38) rfl)
theorem w39 {a0 : Array Value} {Z : State} {EL : List (String × Nat)} (hG : oG a0 Z EL) : ((Jvm.Cond.methodLink "java/lang/StringUTF16" (119 : Nat) ({ cls := "java/lang/StringUTF16", name := "toBytes", desc := "([CII)[B" } : Jvm.MethodName))).before a0 Z = true := hG.1 _ (List.mem_of_getElem? (i := 39) rfl)
theorem w40 {a0 : Array Value} {Z : State} {EL : List (String × Nat)} (hG : oG a0 Z EL) : ((Jvm.Cond.static ({ cls := "java/lang/StringUTF16", name := "toBytes", desc := "([CII)[B" } : Jvm.MethodName))).before a0 Z = true := hG.1 _ (List.mem_of_getElem? (i := 40) rfl)
theorem w41 {a0 : Array Value} {Z : State} {EL : List (String × Nat)} (hG : oG a0 Z EL) : ((Jvm.Cond.code ({ cls := "java/lang/StringUTF16", name := "toBytes", desc := "([CII)[B" } : Jvm.MethodName) jdk_52_method_14_code (5 : Nat) (Option.some (Jvm.ClassFile.FieldType.array Jvm.ClassFile.FieldType.byte)))).before a0 Z = true := hG.1 _ (List.mem_of_getElem? (i := 41) rfl)
theorem w42 {a0 : Array Value} {Z : State} {EL : List (String × Nat)} (hG : oG a0 Z EL) : ((Jvm.Cond.methodLink "java/lang/StringUTF16" (107 : Nat) ({ cls := "java/lang/StringUTF16", name := "newBytesFor", desc := "(I)[B" } : Jvm.MethodName))).before a0 Z = true := hG.1 _ (List.mem_of_getElem? (i := 42) rfl)
theorem w43 {a0 : Array Value} {Z : State} {EL : List (String × Nat)} (hG : oG a0 Z EL) : ((Jvm.Cond.static ({ cls := "java/lang/StringUTF16", name := "newBytesFor", desc := "(I)[B" } : Jvm.MethodName))).before a0 Z = true := hG.1 _ (List.mem_of_getElem? (i := 43) rfl)
theorem w44 {a0 : Array Value} {Z : State} {EL : List (String × Nat)} (hG : oG a0 Z EL) : ((Jvm.Cond.code ({ cls := "java/lang/StringUTF16", name := "newBytesFor", desc := "(I)[B" } : Jvm.MethodName) jdk_52_method_2_code (1 : Nat) (Option.some (Jvm.ClassFile.FieldType.array Jvm.ClassFile.FieldType.byte)))).before a0 Z = true := hG.1 _ (List.mem_of_getElem? (i := 44) rfl)
theorem w45 {a0 : Array Value} {Z : State} {EL : List (String × Nat)} (hG : oG a0 Z EL) : ((Jvm.Cond.methodLink "java/lang/StringUTF16" (11 : Nat) ({ cls := "java/lang/StringUTF16", name := "newBytesLength", desc := "(I)I" } : Jvm.MethodName))).before a0 Z = true := hG.1 _ (List.mem_of_getElem? (i := 45) rfl)
theorem w46 {a0 : Array Value} {Z : State} {EL : List (String × Nat)} (hG : oG a0 Z EL) : ((Jvm.Cond.static ({ cls := "java/lang/StringUTF16", name := "newBytesLength", desc := "(I)I" } : Jvm.MethodName))).before a0 Z = true := hG.1 _ (List.mem_of_getElem? (i := 46) rfl)
theorem w47 {a0 : Array Value} {Z : State} {EL : List (String × Nat)} (hG : oG a0 Z EL) : ((Jvm.Cond.code ({ cls := "java/lang/StringUTF16", name := "newBytesLength", desc := "(I)I" } : Jvm.MethodName) jdk_52_method_3_code (1 : Nat) (Option.some Jvm.ClassFile.FieldType.int))).before a0 Z = true := hG.1 _ (List.mem_of_getElem? (i := 47) rfl)
theorem w48 {a0 : Array Value} {Z : State} {EL : List (String × Nat)} (hG : oG a0 Z EL) : ((Jvm.Cond.constant "java/lang/StringUTF16" (20 : Nat) (1073741823 : Int32))).before a0 Z = true := hG.1 _ (List.mem_of_getElem? (i := 48) rfl)
theorem w49 {a0 : Array Value} {Z : State} {EL : List (String × Nat)} (hG : oG a0 Z EL) : ((Jvm.Cond.methodLink "java/lang/StringUTF16" (111 : Nat) ({ cls := "java/lang/StringUTF16", name := "putChar", desc := "([BII)V" } : Jvm.MethodName))).before a0 Z = true := hG.1 _ (List.mem_of_getElem? (i := 49) rfl)
theorem w50 {a0 : Array Value} {Z : State} {EL : List (String × Nat)} (hG : oG a0 Z EL) : ((Jvm.Cond.static ({ cls := "java/lang/StringUTF16", name := "putChar", desc := "([BII)V" } : Jvm.MethodName))).before a0 Z = true := hG.1 _ (List.mem_of_getElem? (i := 50) rfl)
theorem w51 {a0 : Array Value} {Z : State} {EL : List (String × Nat)} (hG : oG a0 Z EL) : ((Jvm.Cond.code ({ cls := "java/lang/StringUTF16", name := "putChar", desc := "([BII)V" } : Jvm.MethodName) jdk_52_method_4_code (3 : Nat) (Option.none : Option Jvm.ClassFile.FieldType))).before a0 Z = true := hG.1 _ (List.mem_of_getElem? (i := 51) rfl)
theorem w52 {a0 : Array Value} {Z : State} {EL : List (String × Nat)} (hG : oG a0 Z EL) : ((Jvm.Cond.fieldLink "java/lang/StringUTF16" (44 : Nat) "java/lang/StringUTF16" "$assertionsDisabled" "Z")).before a0 Z = true := hG.1 _ (List.mem_of_getElem? (i := 52) rfl)
theorem w53 {a0 : Array Value} {Z : State} {EL : List (String × Nat)} (hG : oG a0 Z EL) : ((Jvm.Cond.fieldLink "java/lang/StringUTF16" (59 : Nat) "java/lang/StringUTF16" "HI_BYTE_SHIFT" "I")).before a0 Z = true := hG.1 _ (List.mem_of_getElem? (i := 53) rfl)
theorem w54 {a0 : Array Value} {Z : State} {EL : List (String × Nat)} (hG : oG a0 Z EL) : ((Jvm.Cond.fieldLink "java/lang/StringUTF16" (63 : Nat) "java/lang/StringUTF16" "LO_BYTE_SHIFT" "I")).before a0 Z = true := hG.1 _ (List.mem_of_getElem? (i := 54) rfl)
theorem w55 {a0 : Array Value} {Z : State} {EL : List (String × Nat)} (hG : oG a0 Z EL) : ((Jvm.Cond.methodLink "java/lang/StringUTF16" (71 : Nat) ({ cls := "java/lang/StringUTF16", name := "getChar", desc := "([BI)C" } : Jvm.MethodName))).before a0 Z = true := hG.1 _ (List.mem_of_getElem? (i := 55) rfl)
theorem w56 {a0 : Array Value} {Z : State} {EL : List (String × Nat)} (hG : oG a0 Z EL) : ((Jvm.Cond.static ({ cls := "java/lang/StringUTF16", name := "getChar", desc := "([BI)C" } : Jvm.MethodName))).before a0 Z = true := hG.1 _ (List.mem_of_getElem? (i := 56) rfl)
theorem w57 {a0 : Array Value} {Z : State} {EL : List (String × Nat)} (hG : oG a0 Z EL) : ((Jvm.Cond.code ({ cls := "java/lang/StringUTF16", name := "getChar", desc := "([BI)C" } : Jvm.MethodName) jdk_52_method_5_code (2 : Nat) (Option.some Jvm.ClassFile.FieldType.char))).before a0 Z = true := hG.1 _ (List.mem_of_getElem? (i := 57) rfl)
theorem w58 {a0 : Array Value} {Z : State} {EL : List (String × Nat)} (hG : oG a0 Z EL) : ((Jvm.Cond.methodLink "com/example/rulewarden/rulewarden/model/IpAddressDecimalPinLaw" (19 : Nat) ({ cls := "com/example/rulewarden/rulewarden/model/IpAddressDecimalPinLaw", name := "dig", desc := "(C)I" } : Jvm.MethodName))).before a0 Z = true := hG.1 _ (List.mem_of_getElem? (i := 58) rfl)
theorem w59 {a0 : Array Value} {Z : State} {EL : List (String × Nat)} (hG : oG a0 Z EL) : ((Jvm.Cond.static ({ cls := "com/example/rulewarden/rulewarden/model/IpAddressDecimalPinLaw", name := "dig", desc := "(C)I" } : Jvm.MethodName))).before a0 Z = true := hG.1 _ (List.mem_of_getElem? (i := 59) rfl)
theorem w60 {a0 : Array Value} {Z : State} {EL : List (String × Nat)} (hG : oG a0 Z EL) : ((Jvm.Cond.code ({ cls := "com/example/rulewarden/rulewarden/model/IpAddressDecimalPinLaw", name := "dig", desc := "(C)I" } : Jvm.MethodName) method_3_code (1 : Nat) (Option.some Jvm.ClassFile.FieldType.int))).before a0 Z = true := hG.1 _ (List.mem_of_getElem? (i := 60) rfl)
theorem w61 {a0 : Array Value} {Z : State} {EL : List (String × Nat)} (hG : oG a0 Z EL) : ((Jvm.Cond.methodLink "com/example/rulewarden/rulewarden/model/IpAddress" (133 : Nat) ({ cls := "java/lang/String", name := "charAt", desc := "(I)C" } : Jvm.MethodName))).before a0 Z = true := hG.1 _ (List.mem_of_getElem? (i := 61) rfl)
theorem w62 {a0 : Array Value} {Z : State} {EL : List (String × Nat)} (hG : oG a0 Z EL) : ((Jvm.Cond.declares ({ cls := "java/lang/String", name := "charAt", desc := "(I)C" } : Jvm.MethodName))).before a0 Z = true := hG.1 _ (List.mem_of_getElem? (i := 62) rfl)
theorem w63 {a0 : Array Value} {Z : State} {EL : List (String × Nat)} (hG : oG a0 Z EL) : ((Jvm.Cond.instanceMethod ({ cls := "java/lang/String", name := "charAt", desc := "(I)C" } : Jvm.MethodName))).before a0 Z = true := hG.1 _ (List.mem_of_getElem? (i := 63) rfl)
theorem w64 {a0 : Array Value} {Z : State} {EL : List (String × Nat)} (hG : oG a0 Z EL) : ((Jvm.Cond.selects "java/lang/String" ({ cls := "java/lang/String", name := "charAt", desc := "(I)C" } : Jvm.MethodName) ({ cls := "java/lang/String", name := "charAt", desc := "(I)C" } : Jvm.MethodName))).before a0 Z = true := hG.1 _ (List.mem_of_getElem? (i := 64) rfl)
theorem w65 {a0 : Array Value} {Z : State} {EL : List (String × Nat)} (hG : oG a0 Z EL) : ((Jvm.Cond.code ({ cls := "java/lang/String", name := "charAt", desc := "(I)C" } : Jvm.MethodName) jdk_42_method_56_code (2 : Nat) (Option.some Jvm.ClassFile.FieldType.char))).before a0 Z = true := hG.1 _ (List.mem_of_getElem? (i := 65) rfl)
theorem w66 {a0 : Array Value} {Z : State} {EL : List (String × Nat)} (hG : oG a0 Z EL) : ((Jvm.Cond.methodLink "java/lang/String" (492 : Nat) ({ cls := "java/lang/String", name := "isLatin1", desc := "()Z" } : Jvm.MethodName))).before a0 Z = true := hG.1 _ (List.mem_of_getElem? (i := 66) rfl)
theorem w67 {a0 : Array Value} {Z : State} {EL : List (String × Nat)} (hG : oG a0 Z EL) : ((Jvm.Cond.declares ({ cls := "java/lang/String", name := "isLatin1", desc := "()Z" } : Jvm.MethodName))).before a0 Z = true := hG.1 _ (List.mem_of_getElem? (i := 67) rfl)
theorem w68 {a0 : Array Value} {Z : State} {EL : List (String × Nat)} (hG : oG a0 Z EL) : ((Jvm.Cond.instanceMethod ({ cls := "java/lang/String", name := "isLatin1", desc := "()Z" } : Jvm.MethodName))).before a0 Z = true := hG.1 _ (List.mem_of_getElem? (i := 68) rfl)
theorem w69 {a0 : Array Value} {Z : State} {EL : List (String × Nat)} (hG : oG a0 Z EL) : ((Jvm.Cond.selects "java/lang/String" ({ cls := "java/lang/String", name := "isLatin1", desc := "()Z" } : Jvm.MethodName) ({ cls := "java/lang/String", name := "isLatin1", desc := "()Z" } : Jvm.MethodName))).before a0 Z = true := hG.1 _ (List.mem_of_getElem? (i := 69) rfl)
theorem w70 {a0 : Array Value} {Z : State} {EL : List (String × Nat)} (hG : oG a0 Z EL) : ((Jvm.Cond.code ({ cls := "java/lang/String", name := "isLatin1", desc := "()Z" } : Jvm.MethodName) jdk_42_method_154_code (1 : Nat) (Option.some Jvm.ClassFile.FieldType.boolean))).before a0 Z = true := hG.1 _ (List.mem_of_getElem? (i := 70) rfl)
theorem w71 {a0 : Array Value} {Z : State} {EL : List (String × Nat)} (hG : oG a0 Z EL) : ((Jvm.Cond.methodLink "java/lang/String" (498 : Nat) ({ cls := "java/lang/StringUTF16", name := "charAt", desc := "([BI)C" } : Jvm.MethodName))).before a0 Z = true := hG.1 _ (List.mem_of_getElem? (i := 71) rfl)
theorem w72 {a0 : Array Value} {Z : State} {EL : List (String × Nat)} (hG : oG a0 Z EL) : ((Jvm.Cond.static ({ cls := "java/lang/StringUTF16", name := "charAt", desc := "([BI)C" } : Jvm.MethodName))).before a0 Z = true := hG.1 _ (List.mem_of_getElem? (i := 72) rfl)
theorem w73 {a0 : Array Value} {Z : State} {EL : List (String × Nat)} (hG : oG a0 Z EL) : ((Jvm.Cond.code ({ cls := "java/lang/StringUTF16", name := "charAt", desc := "([BI)C" } : Jvm.MethodName) jdk_52_method_83_code (2 : Nat) (Option.some Jvm.ClassFile.FieldType.char))).before a0 Z = true := hG.1 _ (List.mem_of_getElem? (i := 73) rfl)
theorem w74 {a0 : Array Value} {Z : State} {EL : List (String × Nat)} (hG : oG a0 Z EL) : ((Jvm.Cond.methodLink "java/lang/StringUTF16" (67 : Nat) ({ cls := "java/lang/StringUTF16", name := "checkIndex", desc := "(I[B)V" } : Jvm.MethodName))).before a0 Z = true := hG.1 _ (List.mem_of_getElem? (i := 74) rfl)
theorem w75 {a0 : Array Value} {Z : State} {EL : List (String × Nat)} (hG : oG a0 Z EL) : ((Jvm.Cond.static ({ cls := "java/lang/StringUTF16", name := "checkIndex", desc := "(I[B)V" } : Jvm.MethodName))).before a0 Z = true := hG.1 _ (List.mem_of_getElem? (i := 75) rfl)
theorem w76 {a0 : Array Value} {Z : State} {EL : List (String × Nat)} (hG : oG a0 Z EL) : ((Jvm.Cond.code ({ cls := "java/lang/StringUTF16", name := "checkIndex", desc := "(I[B)V" } : Jvm.MethodName) jdk_52_method_91_code (2 : Nat) (Option.none : Option Jvm.ClassFile.FieldType))).before a0 Z = true := hG.1 _ (List.mem_of_getElem? (i := 76) rfl)
theorem w77 {a0 : Array Value} {Z : State} {EL : List (String × Nat)} (hG : oG a0 Z EL) : ((Jvm.Cond.methodLink "java/lang/StringUTF16" (48 : Nat) ({ cls := "java/lang/StringUTF16", name := "length", desc := "([B)I" } : Jvm.MethodName))).before a0 Z = true := hG.1 _ (List.mem_of_getElem? (i := 77) rfl)
theorem w78 {a0 : Array Value} {Z : State} {EL : List (String × Nat)} (hG : oG a0 Z EL) : ((Jvm.Cond.static ({ cls := "java/lang/StringUTF16", name := "length", desc := "([B)I" } : Jvm.MethodName))).before a0 Z = true := hG.1 _ (List.mem_of_getElem? (i := 78) rfl)
theorem w79 {a0 : Array Value} {Z : State} {EL : List (String × Nat)} (hG : oG a0 Z EL) : ((Jvm.Cond.code ({ cls := "java/lang/StringUTF16", name := "length", desc := "([B)I" } : Jvm.MethodName) jdk_52_method_6_code (1 : Nat) (Option.some Jvm.ClassFile.FieldType.int))).before a0 Z = true := hG.1 _ (List.mem_of_getElem? (i := 79) rfl)
theorem w80 {a0 : Array Value} {Z : State} {EL : List (String × Nat)} (hG : oG a0 Z EL) : ((Jvm.Cond.methodLink "java/lang/StringUTF16" (414 : Nat) ({ cls := "java/lang/String", name := "checkIndex", desc := "(II)V" } : Jvm.MethodName))).before a0 Z = true := hG.1 _ (List.mem_of_getElem? (i := 80) rfl)
theorem w81 {a0 : Array Value} {Z : State} {EL : List (String × Nat)} (hG : oG a0 Z EL) : ((Jvm.Cond.static ({ cls := "java/lang/String", name := "checkIndex", desc := "(II)V" } : Jvm.MethodName))).before a0 Z = true := hG.1 _ (List.mem_of_getElem? (i := 81) rfl)
theorem w82 {a0 : Array Value} {Z : State} {EL : List (String × Nat)} (hG : oG a0 Z EL) : ((Jvm.Cond.code ({ cls := "java/lang/String", name := "checkIndex", desc := "(II)V" } : Jvm.MethodName) jdk_42_method_155_code (2 : Nat) (Option.none : Option Jvm.ClassFile.FieldType))).before a0 Z = true := hG.1 _ (List.mem_of_getElem? (i := 82) rfl)
theorem w83 {a0 : Array Value} {Z : State} {EL : List (String × Nat)} (hG : oG a0 Z EL) : ((Jvm.Cond.fieldLink "java/lang/String" (1053 : Nat) "jdk/internal/util/Preconditions" "SIOOBE_FORMATTER" "Ljava/util/function/BiFunction;")).before a0 Z = true := hG.1 _ (List.mem_of_getElem? (i := 83) rfl)
theorem w84 {a0 : Array Value} {Z : State} {EL : List (String × Nat)} (hG : oG a0 Z EL) : ((Jvm.Cond.initialized "jdk/internal/util/Preconditions")).before a0 Z = true := hG.1 _ (List.mem_of_getElem? (i := 84) rfl)
theorem w85 {a0 : Array Value} {Z : State} {EL : List (String × Nat)} (hG : oG a0 Z EL) : ((Jvm.Cond.methodLink "java/lang/String" (1059 : Nat) ({ cls := "jdk/internal/util/Preconditions", name := "checkIndex", desc := "(IILjava/util/function/BiFunction;)I" } : Jvm.MethodName))).before a0 Z = true := hG.1 _ (List.mem_of_getElem? (i := 85) rfl)
theorem w86 {a0 : Array Value} {Z : State} {EL : List (String × Nat)} (hG : oG a0 Z EL) : ((Jvm.Cond.static ({ cls := "jdk/internal/util/Preconditions", name := "checkIndex", desc := "(IILjava/util/function/BiFunction;)I" } : Jvm.MethodName))).before a0 Z = true := hG.1 _ (List.mem_of_getElem? (i := 86) rfl)
theorem w87 {a0 : Array Value} {Z : State} {EL : List (String × Nat)} (hG : oG a0 Z EL) : ((Jvm.Cond.code ({ cls := "jdk/internal/util/Preconditions", name := "checkIndex", desc := "(IILjava/util/function/BiFunction;)I" } : Jvm.MethodName) jdk_41_method_11_code (3 : Nat) (Option.some Jvm.ClassFile.FieldType.int))).before a0 Z = true := hG.1 _ (List.mem_of_getElem? (i := 87) rfl)
theorem w88 {a0 : Array Value} {Z : State} {EL : List (String × Nat)} (hG : oG a0 Z EL) : ((Jvm.Cond.methodLink "java/lang/String" (495 : Nat) ({ cls := "java/lang/StringLatin1", name := "charAt", desc := "([BI)C" } : Jvm.MethodName))).before a0 Z = true := hG.1 _ (List.mem_of_getElem? (i := 88) rfl)
theorem w89 {a0 : Array Value} {Z : State} {EL : List (String × Nat)} (hG : oG a0 Z EL) : ((Jvm.Cond.static ({ cls := "java/lang/StringLatin1", name := "charAt", desc := "([BI)C" } : Jvm.MethodName))).before a0 Z = true := hG.1 _ (List.mem_of_getElem? (i := 89) rfl)
theorem w90 {a0 : Array Value} {Z : State} {EL : List (String × Nat)} (hG : oG a0 Z EL) : ((Jvm.Cond.initialized "java/lang/StringLatin1")).before a0 Z = true := hG.1 _ (List.mem_of_getElem? (i := 90) rfl)
theorem w91 {a0 : Array Value} {Z : State} {EL : List (String × Nat)} (hG : oG a0 Z EL) : ((Jvm.Cond.code ({ cls := "java/lang/StringLatin1", name := "charAt", desc := "([BI)C" } : Jvm.MethodName) jdk_43_method_2_code (2 : Nat) (Option.some Jvm.ClassFile.FieldType.char))).before a0 Z = true := hG.1 _ (List.mem_of_getElem? (i := 91) rfl)
theorem w92 {a0 : Array Value} {Z : State} {EL : List (String × Nat)} (hG : oG a0 Z EL) : ((Jvm.Cond.methodLink "java/lang/StringLatin1" (9 : Nat) ({ cls := "java/lang/String", name := "checkIndex", desc := "(II)V" } : Jvm.MethodName))).before a0 Z = true := hG.1 _ (List.mem_of_getElem? (i := 92) rfl)
theorem d1_0 : decode method_2_code 0 = .ok (.iload_n 0, 1) := by decide +kernel
theorem d1_1 : decode method_2_code 1 = .ok (.iconst 1, 1) := by decide +kernel
theorem d1_2 : decode method_2_code 2 = .ok (.iand, 1) := by decide +kernel
theorem d1_3 : decode method_2_code 3 = .ok (.ifCond .eq 14, 3) := by decide +kernel
theorem d1_6 : decode method_2_code 6 = .ok (.bipush 48, 2) := by decide +kernel
theorem d1_8 : decode method_2_code 8 = .ok (.iload_n 0, 1) := by decide +kernel
theorem d1_9 : decode method_2_code 9 = .ok (.iconst 1, 1) := by decide +kernel
theorem d1_10 : decode method_2_code 10 = .ok (.iushr, 1) := by decide +kernel
theorem d1_11 : decode method_2_code 11 = .ok (.bipush 15, 2) := by decide +kernel
theorem d1_13 : decode method_2_code 13 = .ok (.iand, 1) := by decide +kernel
theorem d1_14 : decode method_2_code 14 = .ok (.iadd, 1) := by decide +kernel
theorem d1_15 : decode method_2_code 15 = .ok (.i2c, 1) := by decide +kernel
theorem d1_16 : decode method_2_code 16 = .ok (.ireturn, 1) := by decide +kernel
theorem d1_17 : decode method_2_code 17 = .ok (.iload_n 0, 1) := by decide +kernel
theorem d1_18 : decode method_2_code 18 = .ok (.iconst 1, 1) := by decide +kernel
theorem d1_19 : decode method_2_code 19 = .ok (.iushr, 1) := by decide +kernel
theorem d1_20 : decode method_2_code 20 = .ok (.ldc 7, 2) := by decide +kernel
theorem d1_22 : decode method_2_code 22 = .ok (.iand, 1) := by decide +kernel
theorem d1_23 : decode method_2_code 23 = .ok (.i2c, 1) := by decide +kernel
theorem d1_24 : decode method_2_code 24 = .ok (.ireturn, 1) := by decide +kernel
theorem d2_0 : decode jdk_42_method_3_code 0 = .ok (.aload_n 0, 1) := by decide +kernel
theorem d2_1 : decode jdk_42_method_3_code 1 = .ok (.aload_n 1, 1) := by decide +kernel
theorem d2_2 : decode jdk_42_method_3_code 2 = .ok (.iconst 0, 1) := by decide +kernel
theorem d2_3 : decode jdk_42_method_3_code 3 = .ok (.aload_n 1, 1) := by decide +kernel
theorem d2_4 : decode jdk_42_method_3_code 4 = .ok (.arraylength, 1) := by decide +kernel
theorem d2_5 : decode jdk_42_method_3_code 5 = .ok (.aconst_null, 1) := by decide +kernel
theorem d2_6 : decode jdk_42_method_3_code 6 = .ok (.invokespecial 27, 3) := by decide +kernel
theorem d2_9 : decode jdk_42_method_3_code 9 = .ok (.return_, 1) := by decide +kernel
theorem d3_0 : decode jdk_42_method_149_code 0 = .ok (.aload_n 0, 1) := by decide +kernel
theorem d3_1 : decode jdk_42_method_149_code 1 = .ok (.invokespecial 1, 3) := by decide +kernel
theorem d3_4 : decode jdk_42_method_149_code 4 = .ok (.iload_n 3, 1) := by decide +kernel
theorem d3_5 : decode jdk_42_method_149_code 5 = .ok (.ifCond .ne 22, 3) := by decide +kernel
theorem d3_27 : decode jdk_42_method_149_code 27 = .ok (.getstatic 38, 3) := by decide +kernel
theorem d3_30 : decode jdk_42_method_149_code 30 = .ok (.ifCond .eq 28, 3) := by decide +kernel
theorem d3_33 : decode jdk_42_method_149_code 33 = .ok (.aload_n 1, 1) := by decide +kernel
theorem d3_34 : decode jdk_42_method_149_code 34 = .ok (.iload_n 2, 1) := by decide +kernel
theorem d3_35 : decode jdk_42_method_149_code 35 = .ok (.iload_n 3, 1) := by decide +kernel
theorem d3_36 : decode jdk_42_method_149_code 36 = .ok (.invokestatic 177, 3) := by decide +kernel
theorem d3_39 : decode jdk_42_method_149_code 39 = .ok (.astore 5, 2) := by decide +kernel
theorem d3_41 : decode jdk_42_method_149_code 41 = .ok (.aload_n 0, 1) := by decide +kernel
theorem d3_42 : decode jdk_42_method_149_code 42 = .ok (.aload 5, 2) := by decide +kernel
theorem d3_44 : decode jdk_42_method_149_code 44 = .ok (.iload_n 3, 1) := by decide +kernel
theorem d3_45 : decode jdk_42_method_149_code 45 = .ok (.invokestatic 47, 3) := by decide +kernel
theorem d3_48 : decode jdk_42_method_149_code 48 = .ok (.putfield 15, 3) := by decide +kernel
theorem d3_51 : decode jdk_42_method_149_code 51 = .ok (.aload_n 0, 1) := by decide +kernel
theorem d3_52 : decode jdk_42_method_149_code 52 = .ok (.aload 5, 2) := by decide +kernel
theorem d3_54 : decode jdk_42_method_149_code 54 = .ok (.putfield 9, 3) := by decide +kernel
theorem d3_57 : decode jdk_42_method_149_code 57 = .ok (.return_, 1) := by decide +kernel
theorem d5_0 : decode jdk_52_method_16_code 0 = .ok (.iload_n 2, 1) := by decide +kernel
theorem d5_1 : decode jdk_52_method_16_code 1 = .ok (.newarray .byte, 2) := by decide +kernel
theorem d5_3 : decode jdk_52_method_16_code 3 = .ok (.astore_n 3, 1) := by decide +kernel
theorem d5_4 : decode jdk_52_method_16_code 4 = .ok (.aload_n 0, 1) := by decide +kernel
theorem d5_5 : decode jdk_52_method_16_code 5 = .ok (.iload_n 1, 1) := by decide +kernel
theorem d5_6 : decode jdk_52_method_16_code 6 = .ok (.aload_n 3, 1) := by decide +kernel
theorem d5_7 : decode jdk_52_method_16_code 7 = .ok (.iconst 0, 1) := by decide +kernel
theorem d5_8 : decode jdk_52_method_16_code 8 = .ok (.iload_n 2, 1) := by decide +kernel
theorem d5_9 : decode jdk_52_method_16_code 9 = .ok (.invokestatic 115, 3) := by decide +kernel
theorem d5_12 : decode jdk_52_method_16_code 12 = .ok (.istore 4, 2) := by decide +kernel
theorem d5_14 : decode jdk_52_method_16_code 14 = .ok (.iload 4, 2) := by decide +kernel
theorem d5_16 : decode jdk_52_method_16_code 16 = .ok (.iload_n 2, 1) := by decide +kernel
theorem d5_17 : decode jdk_52_method_16_code 17 = .ok (.if_icmp .eq 40, 3) := by decide +kernel
theorem d5_20 : decode jdk_52_method_16_code 20 = .ok (.aload_n 0, 1) := by decide +kernel
theorem d5_21 : decode jdk_52_method_16_code 21 = .ok (.iload_n 1, 1) := by decide +kernel
theorem d5_22 : decode jdk_52_method_16_code 22 = .ok (.iload_n 2, 1) := by decide +kernel
theorem d5_23 : decode jdk_52_method_16_code 23 = .ok (.invokestatic 119, 3) := by decide +kernel
theorem d5_26 : decode jdk_52_method_16_code 26 = .ok (.astore 5, 2) := by decide +kernel
theorem d5_28 : decode jdk_52_method_16_code 28 = .ok (.aload 5, 2) := by decide +kernel
theorem d5_30 : decode jdk_52_method_16_code 30 = .ok (.iload 4, 2) := by decide +kernel
theorem d5_32 : decode jdk_52_method_16_code 32 = .ok (.invokestatic 71, 3) := by decide +kernel
theorem d5_35 : decode jdk_52_method_16_code 35 = .ok (.sipush 255, 3) := by decide +kernel
theorem d5_38 : decode jdk_52_method_16_code 38 = .ok (.if_icmp .gt 16, 3) := by decide +kernel
theorem d5_54 : decode jdk_52_method_16_code 54 = .ok (.aload 5, 2) := by decide +kernel
theorem d5_56 : decode jdk_52_method_16_code 56 = .ok (.areturn, 1) := by decide +kernel
theorem d5_57 : decode jdk_52_method_16_code 57 = .ok (.aload_n 3, 1) := by decide +kernel
theorem d5_58 : decode jdk_52_method_16_code 58 = .ok (.areturn, 1) := by decide +kernel
theorem d6_0 : decode jdk_52_method_21_code 0 = .ok (.iconst 0, 1) := by decide +kernel
theorem d6_1 : decode jdk_52_method_21_code 1 = .ok (.istore 5, 2) := by decide +kernel
theorem d6_3 : decode jdk_52_method_21_code 3 = .ok (.iload 5, 2) := by decide +kernel
theorem d6_5 : decode jdk_52_method_21_code 5 = .ok (.iload 4, 2) := by decide +kernel
theorem d6_7 : decode jdk_52_method_21_code 7 = .ok (.if_icmp .ge 37, 3) := by decide +kernel
theorem d6_10 : decode jdk_52_method_21_code 10 = .ok (.aload_n 0, 1) := by decide +kernel
theorem d6_11 : decode jdk_52_method_21_code 11 = .ok (.iload_n 1, 1) := by decide +kernel
theorem d6_12 : decode jdk_52_method_21_code 12 = .ok (.caload, 1) := by decide +kernel
theorem d6_13 : decode jdk_52_method_21_code 13 = .ok (.istore 6, 2) := by decide +kernel
theorem d6_15 : decode jdk_52_method_21_code 15 = .ok (.iload 6, 2) := by decide +kernel
theorem d6_17 : decode jdk_52_method_21_code 17 = .ok (.sipush 255, 3) := by decide +kernel
theorem d6_20 : decode jdk_52_method_21_code 20 = .ok (.if_icmp .le 6, 3) := by decide +kernel
theorem d6_23 : decode jdk_52_method_21_code 23 = .ok (.iload 5, 2) := by decide +kernel
theorem d6_25 : decode jdk_52_method_21_code 25 = .ok (.ireturn, 1) := by decide +kernel
theorem d6_26 : decode jdk_52_method_21_code 26 = .ok (.aload_n 2, 1) := by decide +kernel
theorem d6_27 : decode jdk_52_method_21_code 27 = .ok (.iload_n 3, 1) := by decide +kernel
theorem d6_28 : decode jdk_52_method_21_code 28 = .ok (.iload 6, 2) := by decide +kernel
theorem d6_30 : decode jdk_52_method_21_code 30 = .ok (.i2b, 1) := by decide +kernel
theorem d6_31 : decode jdk_52_method_21_code 31 = .ok (.bastore, 1) := by decide +kernel
theorem d6_32 : decode jdk_52_method_21_code 32 = .ok (.iinc 1 1, 3) := by decide +kernel
theorem d6_35 : decode jdk_52_method_21_code 35 = .ok (.iinc 3 1, 3) := by decide +kernel
theorem d6_38 : decode jdk_52_method_21_code 38 = .ok (.iinc 5 1, 3) := by decide +kernel
theorem d6_41 : decode jdk_52_method_21_code 41 = .ok (.goto (-38), 3) := by decide +kernel
theorem d6_44 : decode jdk_52_method_21_code 44 = .ok (.iload 4, 2) := by decide +kernel
theorem d6_46 : decode jdk_52_method_21_code 46 = .ok (.ireturn, 1) := by decide +kernel
theorem d7_0 : decode jdk_52_method_15_code 0 = .ok (.iload_n 1, 1) := by decide +kernel
theorem d7_1 : decode jdk_52_method_15_code 1 = .ok (.aload_n 0, 1) := by decide +kernel
theorem d7_2 : decode jdk_52_method_15_code 2 = .ok (.arraylength, 1) := by decide +kernel
theorem d7_3 : decode jdk_52_method_15_code 3 = .ok (.isub, 1) := by decide +kernel
theorem d7_4 : decode jdk_52_method_15_code 4 = .ok (.bipush 31, 2) := by decide +kernel
theorem d7_6 : decode jdk_52_method_15_code 6 = .ok (.iushr, 1) := by decide +kernel
theorem d7_7 : decode jdk_52_method_15_code 7 = .ok (.i2b, 1) := by decide +kernel
theorem d7_8 : decode jdk_52_method_15_code 8 = .ok (.ireturn, 1) := by decide +kernel
theorem d8_0 : decode prog_50_method_16_code 0 = .ok (.iload_n 2, 1) := by decide +kernel
theorem d8_1 : decode prog_50_method_16_code 1 = .ok (.iload_n 1, 1) := by decide +kernel
theorem d8_2 : decode prog_50_method_16_code 2 = .ok (.isub, 1) := by decide +kernel
theorem d8_3 : decode prog_50_method_16_code 3 = .ok (.istore_n 3, 1) := by decide +kernel
theorem d8_4 : decode prog_50_method_16_code 4 = .ok (.iload_n 3, 1) := by decide +kernel
theorem d8_5 : decode prog_50_method_16_code 5 = .ok (.iconst 1, 1) := by decide +kernel
theorem d8_6 : decode prog_50_method_16_code 6 = .ok (.if_icmp .lt 23, 3) := by decide +kernel
theorem d8_9 : decode prog_50_method_16_code 9 = .ok (.iload_n 3, 1) := by decide +kernel
theorem d8_10 : decode prog_50_method_16_code 10 = .ok (.iconst 3, 1) := by decide +kernel
theorem d8_11 : decode prog_50_method_16_code 11 = .ok (.if_icmp .gt 18, 3) := by decide +kernel
theorem d8_14 : decode prog_50_method_16_code 14 = .ok (.iload_n 3, 1) := by decide +kernel
theorem d8_15 : decode prog_50_method_16_code 15 = .ok (.iconst 1, 1) := by decide +kernel
theorem d8_16 : decode prog_50_method_16_code 16 = .ok (.if_icmp .le 15, 3) := by decide +kernel
theorem d8_19 : decode prog_50_method_16_code 19 = .ok (.aload_n 0, 1) := by decide +kernel
theorem d8_20 : decode prog_50_method_16_code 20 = .ok (.iload_n 1, 1) := by decide +kernel
theorem d8_21 : decode prog_50_method_16_code 21 = .ok (.invokevirtual 133, 3) := by decide +kernel
theorem d8_24 : decode prog_50_method_16_code 24 = .ok (.bipush 48, 2) := by decide +kernel
theorem d8_26 : decode prog_50_method_16_code 26 = .ok (.if_icmp .ne 5, 3) := by decide +kernel
theorem d8_29 : decode prog_50_method_16_code 29 = .ok (.iconst (-1), 1) := by decide +kernel
theorem d8_30 : decode prog_50_method_16_code 30 = .ok (.ireturn, 1) := by decide +kernel
theorem d8_31 : decode prog_50_method_16_code 31 = .ok (.iconst 0, 1) := by decide +kernel
theorem d8_32 : decode prog_50_method_16_code 32 = .ok (.istore 4, 2) := by decide +kernel
theorem d8_34 : decode prog_50_method_16_code 34 = .ok (.iload_n 1, 1) := by decide +kernel
theorem d8_35 : decode prog_50_method_16_code 35 = .ok (.istore 5, 2) := by decide +kernel
theorem d8_37 : decode prog_50_method_16_code 37 = .ok (.iload 5, 2) := by decide +kernel
theorem d8_39 : decode prog_50_method_16_code 39 = .ok (.iload_n 2, 1) := by decide +kernel
theorem d8_40 : decode prog_50_method_16_code 40 = .ok (.if_icmp .ge 46, 3) := by decide +kernel
theorem d8_43 : decode prog_50_method_16_code 43 = .ok (.aload_n 0, 1) := by decide +kernel
theorem d8_44 : decode prog_50_method_16_code 44 = .ok (.iload 5, 2) := by decide +kernel
theorem d8_46 : decode prog_50_method_16_code 46 = .ok (.invokevirtual 133, 3) := by decide +kernel
theorem d8_49 : decode prog_50_method_16_code 49 = .ok (.istore 6, 2) := by decide +kernel
theorem d8_51 : decode prog_50_method_16_code 51 = .ok (.iload 6, 2) := by decide +kernel
theorem d8_53 : decode prog_50_method_16_code 53 = .ok (.bipush 48, 2) := by decide +kernel
theorem d8_55 : decode prog_50_method_16_code 55 = .ok (.if_icmp .lt 10, 3) := by decide +kernel
theorem d8_58 : decode prog_50_method_16_code 58 = .ok (.iload 6, 2) := by decide +kernel
theorem d8_60 : decode prog_50_method_16_code 60 = .ok (.bipush 57, 2) := by decide +kernel
theorem d8_62 : decode prog_50_method_16_code 62 = .ok (.if_icmp .le 5, 3) := by decide +kernel
theorem d8_65 : decode prog_50_method_16_code 65 = .ok (.iconst (-1), 1) := by decide +kernel
theorem d8_66 : decode prog_50_method_16_code 66 = .ok (.ireturn, 1) := by decide +kernel
theorem d8_67 : decode prog_50_method_16_code 67 = .ok (.iload 4, 2) := by decide +kernel
theorem d8_69 : decode prog_50_method_16_code 69 = .ok (.bipush 10, 2) := by decide +kernel
theorem d8_71 : decode prog_50_method_16_code 71 = .ok (.imul, 1) := by decide +kernel
theorem d8_72 : decode prog_50_method_16_code 72 = .ok (.iload 6, 2) := by decide +kernel
theorem d8_74 : decode prog_50_method_16_code 74 = .ok (.bipush 48, 2) := by decide +kernel
theorem d8_76 : decode prog_50_method_16_code 76 = .ok (.isub, 1) := by decide +kernel
theorem d8_77 : decode prog_50_method_16_code 77 = .ok (.iadd, 1) := by decide +kernel
theorem d8_78 : decode prog_50_method_16_code 78 = .ok (.istore 4, 2) := by decide +kernel
theorem d8_80 : decode prog_50_method_16_code 80 = .ok (.iinc 5 1, 3) := by decide +kernel
theorem d8_83 : decode prog_50_method_16_code 83 = .ok (.goto (-46), 3) := by decide +kernel
theorem d8_86 : decode prog_50_method_16_code 86 = .ok (.iload 4, 2) := by decide +kernel
theorem d8_88 : decode prog_50_method_16_code 88 = .ok (.ireturn, 1) := by decide +kernel
theorem d9_0 : decode jdk_52_method_14_code 0 = .ok (.iload_n 2, 1) := by decide +kernel
theorem d9_1 : decode jdk_52_method_14_code 1 = .ok (.invokestatic 107, 3) := by decide +kernel
theorem d9_4 : decode jdk_52_method_14_code 4 = .ok (.astore_n 3, 1) := by decide +kernel
theorem d9_5 : decode jdk_52_method_14_code 5 = .ok (.iconst 0, 1) := by decide +kernel
theorem d9_6 : decode jdk_52_method_14_code 6 = .ok (.istore 4, 2) := by decide +kernel
theorem d9_8 : decode jdk_52_method_14_code 8 = .ok (.iload 4, 2) := by decide +kernel
theorem d9_10 : decode jdk_52_method_14_code 10 = .ok (.iload_n 2, 1) := by decide +kernel
theorem d9_11 : decode jdk_52_method_14_code 11 = .ok (.if_icmp .ge 21, 3) := by decide +kernel
theorem d9_14 : decode jdk_52_method_14_code 14 = .ok (.aload_n 3, 1) := by decide +kernel
theorem d9_15 : decode jdk_52_method_14_code 15 = .ok (.iload 4, 2) := by decide +kernel
theorem d9_17 : decode jdk_52_method_14_code 17 = .ok (.aload_n 0, 1) := by decide +kernel
theorem d9_18 : decode jdk_52_method_14_code 18 = .ok (.iload_n 1, 1) := by decide +kernel
theorem d9_19 : decode jdk_52_method_14_code 19 = .ok (.caload, 1) := by decide +kernel
theorem d9_20 : decode jdk_52_method_14_code 20 = .ok (.invokestatic 111, 3) := by decide +kernel
theorem d9_23 : decode jdk_52_method_14_code 23 = .ok (.iinc 1 1, 3) := by decide +kernel
theorem d9_26 : decode jdk_52_method_14_code 26 = .ok (.iinc 4 1, 3) := by decide +kernel
theorem d9_29 : decode jdk_52_method_14_code 29 = .ok (.goto (-21), 3) := by decide +kernel
theorem d9_32 : decode jdk_52_method_14_code 32 = .ok (.aload_n 3, 1) := by decide +kernel
theorem d9_33 : decode jdk_52_method_14_code 33 = .ok (.areturn, 1) := by decide +kernel
theorem d10_0 : decode jdk_52_method_2_code 0 = .ok (.iload_n 0, 1) := by decide +kernel
theorem d10_1 : decode jdk_52_method_2_code 1 = .ok (.invokestatic 11, 3) := by decide +kernel
theorem d10_4 : decode jdk_52_method_2_code 4 = .ok (.newarray .byte, 2) := by decide +kernel
theorem d10_6 : decode jdk_52_method_2_code 6 = .ok (.areturn, 1) := by decide +kernel
theorem d11_0 : decode jdk_52_method_3_code 0 = .ok (.iload_n 0, 1) := by decide +kernel
theorem d11_1 : decode jdk_52_method_3_code 1 = .ok (.ifCond .ge 11, 3) := by decide +kernel
theorem d11_12 : decode jdk_52_method_3_code 12 = .ok (.iload_n 0, 1) := by decide +kernel
theorem d11_13 : decode jdk_52_method_3_code 13 = .ok (.ldc 20, 2) := by decide +kernel
theorem d11_15 : decode jdk_52_method_3_code 15 = .ok (.if_icmp .lt 40, 3) := by decide +kernel
theorem d11_55 : decode jdk_52_method_3_code 55 = .ok (.iload_n 0, 1) := by decide +kernel
theorem d11_56 : decode jdk_52_method_3_code 56 = .ok (.iconst 1, 1) := by decide +kernel
theorem d11_57 : decode jdk_52_method_3_code 57 = .ok (.ishl, 1) := by decide +kernel
theorem d11_58 : decode jdk_52_method_3_code 58 = .ok (.ireturn, 1) := by decide +kernel
theorem d12_0 : decode jdk_52_method_4_code 0 = .ok (.getstatic 44, 3) := by decide +kernel
theorem d12_3 : decode jdk_52_method_4_code 3 = .ok (.ifCond .ne 25, 3) := by decide +kernel
theorem d12_28 : decode jdk_52_method_4_code 28 = .ok (.iload_n 1, 1) := by decide +kernel
theorem d12_29 : decode jdk_52_method_4_code 29 = .ok (.iconst 1, 1) := by decide +kernel
theorem d12_30 : decode jdk_52_method_4_code 30 = .ok (.ishl, 1) := by decide +kernel
theorem d12_31 : decode jdk_52_method_4_code 31 = .ok (.istore_n 1, 1) := by decide +kernel
theorem d12_32 : decode jdk_52_method_4_code 32 = .ok (.aload_n 0, 1) := by decide +kernel
theorem d12_33 : decode jdk_52_method_4_code 33 = .ok (.iload_n 1, 1) := by decide +kernel
theorem d12_34 : decode jdk_52_method_4_code 34 = .ok (.iinc 1 1, 3) := by decide +kernel
theorem d12_37 : decode jdk_52_method_4_code 37 = .ok (.iload_n 2, 1) := by decide +kernel
theorem d12_38 : decode jdk_52_method_4_code 38 = .ok (.getstatic 59, 3) := by decide +kernel
theorem d12_41 : decode jdk_52_method_4_code 41 = .ok (.ishr, 1) := by decide +kernel
theorem d12_42 : decode jdk_52_method_4_code 42 = .ok (.i2b, 1) := by decide +kernel
theorem d12_43 : decode jdk_52_method_4_code 43 = .ok (.bastore, 1) := by decide +kernel
theorem d12_44 : decode jdk_52_method_4_code 44 = .ok (.aload_n 0, 1) := by decide +kernel
theorem d12_45 : decode jdk_52_method_4_code 45 = .ok (.iload_n 1, 1) := by decide +kernel
theorem d12_46 : decode jdk_52_method_4_code 46 = .ok (.iload_n 2, 1) := by decide +kernel
theorem d12_47 : decode jdk_52_method_4_code 47 = .ok (.getstatic 63, 3) := by decide +kernel
theorem d12_50 : decode jdk_52_method_4_code 50 = .ok (.ishr, 1) := by decide +kernel
theorem d12_51 : decode jdk_52_method_4_code 51 = .ok (.i2b, 1) := by decide +kernel
theorem d12_52 : decode jdk_52_method_4_code 52 = .ok (.bastore, 1) := by decide +kernel
theorem d12_53 : decode jdk_52_method_4_code 53 = .ok (.return_, 1) := by decide +kernel
theorem d13_0 : decode jdk_52_method_5_code 0 = .ok (.getstatic 44, 3) := by decide +kernel
theorem d13_3 : decode jdk_52_method_5_code 3 = .ok (.ifCond .ne 25, 3) := by decide +kernel
theorem d13_28 : decode jdk_52_method_5_code 28 = .ok (.iload_n 1, 1) := by decide +kernel
theorem d13_29 : decode jdk_52_method_5_code 29 = .ok (.iconst 1, 1) := by decide +kernel
theorem d13_30 : decode jdk_52_method_5_code 30 = .ok (.ishl, 1) := by decide +kernel
theorem d13_31 : decode jdk_52_method_5_code 31 = .ok (.istore_n 1, 1) := by decide +kernel
theorem d13_32 : decode jdk_52_method_5_code 32 = .ok (.aload_n 0, 1) := by decide +kernel
theorem d13_33 : decode jdk_52_method_5_code 33 = .ok (.iload_n 1, 1) := by decide +kernel
theorem d13_34 : decode jdk_52_method_5_code 34 = .ok (.iinc 1 1, 3) := by decide +kernel
theorem d13_37 : decode jdk_52_method_5_code 37 = .ok (.baload, 1) := by decide +kernel
theorem d13_38 : decode jdk_52_method_5_code 38 = .ok (.sipush 255, 3) := by decide +kernel
theorem d13_41 : decode jdk_52_method_5_code 41 = .ok (.iand, 1) := by decide +kernel
theorem d13_42 : decode jdk_52_method_5_code 42 = .ok (.getstatic 59, 3) := by decide +kernel
theorem d13_45 : decode jdk_52_method_5_code 45 = .ok (.ishl, 1) := by decide +kernel
theorem d13_46 : decode jdk_52_method_5_code 46 = .ok (.aload_n 0, 1) := by decide +kernel
theorem d13_47 : decode jdk_52_method_5_code 47 = .ok (.iload_n 1, 1) := by decide +kernel
theorem d13_48 : decode jdk_52_method_5_code 48 = .ok (.baload, 1) := by decide +kernel
theorem d13_49 : decode jdk_52_method_5_code 49 = .ok (.sipush 255, 3) := by decide +kernel
theorem d13_52 : decode jdk_52_method_5_code 52 = .ok (.iand, 1) := by decide +kernel
theorem d13_53 : decode jdk_52_method_5_code 53 = .ok (.getstatic 63, 3) := by decide +kernel
theorem d13_56 : decode jdk_52_method_5_code 56 = .ok (.ishl, 1) := by decide +kernel
theorem d13_57 : decode jdk_52_method_5_code 57 = .ok (.ior, 1) := by decide +kernel
theorem d13_58 : decode jdk_52_method_5_code 58 = .ok (.i2c, 1) := by decide +kernel
theorem d13_59 : decode jdk_52_method_5_code 59 = .ok (.ireturn, 1) := by decide +kernel
theorem d14_0 : decode method_3_code 0 = .ok (.iload_n 0, 1) := by decide +kernel
theorem d14_1 : decode method_3_code 1 = .ok (.bipush 48, 2) := by decide +kernel
theorem d14_3 : decode method_3_code 3 = .ok (.if_icmp .lt 14, 3) := by decide +kernel
theorem d14_6 : decode method_3_code 6 = .ok (.iload_n 0, 1) := by decide +kernel
theorem d14_7 : decode method_3_code 7 = .ok (.bipush 57, 2) := by decide +kernel
theorem d14_9 : decode method_3_code 9 = .ok (.if_icmp .gt 8, 3) := by decide +kernel
theorem d14_12 : decode method_3_code 12 = .ok (.iload_n 0, 1) := by decide +kernel
theorem d14_13 : decode method_3_code 13 = .ok (.bipush 48, 2) := by decide +kernel
theorem d14_15 : decode method_3_code 15 = .ok (.isub, 1) := by decide +kernel
theorem d14_16 : decode method_3_code 16 = .ok (.ireturn, 1) := by decide +kernel
theorem d14_17 : decode method_3_code 17 = .ok (.iconst (-1), 1) := by decide +kernel
theorem d14_18 : decode method_3_code 18 = .ok (.ireturn, 1) := by decide +kernel
theorem d15_0 : decode jdk_42_method_56_code 0 = .ok (.aload_n 0, 1) := by decide +kernel
theorem d15_1 : decode jdk_42_method_56_code 1 = .ok (.invokevirtual 492, 3) := by decide +kernel
theorem d15_4 : decode jdk_42_method_56_code 4 = .ok (.ifCond .eq 12, 3) := by decide +kernel
theorem d15_7 : decode jdk_42_method_56_code 7 = .ok (.aload_n 0, 1) := by decide +kernel
theorem d15_8 : decode jdk_42_method_56_code 8 = .ok (.getfield 9, 3) := by decide +kernel
theorem d15_11 : decode jdk_42_method_56_code 11 = .ok (.iload_n 1, 1) := by decide +kernel
theorem d15_12 : decode jdk_42_method_56_code 12 = .ok (.invokestatic 495, 3) := by decide +kernel
theorem d15_15 : decode jdk_42_method_56_code 15 = .ok (.ireturn, 1) := by decide +kernel
theorem d15_16 : decode jdk_42_method_56_code 16 = .ok (.aload_n 0, 1) := by decide +kernel
theorem d15_17 : decode jdk_42_method_56_code 17 = .ok (.getfield 9, 3) := by decide +kernel
theorem d15_20 : decode jdk_42_method_56_code 20 = .ok (.iload_n 1, 1) := by decide +kernel
theorem d15_21 : decode jdk_42_method_56_code 21 = .ok (.invokestatic 498, 3) := by decide +kernel
theorem d15_24 : decode jdk_42_method_56_code 24 = .ok (.ireturn, 1) := by decide +kernel
theorem d16_0 : decode jdk_42_method_154_code 0 = .ok (.getstatic 38, 3) := by decide +kernel
theorem d16_3 : decode jdk_42_method_154_code 3 = .ok (.ifCond .eq 14, 3) := by decide +kernel
theorem d16_6 : decode jdk_42_method_154_code 6 = .ok (.aload_n 0, 1) := by decide +kernel
theorem d16_7 : decode jdk_42_method_154_code 7 = .ok (.getfield 15, 3) := by decide +kernel
theorem d16_10 : decode jdk_42_method_154_code 10 = .ok (.ifCond .ne 7, 3) := by decide +kernel
theorem d16_13 : decode jdk_42_method_154_code 13 = .ok (.iconst 1, 1) := by decide +kernel
theorem d16_14 : decode jdk_42_method_154_code 14 = .ok (.goto 4, 3) := by decide +kernel
theorem d16_17 : decode jdk_42_method_154_code 17 = .ok (.iconst 0, 1) := by decide +kernel
theorem d16_18 : decode jdk_42_method_154_code 18 = .ok (.ireturn, 1) := by decide +kernel
theorem d17_0 : decode jdk_52_method_83_code 0 = .ok (.iload_n 1, 1) := by decide +kernel
theorem d17_1 : decode jdk_52_method_83_code 1 = .ok (.aload_n 0, 1) := by decide +kernel
theorem d17_2 : decode jdk_52_method_83_code 2 = .ok (.invokestatic 67, 3) := by decide +kernel
theorem d17_5 : decode jdk_52_method_83_code 5 = .ok (.aload_n 0, 1) := by decide +kernel
theorem d17_6 : decode jdk_52_method_83_code 6 = .ok (.iload_n 1, 1) := by decide +kernel
theorem d17_7 : decode jdk_52_method_83_code 7 = .ok (.invokestatic 71, 3) := by decide +kernel
theorem d17_10 : decode jdk_52_method_83_code 10 = .ok (.ireturn, 1) := by decide +kernel
theorem d18_0 : decode jdk_52_method_91_code 0 = .ok (.iload_n 0, 1) := by decide +kernel
theorem d18_1 : decode jdk_52_method_91_code 1 = .ok (.aload_n 1, 1) := by decide +kernel
theorem d18_2 : decode jdk_52_method_91_code 2 = .ok (.invokestatic 48, 3) := by decide +kernel
theorem d18_5 : decode jdk_52_method_91_code 5 = .ok (.invokestatic 414, 3) := by decide +kernel
theorem d18_8 : decode jdk_52_method_91_code 8 = .ok (.return_, 1) := by decide +kernel
theorem d19_0 : decode jdk_52_method_6_code 0 = .ok (.aload_n 0, 1) := by decide +kernel
theorem d19_1 : decode jdk_52_method_6_code 1 = .ok (.arraylength, 1) := by decide +kernel
theorem d19_2 : decode jdk_52_method_6_code 2 = .ok (.iconst 1, 1) := by decide +kernel
theorem d19_3 : decode jdk_52_method_6_code 3 = .ok (.ishr, 1) := by decide +kernel
theorem d19_4 : decode jdk_52_method_6_code 4 = .ok (.ireturn, 1) := by decide +kernel
theorem d20_0 : decode jdk_42_method_155_code 0 = .ok (.iload_n 0, 1) := by decide +kernel
theorem d20_1 : decode jdk_42_method_155_code 1 = .ok (.iload_n 1, 1) := by decide +kernel
theorem d20_2 : decode jdk_42_method_155_code 2 = .ok (.getstatic 1053, 3) := by decide +kernel
theorem d20_5 : decode jdk_42_method_155_code 5 = .ok (.invokestatic 1059, 3) := by decide +kernel
theorem d20_8 : decode jdk_42_method_155_code 8 = .ok (.pop, 1) := by decide +kernel
theorem d20_9 : decode jdk_42_method_155_code 9 = .ok (.return_, 1) := by decide +kernel
theorem d21_0 : decode jdk_41_method_11_code 0 = .ok (.iload_n 0, 1) := by decide +kernel
theorem d21_1 : decode jdk_41_method_11_code 1 = .ok (.ifCond .lt 8, 3) := by decide +kernel
theorem d21_4 : decode jdk_41_method_11_code 4 = .ok (.iload_n 0, 1) := by decide +kernel
theorem d21_5 : decode jdk_41_method_11_code 5 = .ok (.iload_n 1, 1) := by decide +kernel
theorem d21_6 : decode jdk_41_method_11_code 6 = .ok (.if_icmp .lt 10, 3) := by decide +kernel
theorem d21_16 : decode jdk_41_method_11_code 16 = .ok (.iload_n 0, 1) := by decide +kernel
theorem d21_17 : decode jdk_41_method_11_code 17 = .ok (.ireturn, 1) := by decide +kernel
theorem d22_0 : decode jdk_43_method_2_code 0 = .ok (.iload_n 1, 1) := by decide +kernel
theorem d22_1 : decode jdk_43_method_2_code 1 = .ok (.aload_n 0, 1) := by decide +kernel
theorem d22_2 : decode jdk_43_method_2_code 2 = .ok (.arraylength, 1) := by decide +kernel
theorem d22_3 : decode jdk_43_method_2_code 3 = .ok (.invokestatic 9, 3) := by decide +kernel
theorem d22_6 : decode jdk_43_method_2_code 6 = .ok (.aload_n 0, 1) := by decide +kernel
theorem d22_7 : decode jdk_43_method_2_code 7 = .ok (.iload_n 1, 1) := by decide +kernel
theorem d22_8 : decode jdk_43_method_2_code 8 = .ok (.baload, 1) := by decide +kernel
theorem d22_9 : decode jdk_43_method_2_code 9 = .ok (.sipush 255, 3) := by decide +kernel
theorem d22_12 : decode jdk_43_method_2_code 12 = .ok (.iand, 1) := by decide +kernel
theorem d22_13 : decode jdk_43_method_2_code 13 = .ok (.i2c, 1) := by decide +kernel
theorem d22_14 : decode jdk_43_method_2_code 14 = .ok (.ireturn, 1) := by decide +kernel
theorem pd0 : parseMethodDescriptor "(IILjava/util/function/BiFunction;)I" = some ⟨[.int, .int, (.object "java/util/function/BiFunction")], some .int⟩ := by decide +kernel
theorem pd1 : parseMethodDescriptor "([B)I" = some ⟨[(.array .byte)], some .int⟩ := by decide +kernel
theorem pd2 : parseMethodDescriptor "(II)V" = some ⟨[.int, .int], none⟩ := by decide +kernel
theorem pd3 : parseMethodDescriptor "(I)I" = some ⟨[.int], some .int⟩ := by decide +kernel
theorem pd4 : parseMethodDescriptor "(I)[B" = some ⟨[.int], some (.array .byte)⟩ := by decide +kernel
theorem pd5 : parseMethodDescriptor "([BII)V" = some ⟨[(.array .byte), .int, .int], none⟩ := by decide +kernel
theorem pd6 : parseMethodDescriptor "([CI[BII)I" = some ⟨[(.array .char), .int, (.array .byte), .int, .int], some .int⟩ := by decide +kernel
theorem pd7 : parseMethodDescriptor "([CII)[B" = some ⟨[(.array .char), .int, .int], some (.array .byte)⟩ := by decide +kernel
theorem pd8 : parseMethodDescriptor "([BI)C" = some ⟨[(.array .byte), .int], some .char⟩ := by decide +kernel
theorem pd9 : parseMethodDescriptor "([BI)B" = some ⟨[(.array .byte), .int], some .byte⟩ := by decide +kernel
theorem pd10 : parseMethodDescriptor "([CIILjava/lang/Void;)V" = some ⟨[(.array .char), .int, .int, (.object "java/lang/Void")], none⟩ := by decide +kernel
theorem pd11 : parseMethodDescriptor "(I[B)V" = some ⟨[.int, (.array .byte)], none⟩ := by decide +kernel
theorem pd12 : parseMethodDescriptor "()Z" = some ⟨[], some .boolean⟩ := by decide +kernel
theorem pd13 : parseMethodDescriptor "(I)C" = some ⟨[.int], some .char⟩ := by decide +kernel
theorem pd14 : parseMethodDescriptor "([C)V" = some ⟨[(.array .char)], none⟩ := by decide +kernel
theorem pd15 : parseMethodDescriptor "(Ljava/lang/String;II)I" = some ⟨[(.object "java/lang/String"), .int, .int], some .int⟩ := by decide +kernel
theorem pd16 : parseMethodDescriptor "(C)I" = some ⟨[.char], some .int⟩ := by decide +kernel
theorem pn0 : plainName "com/example/rulewarden/rulewarden/model/IpAddressDecimalPinLaw" = true := by first | (simp [plainName, overriddenIn]; done) | decide +kernel
theorem pn1 : plainName "java/lang/StringUTF16" = true := by first | (simp [plainName, overriddenIn]; done) | decide +kernel
theorem pn2 : plainName "jdk/internal/util/Preconditions" = true := by first | (simp [plainName, overriddenIn]; done) | decide +kernel
theorem pn3 : plainName "java/lang/String" = true := by first | (simp [plainName, overriddenIn]; done) | decide +kernel
theorem pn4 : plainName "java/lang/StringLatin1" = true := by first | (simp [plainName, overriddenIn]; done) | decide +kernel
theorem pn5 : plainName "com/example/rulewarden/rulewarden/model/IpAddress" = true := by first | (simp [plainName, overriddenIn]; done) | decide +kernel
def chF (x : Int32) : Int32 := nar .char (if x &&& 1 = 0 then (XT.ushr x 1 &&& 65535).toUInt32.toUInt16.toUInt32.toInt32 else (48 + (XT.ushr x 1 &&& 15)).toUInt32.toUInt16.toUInt32.toInt32)
set_option maxRecDepth 65536 in
set_option maxHeartbeats 4000000 in
theorem c_ch {l : Launch} {Z : State} {a0 : Array Value} {EL : List (String × Nat)} {wd : Prop} (hG : oG a0 Z EL) (x : Int32) (h : Heap)  :
    oCtr [] l Z a0 EL wd (⟨"com/example/rulewarden/rulewarden/model/IpAddressDecimalPinLaw", "ch", "(I)C"⟩ : MethodName) method_2_code 1 (some .char) ({ frames := 0, cells := 0, slots := 0, locals := 0 } : Room) #[.int x] [] h (fun v h' => v = some (.int (chF x)) ∧ h' = h) oNo := by
  refine oCtr.enter (Ls := #[.val (.int x)]) (plainFor_of_name pn0) hG.2.1 (fun m => by first | (simp [entryFrame, mkF, argsToLocals, Value.category]; done) | rfl) ?_
  intro pP eE sS mM bB tT cC
  refine oGo.iload_n (pc' := 1) d1_0 rfl rfl ?_
  refine oGo.iconst (pc' := 2) (v := 1) d1_1 rfl (by decide) ?_
  refine oGo.iand (pc' := 3) d1_2 rfl ?_
  refine oGo.if_eq (pc1 := 6) (pc2 := 17) d1_3 rfl (by decide) (fun q => ?_) (fun q => ?_)
  · refine oGo.iload_n (pc' := 18) d1_17 rfl rfl ?_
    refine oGo.iconst (pc' := 19) (v := 1) d1_18 rfl (by decide) ?_
    refine oGo.iushr (pc' := 20) d1_19 rfl ?_
    refine oGo.ldc_int (pc' := 22) d1_20 rfl (w5 hG) ?_
    refine oGo.iand (pc' := 23) d1_22 rfl ?_
    refine oGo.i2c (pc' := 24) d1_23 rfl ?_
    exact oGo.nreturn d1_24 rfl (by simp) rfl (by decide) (by decide) ⟨by rw [chF, if_pos q], rfl⟩ (fun _ q => q.elim)
  · refine oGo.bipush (pc' := 8) (v := 48) d1_6 rfl (by decide) ?_
    refine oGo.iload_n (pc' := 9) d1_8 rfl rfl ?_
    refine oGo.iconst (pc' := 10) (v := 1) d1_9 rfl (by decide) ?_
    refine oGo.iushr (pc' := 11) d1_10 rfl ?_
    refine oGo.bipush (pc' := 13) (v := 15) d1_11 rfl (by decide) ?_
    refine oGo.iand (pc' := 14) d1_13 rfl ?_
    refine oGo.iadd (pc' := 15) d1_14 rfl ?_
    refine oGo.i2c (pc' := 16) d1_15 rfl ?_
    exact oGo.nreturn d1_16 rfl (by simp) rfl (by decide) (by decide) ⟨by rw [chF, if_neg q], rfl⟩ (fun _ q => q.elim)
def digF (c : Int32) : Int32 := if c < 48 then -1 else if 57 < c then -1 else c - 48
set_option maxRecDepth 65536 in
set_option maxHeartbeats 4000000 in
theorem c_dig {l : Launch} {Z : State} {a0 : Array Value} {EL : List (String × Nat)} {wd : Prop} (hG : oG a0 Z EL) (c : Int32) (h : Heap)  :
    oCtr [] l Z a0 EL wd (⟨"com/example/rulewarden/rulewarden/model/IpAddressDecimalPinLaw", "dig", "(C)I"⟩ : MethodName) method_3_code 1 (some .int) ({ frames := 0, cells := 0, slots := 0, locals := 0 } : Room) #[.int c] [] h (fun v h' => v = some (.int (digF c)) ∧ h' = h) oNo := by
  refine oCtr.enter (Ls := #[.val (.int c)]) (plainFor_of_name pn0) hG.2.1 (fun m => by first | (simp [entryFrame, mkF, argsToLocals, Value.category]; done) | rfl) ?_
  intro pP eE sS mM bB tT cC
  refine oGo.iload_n (pc' := 1) d14_0 rfl rfl ?_
  refine oGo.bipush (pc' := 3) (v := 48) d14_1 rfl (by decide) ?_
  refine oGo.icmp_lt (pc1 := 6) (pc2 := 17) d14_3 rfl (by decide) (fun q1 => ?_) (fun q1 => ?_)
  · refine oGo.iconst (pc' := 18) (v := -1) d14_17 rfl (by decide) ?_
    exact oGo.ireturn d14_18 rfl (by decide) (by decide) ⟨by rw [digF, if_pos q1], rfl⟩ (fun _ q => q.elim)
  · refine oGo.iload_n (pc' := 7) d14_6 rfl rfl ?_
    refine oGo.bipush (pc' := 9) (v := 57) d14_7 rfl (by decide) ?_
    refine oGo.icmp_gt (pc1 := 12) (pc2 := 17) d14_9 rfl (by decide) (fun q2 => ?_) (fun q2 => ?_)
    · refine oGo.iconst (pc' := 18) (v := -1) d14_17 rfl (by decide) ?_
      exact oGo.ireturn d14_18 rfl (by decide) (by decide) ⟨by rw [digF, if_neg q1, if_pos q2], rfl⟩ (fun _ q => q.elim)
    · refine oGo.iload_n (pc' := 13) d14_12 rfl rfl ?_
      refine oGo.bipush (pc' := 15) (v := 48) d14_13 rfl (by decide) ?_
      refine oGo.isub (pc' := 16) d14_15 rfl ?_
      exact oGo.ireturn d14_16 rfl (by decide) (by decide) ⟨by rw [digF, if_neg q1, if_neg q2], rfl⟩ (fun _ q => q.elim)
def codF (z : Int32) (n : Nat) : Int32 := nar .byte (lo8 (XT.ushr (z - Int32.ofNat n) 31))
set_option maxRecDepth 65536 in
set_option maxHeartbeats 4000000 in
theorem c_coderLen {l : Launch} {Z : State} {a0 : Array Value} {EL : List (String × Nat)} {wd : Prop} (hG : oG a0 Z EL) (d : Nat) (ws : List Value) (z : Int32) (h : Heap) (B : oArr Z h d .byte ws) :
    oCtr [] l Z a0 EL wd (⟨"java/lang/StringUTF16", "coderFromArrayLen", "([BI)B"⟩ : MethodName) jdk_52_method_15_code 2 (some .byte) ({ frames := 0, cells := 0, slots := 0, locals := 0 } : Room) #[.ref d, .int z] [] h (fun v h' => v = some (.int (codF z ws.length)) ∧ h' = h) oNo := by
  refine oCtr.enter (Ls := #[.val (.ref d), .val (.int z)]) (plainFor_of_name pn1) hG.2.1 (fun m => by first | (simp [entryFrame, mkF, argsToLocals, Value.category]; done) | rfl) ?_
  intro pP eE sS mM bB tT cC
  refine oGo.iload_n (pc' := 1) d7_0 rfl rfl ?_
  refine oGo.aload_n (pc' := 2) d7_1 rfl rfl rfl ?_
  refine oGo.arraylength (pc' := 3) (z := (Int32.ofNat ws.length)) d7_2 rfl B rfl ?_
  refine oGo.isub (pc' := 4) d7_3 rfl ?_
  refine oGo.bipush (pc' := 6) (v := 31) d7_4 rfl (by decide) ?_
  refine oGo.iushr (pc' := 7) d7_6 rfl ?_
  refine oGo.i2b (pc' := 8) d7_7 rfl ?_
  exact oGo.nreturn d7_8 rfl (by simp) rfl (by decide) (by decide) ⟨rfl, rfl⟩ (fun _ q => q.elim)
set_option maxRecDepth 65536 in
set_option maxHeartbeats 4000000 in
theorem c_u16length {l : Launch} {Z : State} {a0 : Array Value} {EL : List (String × Nat)} {wd : Prop} (hG : oG a0 Z EL) (d : Nat) (ws : List Value) (h : Heap) (B : oArr Z h d .byte ws) :
    oCtr [] l Z a0 EL wd (⟨"java/lang/StringUTF16", "length", "([B)I"⟩ : MethodName) jdk_52_method_6_code 1 (some .int) ({ frames := 0, cells := 0, slots := 0, locals := 0 } : Room) #[.ref d] [] h (fun v h' => v = some (.int (Int32.ofNat ws.length >>> ((1 : Int32) &&& 31))) ∧ h' = h) oNo := by
  refine oCtr.enter (Ls := #[.val (.ref d)]) (plainFor_of_name pn1) hG.2.1 (fun m => by first | (simp [entryFrame, mkF, argsToLocals, Value.category]; done) | rfl) ?_
  intro pP eE sS mM bB tT cC
  refine oGo.aload_n (pc' := 1) d19_0 rfl rfl rfl ?_
  refine oGo.arraylength (pc' := 2) (z := (Int32.ofNat ws.length)) d19_1 rfl B rfl ?_
  refine oGo.iconst (pc' := 3) (v := 1) d19_2 rfl (by decide) ?_
  refine oGo.ishr (pc' := 4) d19_3 rfl ?_
  exact oGo.ireturn d19_4 rfl (by decide) (by decide) ⟨rfl, rfl⟩ (fun _ q => q.elim)
set_option maxRecDepth 65536 in
set_option maxHeartbeats 4000000 in
theorem c_preCheck {l : Launch} {Z : State} {a0 : Array Value} {EL : List (String × Nat)} {wd : Prop} (hG : oG a0 Z EL) (i n : Int32) (fm : Value) (hf : fm.isRef = true) (h0 : ¬ i < 0) (h1 : i < n) (h : Heap)  :
    oCtr [] l Z a0 EL wd (⟨"jdk/internal/util/Preconditions", "checkIndex", "(IILjava/util/function/BiFunction;)I"⟩ : MethodName) jdk_41_method_11_code 3 (some .int) ({ frames := 0, cells := 0, slots := 0, locals := 0 } : Room) #[.int i, .int n, fm] [] h (fun v h' => v = some (.int i) ∧ h' = h) oNo := by
  refine oCtr.enter (Ls := #[.val (.int i), .val (.int n), .val fm]) (plainFor_of_name pn2) hG.2.1 (fun m => by rcases ref_cases hf with rfl | ⟨_, rfl⟩ <;> first | (simp [entryFrame, mkF, argsToLocals, Value.category]; done) | rfl) ?_
  intro pP eE sS mM bB tT cC
  refine oGo.iload_n (pc' := 1) d21_0 rfl rfl ?_
  refine oGo.if_lt (pc1 := 4) (pc2 := 9) d21_1 rfl (by decide) (fun q => absurd q h0) (fun q1 => ?_)
  refine oGo.iload_n (pc' := 5) d21_4 rfl rfl ?_
  refine oGo.iload_n (pc' := 6) d21_5 rfl rfl ?_
  refine oGo.icmp_lt (pc1 := 9) (pc2 := 16) d21_6 rfl (by decide) (fun q2 => ?_) (fun q => absurd h1 q)
  refine oGo.iload_n (pc' := 17) d21_16 rfl rfl ?_
  exact oGo.ireturn d21_17 rfl (by decide) (by decide) ⟨rfl, rfl⟩ (fun _ q => q.elim)
def decL : List Int32 → Int32 → Int32
  | [], v => v
  | c :: r, v => if c < 48 then -1 else if 57 < c then -1 else decL r (v * 10 + (c - 48))
def decF (cs : List Int32) (i j : Nat) : Int32 := if j < i + 1 then -1 else if i + 3 < j then -1 else if i + 1 < j ∧ cs[i]? = some 48 then -1 else decL ((cs.drop i).take (j - i)) 0
theorem codF0 (n : Nat) : codF (Int32.ofNat n) n = 0 := by
  unfold codF; rw [show Int32.ofNat n - Int32.ofNat n = 0 from by simp]; decide
theorem codF1 {n : Nat} (h0 : 0 < n) (hn : n ≤ 1000) : codF (Int32.ofNat n) (2 * n) = 1 := by
  have t : ∀ k : Fin 1001, 0 < k.val → codF (Int32.ofNat k.val) (2 * k.val) = 1 := by decide +kernel
  exact t ⟨n, by omega⟩ h0
theorem chF_nar (x : Int32) : nar .char (chF x) = chF x := nar_nar _
theorem chF_rng (x : Int32) : ¬ chF x < 0 ∧ ¬ 65535 < chF x := own_char (fits_nar_char _)
theorem rng6 (x : Int32) : ∃ i : Nat, i < 6 ∧ (x &&& 7) % 6 = Int32.ofNat i := by
  have t : ∀ y : Int32, ¬ y < 0 → ¬ 7 < y → ∃ i : Nat, i < 6 ∧ y % 6 = Int32.ofNat i := by
    intro y h0 h7
    obtain ⟨k, hk, rfl⟩ := own_nat (N := 8) (own_ge0.mp h0) (by have := own_le.mp h7; have e : (7 : Int32).toInt = 7 := rfl; omega)
    have : ∀ k : Fin 8, ∃ i : Fin 6, Int32.ofNat k.val % 6 = Int32.ofNat i.val := by decide
    obtain ⟨i, hi⟩ := this ⟨k, hk⟩
    exact ⟨i.val, i.isLt, hi⟩
  exact t _ (own_and_lo x 7 (by decide)) (own_and_hi x 7 (by decide))
theorem own_drop_take (cs : List Int32) (a j : Nat) (c : Int32) (hc : cs[a]? = some c) (h : a < j) : (cs.drop a).take (j - a) = c :: (cs.drop (a + 1)).take (j - (a + 1)) := by
  obtain ⟨hl, he⟩ := List.getElem?_eq_some_iff.mp hc
  rw [List.drop_eq_getElem_cons hl, he, show j - a = (j - (a + 1)) + 1 by omega, List.take_succ_cons]
theorem own_take1 (cs : List Int32) (i : Nat) (a : Int32) (h0 : cs[i]? = some a) : (cs.drop i).take (i + 1 - i) = [a] := by
  rw [own_drop_take cs i (i + 1) a h0 (by omega), Nat.sub_self]; rfl
theorem own_take2 (cs : List Int32) (i : Nat) (a b : Int32) (h0 : cs[i]? = some a) (h1 : cs[i + 1]? = some b) : (cs.drop i).take (i + 2 - i) = [a, b] := by
  rw [own_drop_take cs i (i + 2) a h0 (by omega), own_drop_take cs (i + 1) (i + 2) b h1 (by omega), show i + 2 - (i + 1 + 1) = 0 by omega]; rfl
theorem own_take3 (cs : List Int32) (i : Nat) (a b c : Int32) (h0 : cs[i]? = some a) (h1 : cs[i + 1]? = some b) (h2 : cs[i + 2]? = some c) : (cs.drop i).take (i + 3 - i) = [a, b, c] := by
  rw [own_drop_take cs i (i + 3) a h0 (by omega), own_drop_take cs (i + 1) (i + 3) b h1 (by omega), own_drop_take cs (i + 1 + 1) (i + 3) c h2 (by omega), show i + 3 - (i + 1 + 1 + 1) = 0 by omega]; rfl
theorem dig_neg {c : Int32} (h : digF c < 0) (r : List Int32) (v : Int32) : decL (c :: r) v = -1 := by
  unfold digF at h
  rw [decL]
  by_cases a : c < 48
  · rw [if_pos a]
  · by_cases b : 57 < c
    · rw [if_neg a, if_pos b]
    · rw [if_neg a, if_neg b] at h
      exfalso
      rw [Int32.lt_iff_toInt_lt] at a b h
      have e1 : (48 : Int32).toInt = 48 := rfl
      have e2 : (57 : Int32).toInt = 57 := rfl
      have e3 : (0 : Int32).toInt = 0 := rfl
      have := own_subc (x := c) (k := 48) (by omega) (by omega)
      omega
theorem dig_pos {c : Int32} (h : ¬ digF c < 0) (r : List Int32) (v : Int32) : decL (c :: r) v = decL r (v * 10 + digF c) := by
  unfold digF at h ⊢
  rw [decL]
  by_cases a : c < 48
  · rw [if_pos a] at h; exact absurd (by decide) h
  · by_cases b : 57 < c
    · rw [if_neg a, if_pos b] at h; exact absurd (by decide) h
    · simp only [if_neg a, if_neg b]
theorem dec_neg1_0 {a : Int32} (p0 : digF a < 0) : decL [a] 0 = -1 := dig_neg p0 _ _
theorem dec_neg2_0 {a b : Int32} (p0 : digF a < 0) : decL [a, b] 0 = -1 := dig_neg p0 _ _
theorem dec_neg3_0 {a b c : Int32} (p0 : digF a < 0) : decL [a, b, c] 0 = -1 := dig_neg p0 _ _
theorem dec_neg2_1 {a b : Int32} (p0 : ¬ digF a < 0) (p1 : digF b < 0) : decL [a, b] 0 = -1 := by rw [dig_pos p0]; exact dig_neg p1 _ _
theorem dec_neg3_1 {a b c : Int32} (p0 : ¬ digF a < 0) (p1 : digF b < 0) : decL [a, b, c] 0 = -1 := by rw [dig_pos p0]; exact dig_neg p1 _ _
theorem dec_neg3_2 {a b c : Int32} (p0 : ¬ digF a < 0) (p1 : ¬ digF b < 0) (p2 : digF c < 0) : decL [a, b, c] 0 = -1 := by rw [dig_pos p0, dig_pos p1]; exact dig_neg p2 _ _
theorem dec_pos1 {a : Int32} (p0 : ¬ digF a < 0) : decL [a] 0 = digF a := by rw [dig_pos p0]; show 0 * 10 + digF a = _; simp
theorem dec_pos2 {a b : Int32} (p0 : ¬ digF a < 0) (p1 : ¬ digF b < 0) : decL [a, b] 0 = digF a * 10 + digF b := by rw [dig_pos p0, dig_pos p1]; show (0 * 10 + digF a) * 10 + digF b = _; simp
theorem dec_pos3 {a b c : Int32} (p0 : ¬ digF a < 0) (p1 : ¬ digF b < 0) (p2 : ¬ digF c < 0) : decL [a, b, c] 0 = digF a * 100 + digF b * 10 + digF c := by
  rw [dig_pos p0, dig_pos p1, dig_pos p2]; show ((0 * 10 + digF a) * 10 + digF b) * 10 + digF c = _
  rw [show (0 : Int32) * 10 + digF a = digF a by simp, Int32.add_mul, Int32.mul_assoc]; rfl
set_option maxRecDepth 65536 in
set_option maxHeartbeats 4000000 in
theorem c_checkIndex {l : Launch} {Z : State} {a0 : Array Value} {EL : List (String × Nat)} {wd : Prop} (hG : oG a0 Z EL) (i n : Int32) (h0 : ¬ i < 0) (h1 : i < n) (h : Heap)  :
    oCtr [] l Z a0 EL wd (⟨"java/lang/String", "checkIndex", "(II)V"⟩ : MethodName) jdk_42_method_155_code 2 none ({ frames := 1, cells := 0, slots := 0, locals := 14 } : Room) #[.int i, .int n] [] h (fun v h' => v = none ∧ h' = h) oNo := by
  obtain ⟨fm, hfs, hfr⟩ := sSIOOBE hG
  refine oCtr.enter (Ls := #[.val (.int i), .val (.int n)]) (plainFor_of_name pn3) hG.2.1 (fun m => by first | (simp [entryFrame, mkF, argsToLocals, Value.category]; done) | rfl) ?_
  intro pP eE sS mM bB tT cC
  refine oGo.iload_n (pc' := 1) d20_0 rfl rfl ?_
  refine oGo.iload_n (pc' := 2) d20_1 rfl rfl ?_
  refine oGo.getstatic (pc' := 5) d20_2 rfl (w83 hG) Via.refl hfs ?_
  refine oGo.invokestatic (pc' := 8) (k' := 0) (n' := 0) (argsL := [.int i, .int n, fm]) (rest := []) d20_5 rfl (w85 hG) (w86 hG) (w84 hG) (w87 hG) (by decide) pd0 rfl rfl rfl (c_preCheck hG i n fm hfr h0 h1 h) (by simp) (by decide) (Nat.le_of_ble_eq_true rfl) rfl rfl (by decide) (by decide) ?_
  intro v1 h2 sh2 q3
  obtain ⟨rfl, ee⟩ := q3
  obtain rfl := ee.symm
  refine ⟨_, fun _ hx => Or.inl hx, ?_⟩
  show oGo l Z a0 EL wd pP eE sS mM _ bB tT cC _ _ _ _ _ _ _ _ [] h 0 0 8 #[.val (.int i), .val (.int n)] [.int i]
  refine oGo.pop (pc' := 9) d20_8 rfl rfl ?_
  exact oGo.return_ d20_9 rfl (by decide) (by decide) ⟨rfl, rfl⟩ (fun _ q => q.elim)
set_option maxRecDepth 65536 in
set_option maxHeartbeats 4000000 in
theorem c_u16check {l : Launch} {Z : State} {a0 : Array Value} {EL : List (String × Nat)} {wd : Prop} (hG : oG a0 Z EL) (i : Int32) (d : Nat) (ws : List Value) (h0 : ¬ i < 0) (h1 : i < Int32.ofNat ws.length >>> ((1 : Int32) &&& 31)) (h : Heap) (B : oArr Z h d .byte ws) :
    oCtr [] l Z a0 EL wd (⟨"java/lang/StringUTF16", "checkIndex", "(I[B)V"⟩ : MethodName) jdk_52_method_91_code 2 none ({ frames := 2, cells := 0, slots := 0, locals := 27 } : Room) #[.int i, .ref d] [] h (fun v h' => v = none ∧ h' = h) oNo := by
  refine oCtr.enter (Ls := #[.val (.int i), .val (.ref d)]) (plainFor_of_name pn1) hG.2.1 (fun m => by first | (simp [entryFrame, mkF, argsToLocals, Value.category]; done) | rfl) ?_
  intro pP eE sS mM bB tT cC
  refine oGo.iload_n (pc' := 1) d18_0 rfl rfl ?_
  refine oGo.aload_n (pc' := 2) d18_1 rfl rfl rfl ?_
  refine oGo.invokestatic (pc' := 5) (k' := 0) (n' := 0) (argsL := [.ref d]) (rest := [.int i]) d18_2 rfl (w77 hG) (w78 hG) (w22 hG) (w79 hG) (by decide) pd1 rfl rfl rfl (c_u16length hG d ws h B) (by simp) (by decide) (Nat.le_of_ble_eq_true rfl) rfl rfl (by decide) (by decide) ?_
  intro v1 h2 sh2 q3
  obtain ⟨rfl, ee⟩ := q3
  obtain rfl := ee.symm
  refine ⟨_, fun _ hx => Or.inl hx, ?_⟩
  show oGo l Z a0 EL wd pP eE sS mM _ bB tT cC _ _ _ _ _ _ _ _ [] h 0 0 5 #[.val (.int i), .val (.ref d)] [.int (Int32.ofNat ws.length >>> ((1 : Int32) &&& 31)), .int i]
  refine oGo.invokestatic (pc' := 8) (k' := 0) (n' := 0) (argsL := [.int i, .int (Int32.ofNat ws.length >>> ((1 : Int32) &&& 31))]) (rest := []) d18_5 rfl (w80 hG) (w81 hG) (w8 hG) (w82 hG) (by decide) pd2 rfl rfl rfl (c_checkIndex hG i _ h0 h1 h) (by simp) (by decide) (Nat.le_of_ble_eq_true rfl) rfl rfl (by decide) (by decide) ?_
  intro v4 h5 sh5 q6
  obtain ⟨rfl, ee⟩ := q6
  obtain rfl := ee.symm
  refine ⟨_, fun _ hx => Or.inl hx, ?_⟩
  show oGo l Z a0 EL wd pP eE sS mM _ bB tT cC _ _ _ _ _ _ _ _ [] h 0 0 8 #[.val (.int i), .val (.ref d)] []
  exact oGo.return_ d18_8 rfl (by decide) (by decide) ⟨rfl, rfl⟩ (fun _ q => q.elim)
set_option maxRecDepth 65536 in
set_option maxHeartbeats 4000000 in
theorem c_isLatin1 {l : Launch} {Z : State} {a0 : Array Value} {EL : List (String × Nat)} {wd : Prop} (hG : oG a0 Z EL) (x : Nat) (cd : Int32) (h : Heap) (F : Fld Z h x "java/lang/String" "coder" "B" (.int cd)) :
    oCtr [] l Z a0 EL wd (⟨"java/lang/String", "isLatin1", "()Z"⟩ : MethodName) jdk_42_method_154_code 1 (some .boolean) ({ frames := 0, cells := 0, slots := 0, locals := 0 } : Room) #[.ref x] [] h (fun v h' => v = some (.int (if cd = 0 then 1 else 0)) ∧ h' = h) oNo := by
  obtain ⟨z, hzs, hz⟩ := sCOMPACT hG
  refine oCtr.enter (Ls := #[.val (.ref x)]) (plainFor_of_name pn3) hG.2.1 (fun m => by first | (simp [entryFrame, mkF, argsToLocals, Value.category]; done) | rfl) ?_
  intro pP eE sS mM bB tT cC
  refine oGo.getstatic (pc' := 3) d16_0 rfl (w19 hG) Via.refl hzs ?_
  refine oGo.if_eq (pc1 := 6) (pc2 := 17) d16_3 rfl (by decide) (fun q => absurd q hz) (fun q1 => ?_)
  refine oGo.aload_n (pc' := 7) d16_6 rfl rfl rfl ?_
  refine oGo.getfield (pc' := 10) d16_7 rfl (w31 hG) Via.refl F ?_
  refine oGo.if_ne (pc1 := 13) (pc2 := 17) d16_10 rfl (by decide) (fun q => ?_) (fun q => ?_)
  · refine oGo.iconst (pc' := 18) (v := 0) d16_17 rfl (by decide) ?_
    exact oGo.nreturn d16_18 rfl (by simp) rfl (by decide) (by decide) ⟨by rw [if_neg q]; rfl, rfl⟩ (fun _ q => q.elim)
  · refine oGo.iconst (pc' := 14) (v := 1) d16_13 rfl (by decide) ?_
    refine oGo.goto (pc' := 18) d16_14 (by decide) ?_
    exact oGo.nreturn d16_18 rfl (by simp) rfl (by decide) (by decide) ⟨by rw [if_pos q]; rfl, rfl⟩ (fun _ q => q.elim)
abbrev q_cmp5 (Z : State) (h : Heap) (d : Nat) (cs : List Int32) : Option Value → Heap → Prop := fun v h' => Keep h h' [d] ∧ ∃ r : Nat, v = some (.int (Int32.ofNat r)) ∧ ((r = cs.length ∧ oArr Z h' d .byte (oI (cs.map lo8)) ∧ ∀ c ∈ cs, ¬ 255 < c) ∨ (r < cs.length ∧ ∃ c, cs[r]? = some c ∧ 255 < c))
set_option maxRecDepth 65536 in
set_option maxHeartbeats 4000000 in
theorem c_cmp5 {l : Launch} {Z : State} {a0 : Array Value} {EL : List (String × Nat)} {wd : Prop} (hG : oG a0 Z EL) (b d : Nat) (cs : List Int32) (ws : List Value) (h : Heap) (A : oArr Z h b .char (oI cs)) (B : oArr Z h d .byte ws) (hl : ws.length = cs.length) (hne : b ≠ d) :
    oCtr [] l Z a0 EL wd (⟨"java/lang/StringUTF16", "compress", "([CI[BII)I"⟩ : MethodName) jdk_52_method_21_code 7 (some .int) ({ frames := 0, cells := 0, slots := 0, locals := 0 } : Room) #[.ref b, .int (0 : Int32), .ref d, .int (0 : Int32), .int (Int32.ofNat cs.length)] [d] h ((q_cmp5 Z h d cs)) oNo := by
  refine oCtr.enter (Ls := #[.val (.ref b), .val (.int (0 : Int32)), .val (.ref d), .val (.int (0 : Int32)), .val (.int (Int32.ofNat cs.length)), .unset, .unset]) (plainFor_of_name pn1) hG.2.1 (fun m => by first | (simp [entryFrame, mkF, argsToLocals, Value.category]; done) | rfl) ?_
  intro pP eE sS mM bB tT cC
  have hb31 : cs.length < 2147483648 := by obtain ⟨_, _, _, q, _⟩ := A; simpa using q
  refine oGo.iconst (pc' := 1) (v := 0) d6_0 rfl (by decide) ?_
  refine oGo.istore (pc' := 3) (Ls' := #[.val (.ref b), .val (.int (0 : Int32)), .val (.ref d), .val (.int (0 : Int32)), .val (.int (Int32.ofNat cs.length)), .val (.int (0 : Int32)), .unset]) d6_1 rfl rfl ?_
  have loop : ∀ (r i : Nat) (h1 : Heap) (vs : List Value) (s6 : Slot), r + i = cs.length → Keep h h1 [d] → oArr Z h1 d .byte vs → vs.length = cs.length → vs.take i = (oI (cs.map lo8)).take i → (∀ c ∈ cs.take i, ¬ 255 < c) → oSl s6 → oGo l Z a0 EL wd pP eE sS mM #[.ref b, .int (0 : Int32), .ref d, .int (0 : Int32), .int (Int32.ofNat cs.length)] bB tT cC ({ frames := 0, cells := 0, slots := 0, locals := 0 } : Room) "java/lang/StringUTF16" jdk_52_method_21_code 7 (some .int) "compress" (q_cmp5 Z h d cs) oNo [d] h1 0 0 3 #[.val (.ref b), .val (.int (Int32.ofNat i)), .val (.ref d), .val (.int (Int32.ofNat i)), .val (.int (Int32.ofNat cs.length)), .val (.int (Int32.ofNat i)), s6] [] := by
    intro r
    induction r with
    | zero =>
      intro i h1 vs s6 hr K B1 hv ht hc hs6
      obtain rfl : i = cs.length := by omega
      refine oGo.iload (pc' := 5) d6_3 rfl rfl ?_
      refine oGo.iload (pc' := 7) d6_5 rfl rfl ?_
      refine oGo.icmp_ge (pc1 := 10) (pc2 := 44) d6_7 rfl (by decide) (fun q1 => ?_) (fun q => absurd q (by rw [own_lt hb31 hb31]; omega))
      refine oGo.iload (pc' := 46) d6_44 rfl rfl ?_
      exact oGo.ireturn d6_46 rfl (by decide) (by decide) ⟨K, cs.length, rfl, Or.inl ⟨rfl, by rw [List.take_of_length_le (by omega), List.take_of_length_le (by simp)] at ht; rw [← ht]; exact B1, by simpa using hc⟩⟩ (fun _ q => q.elim)
    | succ r ih =>
      intro i h1 vs s6 hr K B1 hv ht hc hs6
      have hi : i < cs.length := by omega
      obtain ⟨c, hci⟩ : ∃ c, cs[i]? = some c := ⟨_, List.getElem?_eq_getElem hi⟩
      have A1 := oArr.keep A K (own_nin1 hne)
      refine oGo.iload (pc' := 5) d6_3 rfl rfl ?_
      refine oGo.iload (pc' := 7) d6_5 rfl rfl ?_
      refine oGo.icmp_ge (pc1 := 10) (pc2 := 44) d6_7 rfl (by decide) (fun q => absurd ((own_lt (by omega) hb31).mpr hi) q) (fun q2 => ?_)
      refine oGo.aload_n (pc' := 11) d6_10 rfl rfl rfl ?_
      refine oGo.iload_n (pc' := 12) d6_11 rfl rfl ?_
      refine oGo.caload (pc' := 13) (i := i) d6_12 rfl A1 rfl (by rw [List.getElem?_map, hci]; rfl) ?_
      refine oGo.istoreS (pc' := 15) (Ls' := #[.val (.ref b), .val (.int (Int32.ofNat i)), .val (.ref d), .val (.int (Int32.ofNat i)), .val (.int (Int32.ofNat cs.length)), .val (.int (Int32.ofNat i)), .val (.int c)]) d6_13 rfl hs6 rfl rfl ?_
      refine oGo.iload (pc' := 17) d6_15 rfl rfl ?_
      refine oGo.sipush (pc' := 20) (v := 255) d6_17 rfl (by decide) ?_
      refine oGo.icmp_le (pc1 := 23) (pc2 := 26) d6_20 rfl (by decide) (fun q => ?_) (fun q => ?_)
      · refine oGo.aload_n (pc' := 27) d6_26 rfl rfl rfl ?_
        refine oGo.iload_n (pc' := 28) d6_27 rfl rfl ?_
        refine oGo.iload (pc' := 30) d6_28 rfl rfl ?_
        refine oGo.i2b (pc' := 31) d6_30 rfl ?_
        refine oGo.bastore (pc' := 32) (i := i) (w := lo8 c) d6_31 rfl B1 rfl (by omega) (lo8_idem c) (by simp) ?_
        intro h2 W sh2 B2
        refine oGo.iinc (pc' := 35) (y := 1) (Ls' := #[.val (.ref b), .val (.int ((Int32.ofNat i) + (1 : Int32))), .val (.ref d), .val (.int (Int32.ofNat i)), .val (.int (Int32.ofNat cs.length)), .val (.int (Int32.ofNat i)), .val (.int c)]) d6_32 rfl rfl (by decide) rfl ?_
        refine oGo.iinc (pc' := 38) (y := 1) (Ls' := #[.val (.ref b), .val (.int ((Int32.ofNat i) + (1 : Int32))), .val (.ref d), .val (.int ((Int32.ofNat i) + (1 : Int32))), .val (.int (Int32.ofNat cs.length)), .val (.int (Int32.ofNat i)), .val (.int c)]) d6_35 rfl rfl (by decide) rfl ?_
        refine oGo.iinc (pc' := 41) (y := 1) (Ls' := #[.val (.ref b), .val (.int ((Int32.ofNat i) + (1 : Int32))), .val (.ref d), .val (.int ((Int32.ofNat i) + (1 : Int32))), .val (.int (Int32.ofNat cs.length)), .val (.int ((Int32.ofNat i) + (1 : Int32))), .val (.int c)]) d6_38 rfl rfl (by decide) rfl ?_
        refine oGo.goto (pc' := 3) d6_41 (by decide) ?_
        rw [own_succ]
        refine ih (i + 1) h2 _ _ (by omega) (K.wr W (Or.inl (by simp))) B2 (by simpa using hv) ?_ ?_ (Or.inr ⟨_, rfl, rfl⟩)
        · rw [own_take_set _ _ _ (by omega), ht, own_take_succ (oI (cs.map lo8)) i (.int (lo8 c)) (by simp [hci])]
        · intro c' hc'
          rw [own_take_succ cs i c hci] at hc'
          rcases List.mem_append.mp hc' with q' | q'
          · exact hc c' q'
          · rw [List.mem_singleton.mp q']; exact q
      · refine oGo.iload (pc' := 25) d6_23 rfl rfl ?_
        exact oGo.ireturn d6_25 rfl (by decide) (by decide) ⟨K, i, rfl, Or.inr ⟨hi, c, hci, q⟩⟩ (fun _ q => q.elim)
  exact loop cs.length 0 h ws _ rfl (Keep.refl _ _) B hl rfl (by simp) (Or.inl rfl)
set_option maxRecDepth 65536 in
set_option maxHeartbeats 4000000 in
theorem c_nbl {l : Launch} {Z : State} {a0 : Array Value} {EL : List (String × Nat)} {wd : Prop} (hG : oG a0 Z EL) (n : Nat) (hn : n ≤ 5) (h : Heap)  :
    oCtr [] l Z a0 EL wd (⟨"java/lang/StringUTF16", "newBytesLength", "(I)I"⟩ : MethodName) jdk_52_method_3_code 1 (some .int) ({ frames := 0, cells := 0, slots := 0, locals := 0 } : Room) #[.int (Int32.ofNat n)] [] h (fun v h' => v = some (.int (Int32.ofNat (2 * n))) ∧ h' = h) oNo := by
  refine oCtr.enter (Ls := #[.val (.int (Int32.ofNat n))]) (plainFor_of_name pn1) hG.2.1 (fun m => by first | (simp [entryFrame, mkF, argsToLocals, Value.category]; done) | rfl) ?_
  intro pP eE sS mM bB tT cC
  refine oGo.iload_n (pc' := 1) d11_0 rfl rfl ?_
  refine oGo.if_ge (pc1 := 4) (pc2 := 12) d11_1 rfl (by decide) (fun q1 => ?_) (fun q => absurd q (own_nn (by omega)))
  refine oGo.iload_n (pc' := 13) d11_12 rfl rfl ?_
  refine oGo.ldc_int (pc' := 15) d11_13 rfl (w48 hG) ?_
  refine oGo.icmp_lt (pc1 := 18) (pc2 := 55) d11_15 rfl (by decide) (fun q2 => ?_) (fun q => absurd ((own_lt (a := n) (b := 1073741823) (by omega) (by omega)).mpr (by omega)) q)
  refine oGo.iload_n (pc' := 56) d11_55 rfl rfl ?_
  refine oGo.iconst (pc' := 57) (v := 1) d11_56 rfl (by decide) ?_
  refine oGo.ishl (pc' := 58) d11_57 rfl ?_
  exact oGo.ireturn d11_58 rfl (by decide) (by decide) ⟨by rw [own_shl1], rfl⟩ (fun _ q => q.elim)
set_option maxRecDepth 65536 in
set_option maxHeartbeats 4000000 in
theorem c_nbf {l : Launch} {Z : State} {a0 : Array Value} {EL : List (String × Nat)} {wd : Prop} (hG : oG a0 Z EL) (n : Nat) (hn : n ≤ 5) (h : Heap)  :
    oCtr [] l Z a0 EL wd (⟨"java/lang/StringUTF16", "newBytesFor", "(I)[B"⟩ : MethodName) jdk_52_method_2_code 1 (some (.array .byte)) ({ frames := 1, cells := 1, slots := 10, locals := 12 } : Room) #[.int (Int32.ofNat n)] [] h (fun v h' => Ext h h' ∧ v = some (.ref h.size) ∧ oArr Z h' h.size .byte (oI (List.replicate (2 * n) 0))) oRet := by
  refine oCtr.enter (Ls := #[.val (.int (Int32.ofNat n))]) (plainFor_of_name pn1) hG.2.1 (fun m => by first | (simp [entryFrame, mkF, argsToLocals, Value.category]; done) | rfl) ?_
  intro pP eE sS mM bB tT cC
  refine oGo.iload_n (pc' := 1) d10_0 rfl rfl ?_
  refine oGo.invokestatic (pc' := 4) (k' := 0) (n' := 0) (argsL := [.int (Int32.ofNat n)]) (rest := []) d10_1 rfl (w45 hG) (w46 hG) (w22 hG) (w47 hG) (by decide) pd3 rfl rfl rfl (c_nbl hG n hn h) (by simp) (by decide) (Nat.le_of_ble_eq_true rfl) rfl rfl (by decide) (by decide) ?_
  intro v1 h2 sh2 q3
  obtain ⟨rfl, ee⟩ := q3
  obtain rfl := ee.symm
  refine ⟨_, fun _ hx => Or.inl hx, ?_⟩
  show oGo l Z a0 EL wd pP eE sS mM _ bB tT cC _ _ _ _ _ _ _ _ [] h 0 0 4 #[.val (.int (Int32.ofNat n))] [.int (Int32.ofNat (2 * n))]
  refine oGo.newarray (pc' := 6) (k' := 1) (n' := 10) (i := 2 * n) d10_4 rfl (w24 hG) rfl 10 (by omega) (by decide) rfl rfl (by decide) (by decide) (by decide) ?_
  intro h4 a5 qa5 la5 E6 A7'
  have A7 : oArr Z h4 a5 .byte (List.replicate (2 * n) (.int 0)) := A7'
  exact oGo.areturn d10_6 rfl rfl rfl rfl (by decide) (by decide) ⟨E6, by rw [qa5], by rw [← qa5]; simpa [oI] using A7⟩ (fun x q => by cases q; simp)
set_option maxRecDepth 65536 in
set_option maxHeartbeats 4000000 in
theorem c_putChar {l : Launch} {Z : State} {a0 : Array Value} {EL : List (String × Nat)} {wd : Prop} (hG : oG a0 Z EL) (d : Nat) (vs : List Value) (i : Nat) (c : Int32) (hi : 2 * i + 1 < vs.length) (h : Heap) (B : oArr Z h d .byte vs) :
    oCtr [] l Z a0 EL wd (⟨"java/lang/StringUTF16", "putChar", "([BII)V"⟩ : MethodName) jdk_52_method_4_code 3 none ({ frames := 0, cells := 0, slots := 0, locals := 0 } : Room) #[.ref d, .int (Int32.ofNat i), .int c] [d] h (fun v h' => v = none ∧ Keep h h' [d] ∧ oArr Z h' d .byte ((vs.set (2 * i) (.int (lo8 c))).set (2 * i + 1) (.int (hi8 c)))) oNo := by
  have sA := sASSERT hG
  have sH := sHI hG
  have sL := sLO hG
  have hb31 : vs.length < 2147483648 := by obtain ⟨_, _, _, q, _⟩ := B; exact q
  refine oCtr.enter (Ls := #[.val (.ref d), .val (.int (Int32.ofNat i)), .val (.int c)]) (plainFor_of_name pn1) hG.2.1 (fun m => by first | (simp [entryFrame, mkF, argsToLocals, Value.category]; done) | rfl) ?_
  intro pP eE sS mM bB tT cC
  refine oGo.getstatic (pc' := 3) d12_0 rfl (w52 hG) Via.refl sA ?_
  refine oGo.if_ne (pc1 := 6) (pc2 := 28) d12_3 rfl (by decide) (fun q1 => ?_) (fun q => by first | exact absurd q (by decide) | exact absurd (by decide) q)
  refine oGo.iload_n (pc' := 29) d12_28 rfl rfl ?_
  refine oGo.iconst (pc' := 30) (v := 1) d12_29 rfl (by decide) ?_
  refine oGo.ishl (pc' := 31) d12_30 rfl ?_
  rw [own_shl1]
  refine oGo.istore_n (pc' := 32) (Ls' := #[.val (.ref d), .val (.int (Int32.ofNat (2 * i))), .val (.int c)]) d12_31 rfl rfl ?_
  refine oGo.aload_n (pc' := 33) d12_32 rfl rfl rfl ?_
  refine oGo.iload_n (pc' := 34) d12_33 rfl rfl ?_
  refine oGo.iinc (pc' := 37) (y := 1) (Ls' := #[.val (.ref d), .val (.int ((Int32.ofNat (2 * i)) + (1 : Int32))), .val (.int c)]) d12_34 rfl rfl (by decide) rfl ?_
  refine oGo.iload_n (pc' := 38) d12_37 rfl rfl ?_
  refine oGo.getstatic (pc' := 41) d12_38 rfl (w53 hG) Via.refl sH ?_
  refine oGo.ishr (pc' := 42) d12_41 rfl ?_
  refine oGo.i2b (pc' := 43) d12_42 rfl ?_
  refine oGo.bastore (pc' := 44) (i := 2 * i) (w := lo8 c) d12_43 rfl B rfl (by omega) (by rw [show c >>> ((0 : Int32) &&& 31) = c from shr0 c]; exact lo8_idem c) (by simp) ?_
  intro h1 W1 sh1 B1
  rw [own_succ]
  refine oGo.aload_n (pc' := 45) d12_44 rfl rfl rfl ?_
  refine oGo.iload_n (pc' := 46) d12_45 rfl rfl ?_
  refine oGo.iload_n (pc' := 47) d12_46 rfl rfl ?_
  refine oGo.getstatic (pc' := 50) d12_47 rfl (w54 hG) Via.refl sL ?_
  refine oGo.ishr (pc' := 51) d12_50 rfl ?_
  refine oGo.i2b (pc' := 52) d12_51 rfl ?_
  refine oGo.bastore (pc' := 53) (i := 2 * i + 1) (w := hi8 c) d12_52 rfl B1 rfl (by simpa using hi) (lo8_idem _) (by simp) ?_
  intro h2 W2 sh2 B2
  exact oGo.return_ d12_53 rfl (by decide) (by decide) ⟨rfl, ((Keep.refl _ _).wr W1 (Or.inl (by simp))).wr W2 (Or.inl (by simp)), B2⟩ (fun _ q => q.elim)
abbrev q_toBytes (Z : State) (h : Heap) (cs : List Int32) : Option Value → Heap → Prop := fun v h' => Keep h h' [] ∧ ∃ t : Nat, v = some (.ref t) ∧ h.size ≤ t ∧ oArr Z h' t .byte (oI (wide2 cs))
set_option maxRecDepth 65536 in
set_option maxHeartbeats 4000000 in
theorem c_toBytes {l : Launch} {Z : State} {a0 : Array Value} {EL : List (String × Nat)} {wd : Prop} (hG : oG a0 Z EL) (b : Nat) (cs : List Int32) (hn : cs.length ≤ 5) (h : Heap) (A : oArr Z h b .char (oI cs)) :
    oCtr [] l Z a0 EL wd (⟨"java/lang/StringUTF16", "toBytes", "([CII)[B"⟩ : MethodName) jdk_52_method_14_code 5 (some (.array .byte)) ({ frames := 2, cells := 1, slots := 10, locals := 24 } : Room) #[.ref b, .int (0 : Int32), .int (Int32.ofNat cs.length)] [] h ((q_toBytes Z h cs)) oNo := by
  refine oCtr.enter (Ls := #[.val (.ref b), .val (.int (0 : Int32)), .val (.int (Int32.ofNat cs.length)), .unset, .unset]) (plainFor_of_name pn1) hG.2.1 (fun m => by first | (simp [entryFrame, mkF, argsToLocals, Value.category]; done) | rfl) ?_
  intro pP eE sS mM bB tT cC
  have hb31 : cs.length < 2147483648 := by omega
  have hbl : b < h.size := A.lt
  refine oGo.iload_n (pc' := 1) d9_0 rfl rfl ?_
  refine oGo.invokestatic (pc' := 4) (k' := 1) (n' := 10) (argsL := [.int (Int32.ofNat cs.length)]) (rest := []) d9_1 rfl (w42 hG) (w43 hG) (w22 hG) (w44 hG) (by decide) pd4 rfl rfl rfl (c_nbf hG cs.length hn h) (by simp) (by decide) (Nat.le_of_ble_eq_true rfl) rfl rfl (by decide) (by decide) ?_
  intro v1 h2 sh2 q3
  obtain ⟨E0, rfl, B0⟩ := q3
  have lt0 := own_ltN B0.lt
  obtain ⟨t, ht⟩ : ∃ t : Nat, t = h.size := ⟨_, rfl⟩
  rw [← ht] at B0 lt0 ⊢
  refine ⟨[t], (by intro x hx; simp only [List.mem_cons, List.not_mem_nil, or_false] at hx; subst hx; exact Or.inr rfl), ?_⟩
  show oGo l Z a0 EL wd pP eE sS mM _ bB tT cC _ _ _ _ _ _ _ _ [t] h2 1 10 4 #[.val (.ref b), .val (.int (0 : Int32)), .val (.int (Int32.ofNat cs.length)), .unset, .unset] [.ref t]
  refine oGo.astore_n (pc' := 5) (Ls' := #[.val (.ref b), .val (.int (0 : Int32)), .val (.int (Int32.ofNat cs.length)), .val (.ref t), .unset]) d9_4 rfl rfl rfl ?_
  refine oGo.iconst (pc' := 6) (v := 0) d9_5 rfl (by decide) ?_
  refine oGo.istore (pc' := 8) (Ls' := #[.val (.ref b), .val (.int (0 : Int32)), .val (.int (Int32.ofNat cs.length)), .val (.ref t), .val (.int (0 : Int32))]) d9_6 rfl rfl ?_
  have loop : ∀ (r i : Nat) (h1 : Heap) (vs : List Value), r + i = cs.length → Keep h2 h1 [t] → oArr Z h1 t .byte vs → vs.length = 2 * cs.length → vs.take (2 * i) = (oI (wide2 cs)).take (2 * i) → oGo l Z a0 EL wd pP eE sS mM #[.ref b, .int (0 : Int32), .int (Int32.ofNat cs.length)] bB tT cC ({ frames := 2, cells := 1, slots := 10, locals := 24 } : Room) "java/lang/StringUTF16" jdk_52_method_14_code 5 (some (.array .byte)) "toBytes" (q_toBytes Z h cs) oNo [t] h1 1 10 8 #[.val (.ref b), .val (.int (Int32.ofNat i)), .val (.int (Int32.ofNat cs.length)), .val (.ref t), .val (.int (Int32.ofNat i))] [] := by
    intro r
    induction r with
    | zero =>
      intro i h1 vs hr K B1 hv ht2
      obtain rfl : i = cs.length := by omega
      refine oGo.iload (pc' := 10) d9_8 rfl rfl ?_
      refine oGo.iload_n (pc' := 11) d9_10 rfl rfl ?_
      refine oGo.icmp_ge (pc1 := 14) (pc2 := 32) d9_11 rfl (by decide) (fun q4 => ?_) (fun q => absurd q (by rw [own_lt hb31 hb31]; omega))
      refine oGo.aload_n (pc' := 33) d9_32 rfl rfl rfl ?_
      exact oGo.areturn d9_33 rfl rfl rfl rfl (by decide) (by decide) ⟨(((Keep.refl h []).ext E0).trans K (own_new1 (by omega))), t, rfl, by omega, by rw [List.take_of_length_le (by omega), List.take_of_length_le (by rw [List.length_map, wide2_len]; omega)] at ht2; rw [← ht2]; exact B1⟩ (fun _ q => q.elim)
    | succ r ih =>
      intro i h1 vs hr K B1 hv ht2
      have hi : i < cs.length := by omega
      obtain ⟨c, hci⟩ : ∃ c, cs[i]? = some c := ⟨_, List.getElem?_eq_getElem hi⟩
      have A1 := (A.ext E0).keep K (own_nin1 (by omega))
      refine oGo.iload (pc' := 10) d9_8 rfl rfl ?_
      refine oGo.iload_n (pc' := 11) d9_10 rfl rfl ?_
      refine oGo.icmp_ge (pc1 := 14) (pc2 := 32) d9_11 rfl (by decide) (fun q => absurd ((own_lt (by omega) hb31).mpr hi) q) (fun q5 => ?_)
      refine oGo.aload_n (pc' := 15) d9_14 rfl rfl rfl ?_
      refine oGo.iload (pc' := 17) d9_15 rfl rfl ?_
      refine oGo.aload_n (pc' := 18) d9_17 rfl rfl rfl ?_
      refine oGo.iload_n (pc' := 19) d9_18 rfl rfl ?_
      refine oGo.caload (pc' := 20) (i := i) d9_19 rfl A1 rfl (by rw [List.getElem?_map, hci]; rfl) ?_
      refine oGo.invokestatic (pc' := 23) (k' := 1) (n' := 10) (argsL := [.ref t, .int (Int32.ofNat i), .int c]) (rest := []) d9_20 rfl (w49 hG) (w50 hG) (w22 hG) (w51 hG) (by decide) pd5 rfl rfl rfl (c_putChar hG t vs i c (by omega) h1 B1) (by simp) (by decide) (Nat.le_of_ble_eq_true rfl) rfl rfl (by decide) (by decide) ?_
      intro v6 h7 sh7 q8
      obtain ⟨rfl, K2, B2⟩ := q8
      refine ⟨_, fun _ hx => Or.inl hx, ?_⟩
      show oGo l Z a0 EL wd pP eE sS mM _ bB tT cC _ _ _ _ _ _ _ _ [t] h7 1 10 23 #[.val (.ref b), .val (.int (Int32.ofNat i)), .val (.int (Int32.ofNat cs.length)), .val (.ref t), .val (.int (Int32.ofNat i))] []
      refine oGo.iinc (pc' := 26) (y := 1) (Ls' := #[.val (.ref b), .val (.int ((Int32.ofNat i) + (1 : Int32))), .val (.int (Int32.ofNat cs.length)), .val (.ref t), .val (.int (Int32.ofNat i))]) d9_23 rfl rfl (by decide) rfl ?_
      refine oGo.iinc (pc' := 29) (y := 1) (Ls' := #[.val (.ref b), .val (.int ((Int32.ofNat i) + (1 : Int32))), .val (.int (Int32.ofNat cs.length)), .val (.ref t), .val (.int ((Int32.ofNat i) + (1 : Int32)))]) d9_26 rfl rfl (by decide) rfl ?_
      refine oGo.goto (pc' := 8) d9_29 (by decide) ?_
      rw [own_succ]
      refine ih (i + 1) h7 _ (by omega) (K.trans K2 (fun x hx => Or.inl hx)) B2 (by simpa using hv) ?_
      exact wide2_step cs vs i c hci (by omega) ht2
  exact loop cs.length 0 h2 _ rfl (Keep.refl _ _) B0 (by simp) rfl
set_option maxRecDepth 65536 in
set_option maxHeartbeats 4000000 in
theorem c_getChar {l : Launch} {Z : State} {a0 : Array Value} {EL : List (String × Nat)} {wd : Prop} (hG : oG a0 Z EL) (t : Nat) (vs : List Value) (i : Nat) (c : Int32) (hc : ¬ c < 0 ∧ ¬ 65535 < c) (h1 : vs[2 * i]? = some (.int (lo8 c))) (h2 : vs[2 * i + 1]? = some (.int (hi8 c))) (h : Heap) (B : oArr Z h t .byte vs) :
    oCtr [] l Z a0 EL wd (⟨"java/lang/StringUTF16", "getChar", "([BI)C"⟩ : MethodName) jdk_52_method_5_code 2 (some .char) ({ frames := 0, cells := 0, slots := 0, locals := 0 } : Room) #[.ref t, .int (Int32.ofNat i)] [] h (fun v h' => v = some (.int c) ∧ h' = h) oNo := by
  have sA := sASSERT hG
  have sH := sHI hG
  have sL := sLO hG
  refine oCtr.enter (Ls := #[.val (.ref t), .val (.int (Int32.ofNat i))]) (plainFor_of_name pn1) hG.2.1 (fun m => by first | (simp [entryFrame, mkF, argsToLocals, Value.category]; done) | rfl) ?_
  intro pP eE sS mM bB tT cC
  refine oGo.getstatic (pc' := 3) d13_0 rfl (w52 hG) Via.refl sA ?_
  refine oGo.if_ne (pc1 := 6) (pc2 := 28) d13_3 rfl (by decide) (fun q1 => ?_) (fun q => by first | exact absurd q (by decide) | exact absurd (by decide) q)
  refine oGo.iload_n (pc' := 29) d13_28 rfl rfl ?_
  refine oGo.iconst (pc' := 30) (v := 1) d13_29 rfl (by decide) ?_
  refine oGo.ishl (pc' := 31) d13_30 rfl ?_
  rw [own_shl1]
  refine oGo.istore_n (pc' := 32) (Ls' := #[.val (.ref t), .val (.int (Int32.ofNat (2 * i)))]) d13_31 rfl rfl ?_
  refine oGo.aload_n (pc' := 33) d13_32 rfl rfl rfl ?_
  refine oGo.iload_n (pc' := 34) d13_33 rfl rfl ?_
  refine oGo.iinc (pc' := 37) (y := 1) (Ls' := #[.val (.ref t), .val (.int ((Int32.ofNat (2 * i)) + (1 : Int32)))]) d13_34 rfl rfl (by decide) rfl ?_
  refine oGo.baload (pc' := 38) (i := 2 * i) d13_37 rfl B rfl h1 ?_
  rw [own_succ]
  refine oGo.sipush (pc' := 41) (v := 255) d13_38 rfl (by decide) ?_
  refine oGo.iand (pc' := 42) d13_41 rfl ?_
  refine oGo.getstatic (pc' := 45) d13_42 rfl (w53 hG) Via.refl sH ?_
  refine oGo.ishl (pc' := 46) d13_45 rfl ?_
  refine oGo.aload_n (pc' := 47) d13_46 rfl rfl rfl ?_
  refine oGo.iload_n (pc' := 48) d13_47 rfl rfl ?_
  refine oGo.baload (pc' := 49) (i := 2 * i + 1) d13_48 rfl B rfl h2 ?_
  refine oGo.sipush (pc' := 52) (v := 255) d13_49 rfl (by decide) ?_
  refine oGo.iand (pc' := 53) d13_52 rfl ?_
  refine oGo.getstatic (pc' := 56) d13_53 rfl (w54 hG) Via.refl sL ?_
  refine oGo.ishl (pc' := 57) d13_56 rfl ?_
  refine oGo.ior (pc' := 58) d13_57 rfl ?_
  refine oGo.i2c (pc' := 59) d13_58 rfl ?_
  exact oGo.nreturn d13_59 rfl (by simp) (pair_says hc.1 hc.2) (by decide) (by decide) ⟨rfl, rfl⟩ (fun _ q => q.elim)
abbrev q_cmp3 (Z : State) (h : Heap) (cs : List Int32) : Option Value → Heap → Prop := fun v h' => Keep h h' [] ∧ ∃ t : Nat, v = some (.ref t) ∧ h.size ≤ t ∧ ((oArr Z h' t .byte (oI (cs.map lo8)) ∧ ∀ c ∈ cs, ¬ 255 < c) ∨ oArr Z h' t .byte (oI (wide2 cs)))
set_option maxRecDepth 65536 in
set_option maxHeartbeats 4000000 in
theorem c_cmp3 {l : Launch} {Z : State} {a0 : Array Value} {EL : List (String × Nat)} {wd : Prop} (hG : oG a0 Z EL) (b : Nat) (cs : List Int32) (hn : cs.length ≤ 5) (hcs : ∀ c ∈ cs, ¬ c < 0 ∧ ¬ 65535 < c) (h : Heap) (A : oArr Z h b .char (oI cs)) :
    oCtr [] l Z a0 EL wd (⟨"java/lang/StringUTF16", "compress", "([CII)[B"⟩ : MethodName) jdk_52_method_16_code 6 (some (.array .byte)) ({ frames := 3, cells := 2, slots := 15, locals := 40 } : Room) #[.ref b, .int (0 : Int32), .int (Int32.ofNat cs.length)] [] h ((q_cmp3 Z h cs)) oNo := by
  refine oCtr.enter (Ls := #[.val (.ref b), .val (.int (0 : Int32)), .val (.int (Int32.ofNat cs.length)), .unset, .unset, .unset]) (plainFor_of_name pn1) hG.2.1 (fun m => by first | (simp [entryFrame, mkF, argsToLocals, Value.category]; done) | rfl) ?_
  intro pP eE sS mM bB tT cC
  have hb31 : cs.length < 2147483648 := by omega
  have hbl : b < h.size := A.lt
  refine oGo.iload_n (pc' := 1) d5_0 rfl rfl ?_
  refine oGo.newarray (pc' := 3) (k' := 1) (n' := 5) (i := cs.length) d5_1 rfl (w24 hG) rfl 5 (hn) (by decide) rfl rfl (by decide) (by decide) (by decide) ?_
  intro h1 a2 qa2 la2 E3 A4'
  have A4 : oArr Z h1 a2 .byte (List.replicate (cs.length) (.int 0)) := A4'
  refine oGo.astore_n (pc' := 4) (Ls' := #[.val (.ref b), .val (.int (0 : Int32)), .val (.int (Int32.ofNat cs.length)), .val (.ref a2), .unset, .unset]) d5_3 rfl rfl rfl ?_
  refine oGo.aload_n (pc' := 5) d5_4 rfl rfl rfl ?_
  refine oGo.iload_n (pc' := 6) d5_5 rfl rfl ?_
  refine oGo.aload_n (pc' := 7) d5_6 rfl rfl rfl ?_
  refine oGo.iconst (pc' := 8) (v := 0) d5_7 rfl (by decide) ?_
  refine oGo.iload_n (pc' := 9) d5_8 rfl rfl ?_
  have f5 := oArr.ext E3 A
  refine oGo.invokestatic (pc' := 12) (k' := 1) (n' := 5) (argsL := [.ref b, .int (0 : Int32), .ref a2, .int (0 : Int32), .int (Int32.ofNat cs.length)]) (rest := []) d5_9 rfl (w25 hG) (w26 hG) (w22 hG) (w27 hG) (by decide) pd6 rfl rfl rfl (c_cmp5 hG b a2 cs _ _ f5 A4 (by simp) (by omega)) (by simp) (by decide) (Nat.le_of_ble_eq_true rfl) rfl rfl (by decide) (by decide) ?_
  intro v6 h7 sh7 q8
  obtain ⟨K3, r, rfl, hr⟩ := q8
  refine ⟨_, fun _ hx => Or.inl hx, ?_⟩
  show oGo l Z a0 EL wd pP eE sS mM _ bB tT cC _ _ _ _ _ _ _ _ [a2] h7 1 5 12 #[.val (.ref b), .val (.int (0 : Int32)), .val (.int (Int32.ofNat cs.length)), .val (.ref a2), .unset, .unset] [.int (Int32.ofNat r)]
  refine oGo.istore (pc' := 14) (Ls' := #[.val (.ref b), .val (.int (0 : Int32)), .val (.int (Int32.ofNat cs.length)), .val (.ref a2), .val (.int (Int32.ofNat r)), .unset]) d5_12 rfl rfl ?_
  refine oGo.iload (pc' := 16) d5_14 rfl rfl ?_
  refine oGo.iload_n (pc' := 17) d5_16 rfl rfl ?_
  refine oGo.icmp_eq (pc1 := 20) (pc2 := 57) d5_17 rfl (by decide) (fun q => ?_) (fun q => ?_)
  · obtain ⟨rfl, B3, hc3⟩ : r = cs.length ∧ oArr Z h7 a2 .byte (oI (cs.map lo8)) ∧ ∀ c ∈ cs, ¬ 255 < c := hr.resolve_right (fun z => absurd ((own_eq (by omega) hb31).mp q) (by omega))
    refine oGo.aload_n (pc' := 58) d5_57 rfl rfl rfl ?_
    exact oGo.areturn d5_58 rfl rfl rfl rfl (by decide) (by decide) ⟨(((Keep.refl h []).ext E3).trans K3 (own_new1 (by omega))), a2, rfl, by omega, Or.inl ⟨B3, hc3⟩⟩ (fun _ q => q.elim)
  · rcases hr with ⟨rfl, -⟩ | ⟨hr, c, hci, hc3⟩
    · exact absurd rfl q
    have f9 := oArr.keep f5 K3 (own_nin1 (by omega))
    refine oGo.aload_n (pc' := 21) d5_20 rfl rfl rfl ?_
    refine oGo.iload_n (pc' := 22) d5_21 rfl rfl ?_
    refine oGo.iload_n (pc' := 23) d5_22 rfl rfl ?_
    refine oGo.invokestatic (pc' := 26) (k' := 2) (n' := 15) (argsL := [.ref b, .int (0 : Int32), .int (Int32.ofNat cs.length)]) (rest := []) d5_23 rfl (w39 hG) (w40 hG) (w22 hG) (w41 hG) (by decide) pd7 rfl rfl rfl (c_toBytes hG b cs hn _ f9) (by simp) (by decide) (Nat.le_of_ble_eq_true rfl) rfl rfl (by decide) (by decide) ?_
    intro v10 h11 sh11 q12
    obtain ⟨K4, t, rfl, ht, B4⟩ := q12
    refine ⟨_, fun _ hx => Or.inl hx, ?_⟩
    show oGo l Z a0 EL wd pP eE sS mM _ bB tT cC _ _ _ _ _ _ _ _ [a2] h11 2 15 26 #[.val (.ref b), .val (.int (0 : Int32)), .val (.int (Int32.ofNat cs.length)), .val (.ref a2), .val (.int (Int32.ofNat r)), .unset] [.ref t]
    refine oGo.astore (pc' := 28) (Ls' := #[.val (.ref b), .val (.int (0 : Int32)), .val (.int (Int32.ofNat cs.length)), .val (.ref a2), .val (.int (Int32.ofNat r)), .val (.ref t)]) d5_26 rfl rfl rfl ?_
    refine oGo.aload (pc' := 30) d5_28 rfl rfl rfl ?_
    refine oGo.iload (pc' := 32) d5_30 rfl rfl ?_
    have hcc := hcs c (List.mem_of_getElem? hci)
    refine oGo.invokestatic (pc' := 35) (k' := 2) (n' := 15) (argsL := [.ref t, .int (Int32.ofNat r)]) (rest := []) d5_32 rfl (w55 hG) (w56 hG) (w22 hG) (w57 hG) (by decide) pd8 rfl rfl rfl (c_getChar hG t _ r c hcc (wide2_lo cs r c hci) (wide2_hi cs r c hci) _ B4) (by simp) (by decide) (Nat.le_of_ble_eq_true rfl) rfl rfl (by decide) (by decide) ?_
    intro v13 h14 sh14 q15
    obtain ⟨rfl, ee⟩ := q15
    obtain rfl := ee.symm
    refine ⟨_, fun _ hx => Or.inl hx, ?_⟩
    show oGo l Z a0 EL wd pP eE sS mM _ bB tT cC _ _ _ _ _ _ _ _ [a2] h11 2 15 35 #[.val (.ref b), .val (.int (0 : Int32)), .val (.int (Int32.ofNat cs.length)), .val (.ref a2), .val (.int (Int32.ofNat r)), .val (.ref t)] [.int c]
    refine oGo.sipush (pc' := 38) (v := 255) d5_35 rfl (by decide) ?_
    refine oGo.icmp_gt (pc1 := 41) (pc2 := 54) d5_38 rfl (by decide) (fun q16 => ?_) (fun q => absurd hc3 q)
    refine oGo.aload (pc' := 56) d5_54 rfl rfl rfl ?_
    exact oGo.areturn d5_56 rfl rfl rfl rfl (by decide) (by decide) ⟨((((Keep.refl h []).ext E3).trans K3 (own_new1 (by omega))).trans K4 (by simp)), t, rfl, by omega, Or.inr B4⟩ (fun _ q => q.elim)
abbrev q_strI (Z : State) (h : Heap) (x : Nat) (cs : List Int32) : Option Value → Heap → Prop := fun v h' => v = none ∧ Keep h h' [x] ∧ ∃ t : Nat, h.size ≤ t ∧ oStr Z h' x t cs
set_option maxRecDepth 65536 in
set_option maxHeartbeats 4000000 in
theorem c_strI4 {l : Launch} {Z : State} {a0 : Array Value} {EL : List (String × Nat)} {wd : Prop} (hG : oG a0 Z EL) (x b : Nat) (cs : List Int32) (hn0 : 0 < cs.length) (hn : cs.length ≤ 5) (hcs : ∀ c ∈ cs, ¬ c < 0 ∧ ¬ 65535 < c) (u w0 : Value) (h : Heap) (A : oArr Z h b .char (oI cs)) (E : Exa Z h x "java/lang/String") (F1 : Fld Z h x "java/lang/String" "value" "[B" u) (F2 : Fld Z h x "java/lang/String" "coder" "B" w0) :
    oCtr [] l Z a0 EL wd (⟨"java/lang/String", "<init>", "([CIILjava/lang/Void;)V"⟩ : MethodName) jdk_42_method_149_code 6 none ({ frames := 4, cells := 2, slots := 15, locals := 57 } : Room) #[.ref x, .ref b, .int (0 : Int32), .int (Int32.ofNat cs.length), .null] [x] h ((q_strI Z h x cs)) oNo := by
  obtain ⟨z, hzs, hz⟩ := sCOMPACT hG
  have hb31 : cs.length < 2147483648 := by omega
  have hxl : x < h.size := E.lt
  refine oCtr.enter (Ls := #[.val (.ref x), .val (.ref b), .val (.int (0 : Int32)), .val (.int (Int32.ofNat cs.length)), .val .null, .unset]) (plainFor_of_name pn3) hG.2.1 (fun m => by first | (simp [entryFrame, mkF, argsToLocals, Value.category]; done) | rfl) ?_
  intro pP eE sS mM bB tT cC
  refine oGo.aload_n (pc' := 1) d3_0 rfl rfl rfl ?_
  refine oGo.objinit (pc' := 4) d3_1 rfl (w16 hG) (w17 hG) (w18 hG) rfl (by decide) (Nat.le_of_ble_eq_true rfl) ?_
  refine oGo.iload_n (pc' := 5) d3_4 rfl rfl ?_
  refine oGo.if_ne (pc1 := 8) (pc2 := 27) d3_5 rfl (by decide) (fun q1 => ?_) (fun q => absurd ((own_eq (b := 0) hb31 (by omega)).mp q) (by omega))
  refine oGo.getstatic (pc' := 30) d3_27 rfl (w19 hG) Via.refl hzs ?_
  refine oGo.if_eq (pc1 := 33) (pc2 := 58) d3_30 rfl (by decide) (fun q => absurd q hz) (fun q2 => ?_)
  refine oGo.aload_n (pc' := 34) d3_33 rfl rfl rfl ?_
  refine oGo.iload_n (pc' := 35) d3_34 rfl rfl ?_
  refine oGo.iload_n (pc' := 36) d3_35 rfl rfl ?_
  refine oGo.invokestatic (pc' := 39) (k' := 2) (n' := 15) (argsL := [.ref b, .int (0 : Int32), .int (Int32.ofNat cs.length)]) (rest := []) d3_36 rfl (w20 hG) (w21 hG) (w22 hG) (w23 hG) (by decide) pd7 rfl rfl rfl (c_cmp3 hG b cs hn hcs h A) (by simp) (by decide) (Nat.le_of_ble_eq_true rfl) rfl rfl (by decide) (by decide) ?_
  intro v3 h4 sh4 q5
  obtain ⟨K2, t, rfl, ht, hB⟩ := q5
  refine ⟨_, fun _ hx => Or.inl hx, ?_⟩
  show oGo l Z a0 EL wd pP eE sS mM _ bB tT cC _ _ _ _ _ _ _ _ [x] h4 2 15 39 #[.val (.ref x), .val (.ref b), .val (.int (0 : Int32)), .val (.int (Int32.ofNat cs.length)), .val .null, .unset] [.ref t]
  refine oGo.astore (pc' := 41) (Ls' := #[.val (.ref x), .val (.ref b), .val (.int (0 : Int32)), .val (.int (Int32.ofNat cs.length)), .val .null, .val (.ref t)]) d3_39 rfl rfl rfl ?_
  refine oGo.aload_n (pc' := 42) d3_41 rfl rfl rfl ?_
  refine oGo.aload (pc' := 44) d3_42 rfl rfl rfl ?_
  refine oGo.iload_n (pc' := 45) d3_44 rfl rfl ?_
  obtain ⟨cd, ws, B2, hcd, hfin⟩ : ∃ (cd : Int32) (ws : List Value), oArr Z h4 t .byte ws ∧ (codF (Int32.ofNat cs.length) ws.length = cd ∧ (cd = 0 ∨ cd = 1)) ∧ ((cd = 0 ∧ ws = oI (cs.map lo8) ∧ ∀ c ∈ cs, ¬ 255 < c) ∨ (cd = 1 ∧ ws = oI (wide2 cs))) := by
    rcases hB with ⟨hB, hc⟩ | hB
    · exact ⟨0, _, hB, ⟨by rw [List.length_map, List.length_map]; exact codF0 _, Or.inl rfl⟩, Or.inl ⟨rfl, rfl, hc⟩⟩
    · exact ⟨1, _, hB, ⟨by rw [List.length_map, wide2_len]; exact codF1 hn0 (by omega), Or.inr rfl⟩, Or.inr ⟨rfl, rfl⟩⟩
  refine oGo.invokestatic (pc' := 48) (k' := 2) (n' := 15) (argsL := [.ref t, .int (Int32.ofNat cs.length)]) (rest := [.ref x]) d3_45 rfl (w28 hG) (w29 hG) (w22 hG) (w30 hG) (by decide) pd9 rfl rfl rfl (c_coderLen hG t ws (Int32.ofNat cs.length) _ B2) (by simp) (by decide) (Nat.le_of_ble_eq_true rfl) rfl rfl (by decide) (by decide) ?_
  intro v6 h7 sh7 q8
  obtain ⟨rfl, ee⟩ := q8
  obtain rfl := ee.symm
  refine ⟨_, fun _ hx => Or.inl hx, ?_⟩
  show oGo l Z a0 EL wd pP eE sS mM _ bB tT cC _ _ _ _ _ _ _ _ [x] h4 2 15 48 #[.val (.ref x), .val (.ref b), .val (.int (0 : Int32)), .val (.int (Int32.ofNat cs.length)), .val .null, .val (.ref t)] [.int (codF (Int32.ofNat cs.length) ws.length), .ref x]
  rw [hcd.1]
  have f9 := Fld.keep F2 K2 nin0
  have f10 := Exa.keep E K2
  refine oGo.putfield (pc' := 51) (ty := .byte) d3_48 rfl (w31 hG) Via.refl f9 f10 (Or.inr ⟨(w32 hG), rfl, rfl⟩) (w7 hG) (by decide) (by rcases hcd.2 with rfl | rfl <;> decide) (by rcases hcd.2 with rfl | rfl <;> decide) (by simp) ?_
  intro h11 W12 sh11
  have f13 := Fld.same W12 f9
  refine oGo.aload_n (pc' := 52) d3_51 rfl rfl rfl ?_
  refine oGo.aload (pc' := 54) d3_52 rfl rfl rfl ?_
  have f14 := Fld.keep F1 K2 nin0
  have f15 := Fld.other W12 f14 (Or.inr (slot_ne (C := "java/lang/String") (Or.inr (w34 hG)) (Or.inr (w32 hG)) (by decide) (t := (.array .byte)) (t' := .byte) (by decide) (by decide)))
  have f16 := Exa.wr W12 f10
  refine oGo.putfield (pc' := 57) (ty := (.array .byte)) d3_54 rfl (w33 hG) Via.refl f15 f16 (Or.inr ⟨(w34 hG), rfl, rfl⟩) (w7 hG) (by decide) rfl rfl (by simp) ?_
  intro h17 W18 sh17
  have f19 := Fld.same W18 f15
  have f20 := Fld.other W18 f13 (Or.inr (slot_ne (C := "java/lang/String") (Or.inr (w32 hG)) (Or.inr (w34 hG)) (by decide) (t := .byte) (t' := (.array .byte)) (by decide) (by decide)))
  have f21 := Exa.wr W18 f16
  have f22 := oArr.other W12 B2 (own_ne (by omega))
  have f23 := oArr.other W18 f22 (own_ne (by omega))
  exact oGo.return_ d3_57 rfl (by decide) (by decide) ⟨rfl, (((Keep.refl h [x]).trans K2 (by simp)).wr W12 (Or.inl (by simp))).wr W18 (Or.inl (by simp)), t, ht, f21, f19, by rcases hfin with ⟨rfl, rfl, hc⟩ | ⟨rfl, rfl⟩; exact Or.inl ⟨f20, f23, hc⟩; exact Or.inr ⟨f20, f23⟩, hcs⟩ (fun _ q => q.elim)
set_option maxRecDepth 65536 in
set_option maxHeartbeats 4000000 in
theorem c_strI1 {l : Launch} {Z : State} {a0 : Array Value} {EL : List (String × Nat)} {wd : Prop} (hG : oG a0 Z EL) (x b : Nat) (cs : List Int32) (hn0 : 0 < cs.length) (hn : cs.length ≤ 5) (hcs : ∀ c ∈ cs, ¬ c < 0 ∧ ¬ 65535 < c) (u w0 : Value) (h : Heap) (A : oArr Z h b .char (oI cs)) (E : Exa Z h x "java/lang/String") (F1 : Fld Z h x "java/lang/String" "value" "[B" u) (F2 : Fld Z h x "java/lang/String" "coder" "B" w0) :
    oCtr [] l Z a0 EL wd (⟨"java/lang/String", "<init>", "([C)V"⟩ : MethodName) jdk_42_method_3_code 2 none ({ frames := 5, cells := 2, slots := 15, locals := 74 } : Room) #[.ref x, .ref b] [x] h ((q_strI Z h x cs)) oNo := by
  refine oCtr.enter (Ls := #[.val (.ref x), .val (.ref b)]) (plainFor_of_name pn3) hG.2.1 (fun m => by first | (simp [entryFrame, mkF, argsToLocals, Value.category]; done) | rfl) ?_
  intro pP eE sS mM bB tT cC
  refine oGo.aload_n (pc' := 1) d2_0 rfl rfl rfl ?_
  refine oGo.aload_n (pc' := 2) d2_1 rfl rfl rfl ?_
  refine oGo.iconst (pc' := 3) (v := 0) d2_2 rfl (by decide) ?_
  refine oGo.aload_n (pc' := 4) d2_3 rfl rfl rfl ?_
  refine oGo.arraylength (pc' := 5) (z := (Int32.ofNat cs.length)) d2_4 rfl A (by rw [List.length_map]) ?_
  refine oGo.aconst_null (pc' := 6) d2_5 rfl ?_
  refine oGo.invokespecial (pc' := 9) (k' := 2) (n' := 15) (a := x) (argsL := [.ref b, .int (0 : Int32), .int (Int32.ofNat cs.length), .null]) (rest := []) d2_6 rfl rfl (w12 hG) (w13 hG) (w8 hG) (w15 hG) (by decide) pd10 rfl rfl rfl (c_strI4 hG x b cs hn0 hn hcs u w0 h A E F1 F2) (by simp) (by decide) (Nat.le_of_ble_eq_true rfl) rfl rfl (by decide) (by decide) ?_
  intro v1 h2 sh2 q3
  obtain ⟨rfl, hq⟩ := q3
  refine ⟨_, fun _ hx => Or.inl hx, ?_⟩
  show oGo l Z a0 EL wd pP eE sS mM _ bB tT cC _ _ _ _ _ _ _ _ [x] h2 2 15 9 #[.val (.ref x), .val (.ref b)] []
  exact oGo.return_ d2_9 rfl (by decide) (by decide) ⟨rfl, hq⟩ (fun _ q => q.elim)
set_option maxRecDepth 65536 in
set_option maxHeartbeats 4000000 in
theorem c_latCharAt {l : Launch} {Z : State} {a0 : Array Value} {EL : List (String × Nat)} {wd : Prop} (hG : oG a0 Z EL) (t : Nat) (cs : List Int32) (i : Nat) (c : Int32) (hc : ¬ c < 0 ∧ ¬ 255 < c) (hi : cs[i]? = some c) (h : Heap) (B : oArr Z h t .byte (oI (cs.map lo8))) :
    oCtr [] l Z a0 EL wd (⟨"java/lang/StringLatin1", "charAt", "([BI)C"⟩ : MethodName) jdk_43_method_2_code 2 (some .char) ({ frames := 2, cells := 0, slots := 0, locals := 27 } : Room) #[.ref t, .int (Int32.ofNat i)] [] h (fun v h' => v = some (.int c) ∧ h' = h) oNo := by
  have hl : i < cs.length := (List.getElem?_eq_some_iff.mp hi).1
  have hb31 : cs.length < 2147483648 := by obtain ⟨_, _, _, q, _⟩ := B; simpa using q
  refine oCtr.enter (Ls := #[.val (.ref t), .val (.int (Int32.ofNat i))]) (plainFor_of_name pn4) hG.2.1 (fun m => by first | (simp [entryFrame, mkF, argsToLocals, Value.category]; done) | rfl) ?_
  intro pP eE sS mM bB tT cC
  refine oGo.iload_n (pc' := 1) d22_0 rfl rfl ?_
  refine oGo.aload_n (pc' := 2) d22_1 rfl rfl rfl ?_
  refine oGo.arraylength (pc' := 3) (z := (Int32.ofNat cs.length)) d22_2 rfl B (by rw [List.length_map, List.length_map]) ?_
  refine oGo.invokestatic (pc' := 6) (k' := 0) (n' := 0) (argsL := [.int (Int32.ofNat i), .int (Int32.ofNat cs.length)]) (rest := []) d22_3 rfl (w92 hG) (w81 hG) (w8 hG) (w82 hG) (by decide) pd2 rfl rfl rfl (c_checkIndex hG _ _ (own_nn (by omega)) ((own_lt (by omega) hb31).mpr hl) h) (by simp) (by decide) (Nat.le_of_ble_eq_true rfl) rfl rfl (by decide) (by decide) ?_
  intro v1 h2 sh2 q3
  obtain ⟨rfl, ee⟩ := q3
  obtain rfl := ee.symm
  refine ⟨_, fun _ hx => Or.inl hx, ?_⟩
  show oGo l Z a0 EL wd pP eE sS mM _ bB tT cC _ _ _ _ _ _ _ _ [] h 0 0 6 #[.val (.ref t), .val (.int (Int32.ofNat i))] []
  refine oGo.aload_n (pc' := 7) d22_6 rfl rfl rfl ?_
  refine oGo.iload_n (pc' := 8) d22_7 rfl rfl ?_
  refine oGo.baload (pc' := 9) (i := i) d22_8 rfl B rfl (v := .int (lo8 c)) (by simp [hi]) ?_
  refine oGo.sipush (pc' := 12) (v := 255) d22_9 rfl (by decide) ?_
  refine oGo.iand (pc' := 13) d22_12 rfl ?_
  refine oGo.i2c (pc' := 14) d22_13 rfl ?_
  exact oGo.nreturn d22_14 rfl (by simp) (lat_says hc.1 hc.2) (by decide) (by decide) ⟨rfl, rfl⟩ (fun _ q => q.elim)
set_option maxRecDepth 65536 in
set_option maxHeartbeats 4000000 in
theorem c_u16CharAt {l : Launch} {Z : State} {a0 : Array Value} {EL : List (String × Nat)} {wd : Prop} (hG : oG a0 Z EL) (t : Nat) (cs : List Int32) (i : Nat) (c : Int32) (hc : ¬ c < 0 ∧ ¬ 65535 < c) (hi : cs[i]? = some c) (h : Heap) (B : oArr Z h t .byte (oI (wide2 cs))) :
    oCtr [] l Z a0 EL wd (⟨"java/lang/StringUTF16", "charAt", "([BI)C"⟩ : MethodName) jdk_52_method_83_code 2 (some .char) ({ frames := 3, cells := 0, slots := 0, locals := 40 } : Room) #[.ref t, .int (Int32.ofNat i)] [] h (fun v h' => v = some (.int c) ∧ h' = h) oNo := by
  have hl : i < cs.length := (List.getElem?_eq_some_iff.mp hi).1
  have hb31 : 2 * cs.length < 2147483648 := by obtain ⟨_, _, _, q, _⟩ := B; rwa [List.length_map, wide2_len] at q
  refine oCtr.enter (Ls := #[.val (.ref t), .val (.int (Int32.ofNat i))]) (plainFor_of_name pn1) hG.2.1 (fun m => by first | (simp [entryFrame, mkF, argsToLocals, Value.category]; done) | rfl) ?_
  intro pP eE sS mM bB tT cC
  refine oGo.iload_n (pc' := 1) d17_0 rfl rfl ?_
  refine oGo.aload_n (pc' := 2) d17_1 rfl rfl rfl ?_
  refine oGo.invokestatic (pc' := 5) (k' := 0) (n' := 0) (argsL := [.int (Int32.ofNat i), .ref t]) (rest := []) d17_2 rfl (w74 hG) (w75 hG) (w22 hG) (w76 hG) (by decide) pd11 rfl rfl rfl (c_u16check hG _ t _ (own_nn (by omega)) (by rw [List.length_map, wide2_len, own_shr1 hb31]; exact (own_lt (by omega) (by omega)).mpr hl) h B) (by simp) (by decide) (Nat.le_of_ble_eq_true rfl) rfl rfl (by decide) (by decide) ?_
  intro v1 h2 sh2 q3
  obtain ⟨rfl, ee⟩ := q3
  obtain rfl := ee.symm
  refine ⟨_, fun _ hx => Or.inl hx, ?_⟩
  show oGo l Z a0 EL wd pP eE sS mM _ bB tT cC _ _ _ _ _ _ _ _ [] h 0 0 5 #[.val (.ref t), .val (.int (Int32.ofNat i))] []
  refine oGo.aload_n (pc' := 6) d17_5 rfl rfl rfl ?_
  refine oGo.iload_n (pc' := 7) d17_6 rfl rfl ?_
  refine oGo.invokestatic (pc' := 10) (k' := 0) (n' := 0) (argsL := [.ref t, .int (Int32.ofNat i)]) (rest := []) d17_7 rfl (w55 hG) (w56 hG) (w22 hG) (w57 hG) (by decide) pd8 rfl rfl rfl (c_getChar hG t _ i c hc (wide2_lo cs i c hi) (wide2_hi cs i c hi) h B) (by simp) (by decide) (Nat.le_of_ble_eq_true rfl) rfl rfl (by decide) (by decide) ?_
  intro v4 h5 sh5 q6
  obtain ⟨rfl, ee⟩ := q6
  obtain rfl := ee.symm
  refine ⟨_, fun _ hx => Or.inl hx, ?_⟩
  show oGo l Z a0 EL wd pP eE sS mM _ bB tT cC _ _ _ _ _ _ _ _ [] h 0 0 10 #[.val (.ref t), .val (.int (Int32.ofNat i))] [.int c]
  exact oGo.nreturn d17_10 rfl (by simp) (nar_char hc.1 hc.2) (by decide) (by decide) ⟨rfl, rfl⟩ (fun _ q => q.elim)
set_option maxRecDepth 65536 in
set_option maxHeartbeats 4000000 in
theorem c_charAt {l : Launch} {Z : State} {a0 : Array Value} {EL : List (String × Nat)} {wd : Prop} (hG : oG a0 Z EL) (x t : Nat) (cs : List Int32) (i : Nat) (c : Int32) (hi : cs[i]? = some c) (h : Heap) (Sx : oStr Z h x t cs) :
    oCtr [] l Z a0 EL wd (⟨"java/lang/String", "charAt", "(I)C"⟩ : MethodName) jdk_42_method_56_code 2 (some .char) ({ frames := 4, cells := 0, slots := 0, locals := 53 } : Room) #[.ref x, .int (Int32.ofNat i)] [] h (fun v h' => v = some (.int c) ∧ h' = h) oNo := by
  obtain ⟨E, F1, hor, hcs⟩ := Sx
  have hc := hcs c (List.mem_of_getElem? hi)
  refine oCtr.enter (Ls := #[.val (.ref x), .val (.int (Int32.ofNat i))]) (plainFor_of_name pn3) hG.2.1 (fun m => by first | (simp [entryFrame, mkF, argsToLocals, Value.category]; done) | rfl) ?_
  intro pP eE sS mM bB tT cC
  rcases hor with ⟨F2, B, h255⟩ | ⟨F2, B⟩
  · refine oGo.aload_n (pc' := 1) d15_0 rfl rfl rfl ?_
    refine oGo.invokevirtual (pc' := 4) (k' := 0) (n' := 0) (a := x) (argsL := []) (rest := []) d15_1 rfl (w66 hG) (w67 hG) (w69 hG) (w68 hG) (w8 hG) (w70 hG) (by decide) pd12 rfl rfl rfl E (c_isLatin1 hG x 0 h F2) (by simp) (by decide) (Nat.le_of_ble_eq_true rfl) rfl rfl (by decide) (by decide) ?_
    intro v1 h2 sh2 q3
    obtain ⟨rfl, ee⟩ := q3
    obtain rfl := ee.symm
    refine ⟨_, fun _ hx => Or.inl hx, ?_⟩
    show oGo l Z a0 EL wd pP eE sS mM _ bB tT cC _ _ _ _ _ _ _ _ [] h 0 0 4 #[.val (.ref x), .val (.int (Int32.ofNat i))] [.int (1 : Int32)]
    refine oGo.if_eq (pc1 := 7) (pc2 := 16) d15_4 rfl (by decide) (fun q => by first | exact absurd q (by decide) | exact absurd (by decide) q) (fun q4 => ?_)
    refine oGo.aload_n (pc' := 8) d15_7 rfl rfl rfl ?_
    refine oGo.getfield (pc' := 11) d15_8 rfl (w33 hG) Via.refl F1 ?_
    refine oGo.iload_n (pc' := 12) d15_11 rfl rfl ?_
    refine oGo.invokestatic (pc' := 15) (k' := 0) (n' := 0) (argsL := [.ref t, .int (Int32.ofNat i)]) (rest := []) d15_12 rfl (w88 hG) (w89 hG) (w90 hG) (w91 hG) (by decide) pd8 rfl rfl rfl (c_latCharAt hG t cs i c ⟨hc.1, h255 c (List.mem_of_getElem? hi)⟩ hi h B) (by simp) (by decide) (Nat.le_of_ble_eq_true rfl) rfl rfl (by decide) (by decide) ?_
    intro v5 h6 sh6 q7
    obtain ⟨rfl, ee⟩ := q7
    obtain rfl := ee.symm
    refine ⟨_, fun _ hx => Or.inl hx, ?_⟩
    show oGo l Z a0 EL wd pP eE sS mM _ bB tT cC _ _ _ _ _ _ _ _ [] h 0 0 15 #[.val (.ref x), .val (.int (Int32.ofNat i))] [.int c]
    exact oGo.nreturn d15_15 rfl (by simp) (nar_char hc.1 hc.2) (by decide) (by decide) ⟨rfl, rfl⟩ (fun _ q => q.elim)
  · refine oGo.aload_n (pc' := 1) d15_0 rfl rfl rfl ?_
    refine oGo.invokevirtual (pc' := 4) (k' := 0) (n' := 0) (a := x) (argsL := []) (rest := []) d15_1 rfl (w66 hG) (w67 hG) (w69 hG) (w68 hG) (w8 hG) (w70 hG) (by decide) pd12 rfl rfl rfl E (c_isLatin1 hG x 1 h F2) (by simp) (by decide) (Nat.le_of_ble_eq_true rfl) rfl rfl (by decide) (by decide) ?_
    intro v8 h9 sh9 q10
    obtain ⟨rfl, ee⟩ := q10
    obtain rfl := ee.symm
    refine ⟨_, fun _ hx => Or.inl hx, ?_⟩
    show oGo l Z a0 EL wd pP eE sS mM _ bB tT cC _ _ _ _ _ _ _ _ [] h 0 0 4 #[.val (.ref x), .val (.int (Int32.ofNat i))] [.int (0 : Int32)]
    refine oGo.if_eq (pc1 := 7) (pc2 := 16) d15_4 rfl (by decide) (fun q11 => ?_) (fun q => by first | exact absurd q (by decide) | exact absurd (by decide) q)
    refine oGo.aload_n (pc' := 17) d15_16 rfl rfl rfl ?_
    refine oGo.getfield (pc' := 20) d15_17 rfl (w33 hG) Via.refl F1 ?_
    refine oGo.iload_n (pc' := 21) d15_20 rfl rfl ?_
    refine oGo.invokestatic (pc' := 24) (k' := 0) (n' := 0) (argsL := [.ref t, .int (Int32.ofNat i)]) (rest := []) d15_21 rfl (w71 hG) (w72 hG) (w22 hG) (w73 hG) (by decide) pd8 rfl rfl rfl (c_u16CharAt hG t cs i c hc hi h B) (by simp) (by decide) (Nat.le_of_ble_eq_true rfl) rfl rfl (by decide) (by decide) ?_
    intro v12 h13 sh13 q14
    obtain ⟨rfl, ee⟩ := q14
    obtain rfl := ee.symm
    refine ⟨_, fun _ hx => Or.inl hx, ?_⟩
    show oGo l Z a0 EL wd pP eE sS mM _ bB tT cC _ _ _ _ _ _ _ _ [] h 0 0 24 #[.val (.ref x), .val (.int (Int32.ofNat i))] [.int c]
    exact oGo.nreturn d15_24 rfl (by simp) (nar_char hc.1 hc.2) (by decide) (by decide) ⟨rfl, rfl⟩ (fun _ q => q.elim)
set_option maxRecDepth 65536 in
set_option maxHeartbeats 4000000 in
theorem c_decimal {l : Launch} {Z : State} {a0 : Array Value} {EL : List (String × Nat)} {wd : Prop} (hG : oG a0 Z EL) (x t : Nat) (cs : List Int32) (i j : Nat) (hi : i ≤ 5) (hj : j ≤ cs.length) (hcl : cs.length = 5) (h : Heap) (Sx : oStr Z h x t cs) :
    oCtr [] l Z a0 EL wd (⟨"com/example/rulewarden/rulewarden/model/IpAddress", "decimal", "(Ljava/lang/String;II)I"⟩ : MethodName) prog_50_method_16_code 7 (some .int) ({ frames := 5, cells := 0, slots := 0, locals := 68 } : Room) #[.ref x, .int (Int32.ofNat i), .int (Int32.ofNat j)] [] h (fun v h' => v = some (.int (decF cs i j)) ∧ h' = h) oNo := by
  refine oCtr.enter (Ls := #[.val (.ref x), .val (.int (Int32.ofNat i)), .val (.int (Int32.ofNat j)), .unset, .unset, .unset, .unset]) (plainFor_of_name pn5) hG.2.1 (fun m => by first | (simp [entryFrame, mkF, argsToLocals, Value.category]; done) | rfl) ?_
  intro pP eE sS mM bB tT cC
  have hln : (Int32.ofNat j - Int32.ofNat i).toInt = (j : Int) - i := own_subI (by omega) (by omega)
  generalize hL : Int32.ofNat j - Int32.ofNat i = ln at hln
  have e1 : (1 : Int32).toInt = 1 := rfl
  have e3 : (3 : Int32).toInt = 3 := rfl
  have E := Sx.1
  refine oGo.iload_n (pc' := 1) d8_0 rfl rfl ?_
  refine oGo.iload_n (pc' := 2) d8_1 rfl rfl ?_
  refine oGo.isub (pc' := 3) d8_2 rfl ?_
  rw [hL]
  refine oGo.istore_n (pc' := 4) (Ls' := #[.val (.ref x), .val (.int (Int32.ofNat i)), .val (.int (Int32.ofNat j)), .val (.int ln), .unset, .unset, .unset]) d8_3 rfl rfl ?_
  refine oGo.iload_n (pc' := 5) d8_4 rfl rfl ?_
  refine oGo.iconst (pc' := 6) (v := 1) d8_5 rfl (by decide) ?_
  refine oGo.icmp_lt (pc1 := 9) (pc2 := 29) d8_6 rfl (by decide) (fun q1 => ?_) (fun q1 => ?_)
  · refine oGo.iconst (pc' := 30) (v := -1) d8_29 rfl (by decide) ?_
    exact oGo.ireturn d8_30 rfl (by decide) (by decide) ⟨by rw [decF, if_pos (by rw [Int32.lt_iff_toInt_lt] at q1; omega)], rfl⟩ (fun _ q => q.elim)
  · have c1 : ¬ j < i + 1 := by rw [Int32.lt_iff_toInt_lt] at q1; omega
    refine oGo.iload_n (pc' := 10) d8_9 rfl rfl ?_
    refine oGo.iconst (pc' := 11) (v := 3) d8_10 rfl (by decide) ?_
    refine oGo.icmp_gt (pc1 := 14) (pc2 := 29) d8_11 rfl (by decide) (fun q2 => ?_) (fun q2 => ?_)
    · refine oGo.iconst (pc' := 30) (v := -1) d8_29 rfl (by decide) ?_
      exact oGo.ireturn d8_30 rfl (by decide) (by decide) ⟨by rw [decF, if_neg c1, if_pos (by rw [Int32.lt_iff_toInt_lt] at q2; omega)], rfl⟩ (fun _ q => q.elim)
    · have c2 : ¬ i + 3 < j := by rw [Int32.lt_iff_toInt_lt] at q2; omega
      refine oGo.iload_n (pc' := 15) d8_14 rfl rfl ?_
      refine oGo.iconst (pc' := 16) (v := 1) d8_15 rfl (by decide) ?_
      refine oGo.icmp_le (pc1 := 19) (pc2 := 31) d8_16 rfl (by decide) (fun q3 => ?_) (fun q3 => ?_)
      · have hD : decF cs i j = decL ((cs.drop i).take (j - i)) 0 := by rw [decF, if_neg c1, if_neg c2, if_neg (by rw [Int32.lt_iff_toInt_lt] at q3; omega)]
        refine oGo.iconst (pc' := 32) (v := 0) d8_31 rfl (by decide) ?_
        refine oGo.istore (pc' := 34) (Ls' := #[.val (.ref x), .val (.int (Int32.ofNat i)), .val (.int (Int32.ofNat j)), .val (.int ln), .val (.int (0 : Int32)), .unset, .unset]) d8_32 rfl rfl ?_
        refine oGo.iload_n (pc' := 35) d8_34 rfl rfl ?_
        refine oGo.istore (pc' := 37) (Ls' := #[.val (.ref x), .val (.int (Int32.ofNat i)), .val (.int (Int32.ofNat j)), .val (.int ln), .val (.int (0 : Int32)), .val (.int (Int32.ofNat i)), .unset]) d8_35 rfl rfl ?_
        have loop : ∀ (r a : Nat) (v : Int32) (s6 : Slot), r + a = j → i ≤ a → decF cs i j = decL ((cs.drop a).take (j - a)) v → oSl s6 → oGo l Z a0 EL wd pP eE sS mM #[.ref x, .int (Int32.ofNat i), .int (Int32.ofNat j)] bB tT cC ({ frames := 5, cells := 0, slots := 0, locals := 68 } : Room) "com/example/rulewarden/rulewarden/model/IpAddress" prog_50_method_16_code 7 (some .int) "decimal" (fun v h' => v = some (.int (decF cs i j)) ∧ h' = h) oNo [] h 0 0 37 #[.val (.ref x), .val (.int (Int32.ofNat i)), .val (.int (Int32.ofNat j)), .val (.int ln), .val (.int v), .val (.int (Int32.ofNat a)), s6] [] := by
          intro r
          induction r with
          | zero =>
            intro a v s6 hr hia hd hs6
            obtain rfl : a = j := by omega
            refine oGo.iload (pc' := 39) d8_37 rfl rfl ?_
            refine oGo.iload_n (pc' := 40) d8_39 rfl rfl ?_
            refine oGo.icmp_ge (pc1 := 43) (pc2 := 86) d8_40 rfl (by decide) (fun q1 => ?_) (fun q => absurd q (by rw [own_lt (by omega) (by omega)]; omega))
            refine oGo.iload (pc' := 88) d8_86 rfl rfl ?_
            exact oGo.ireturn d8_88 rfl (by decide) (by decide) ⟨by rw [hd, Nat.sub_self]; rfl, rfl⟩ (fun _ q => q.elim)
          | succ r ih =>
            intro a v s6 hr hia hd hs6
            have ha : a < cs.length := by omega
            obtain ⟨c, hc⟩ : ∃ c, cs[a]? = some c := ⟨_, List.getElem?_eq_getElem ha⟩
            have hdc : (cs.drop a).take (j - a) = c :: (cs.drop (a + 1)).take (j - (a + 1)) := own_drop_take cs a j c hc (by omega)
            rw [hdc, decL] at hd
            refine oGo.iload (pc' := 39) d8_37 rfl rfl ?_
            refine oGo.iload_n (pc' := 40) d8_39 rfl rfl ?_
            refine oGo.icmp_ge (pc1 := 43) (pc2 := 86) d8_40 rfl (by decide) (fun q => absurd ((own_lt (by omega) (by omega)).mpr (by omega)) q) (fun q2 => ?_)
            refine oGo.aload_n (pc' := 44) d8_43 rfl rfl rfl ?_
            refine oGo.iload (pc' := 46) d8_44 rfl rfl ?_
            refine oGo.invokevirtual (pc' := 49) (k' := 0) (n' := 0) (a := x) (argsL := [.int (Int32.ofNat a)]) (rest := []) d8_46 rfl (w61 hG) (w62 hG) (w64 hG) (w63 hG) (w8 hG) (w65 hG) (by decide) pd13 rfl rfl rfl E (c_charAt hG x t cs a c hc h Sx) (by simp) (by decide) (Nat.le_of_ble_eq_true rfl) rfl rfl (by decide) (by decide) ?_
            intro v3 h4 sh4 q5
            obtain ⟨rfl, ee⟩ := q5
            obtain rfl := ee.symm
            refine ⟨_, fun _ hx => Or.inl hx, ?_⟩
            show oGo l Z a0 EL wd pP eE sS mM _ bB tT cC _ _ _ _ _ _ _ _ [] h 0 0 49 #[.val (.ref x), .val (.int (Int32.ofNat i)), .val (.int (Int32.ofNat j)), .val (.int ln), .val (.int v), .val (.int (Int32.ofNat a)), s6] [.int c]
            refine oGo.istoreS (pc' := 51) (Ls' := #[.val (.ref x), .val (.int (Int32.ofNat i)), .val (.int (Int32.ofNat j)), .val (.int ln), .val (.int v), .val (.int (Int32.ofNat a)), .val (.int c)]) d8_49 rfl hs6 rfl rfl ?_
            refine oGo.iload (pc' := 53) d8_51 rfl rfl ?_
            refine oGo.bipush (pc' := 55) (v := 48) d8_53 rfl (by decide) ?_
            refine oGo.icmp_lt (pc1 := 58) (pc2 := 65) d8_55 rfl (by decide) (fun q1 => ?_) (fun q1 => ?_)
            · refine oGo.iconst (pc' := 66) (v := -1) d8_65 rfl (by decide) ?_
              exact oGo.ireturn d8_66 rfl (by decide) (by decide) ⟨by rw [hd, if_pos q1], rfl⟩ (fun _ q => q.elim)
            · refine oGo.iload (pc' := 60) d8_58 rfl rfl ?_
              refine oGo.bipush (pc' := 62) (v := 57) d8_60 rfl (by decide) ?_
              refine oGo.icmp_le (pc1 := 65) (pc2 := 67) d8_62 rfl (by decide) (fun q2 => ?_) (fun q2 => ?_)
              · refine oGo.iload (pc' := 69) d8_67 rfl rfl ?_
                refine oGo.bipush (pc' := 71) (v := 10) d8_69 rfl (by decide) ?_
                refine oGo.imul (pc' := 72) d8_71 rfl ?_
                refine oGo.iload (pc' := 74) d8_72 rfl rfl ?_
                refine oGo.bipush (pc' := 76) (v := 48) d8_74 rfl (by decide) ?_
                refine oGo.isub (pc' := 77) d8_76 rfl ?_
                refine oGo.iadd (pc' := 78) d8_77 rfl ?_
                refine oGo.istore (pc' := 80) (Ls' := #[.val (.ref x), .val (.int (Int32.ofNat i)), .val (.int (Int32.ofNat j)), .val (.int ln), .val (.int ((v * (10 : Int32)) + (c - (48 : Int32)))), .val (.int (Int32.ofNat a)), .val (.int c)]) d8_78 rfl rfl ?_
                refine oGo.iinc (pc' := 83) (y := 1) (Ls' := #[.val (.ref x), .val (.int (Int32.ofNat i)), .val (.int (Int32.ofNat j)), .val (.int ln), .val (.int ((v * (10 : Int32)) + (c - (48 : Int32)))), .val (.int ((Int32.ofNat a) + (1 : Int32))), .val (.int c)]) d8_80 rfl rfl (by decide) rfl ?_
                refine oGo.goto (pc' := 37) d8_83 (by decide) ?_
                rw [own_succ]
                exact ih (a + 1) _ _ (by omega) (by omega) (by rw [hd, if_neg q1, if_neg q2]) (Or.inr ⟨_, rfl, rfl⟩)
              · refine oGo.iconst (pc' := 66) (v := -1) d8_65 rfl (by decide) ?_
                exact oGo.ireturn d8_66 rfl (by decide) (by decide) ⟨by rw [hd, if_neg q1, if_pos q2], rfl⟩ (fun _ q => q.elim)
        exact loop (j - i) i 0 _ (by omega) (Nat.le_refl _) hD (Or.inl rfl)
      · have c3 : i + 1 < j := by rw [Int32.lt_iff_toInt_lt] at q3; omega
        obtain ⟨c, hc⟩ : ∃ c, cs[i]? = some c := ⟨_, List.getElem?_eq_getElem (by omega)⟩
        refine oGo.aload_n (pc' := 20) d8_19 rfl rfl rfl ?_
        refine oGo.iload_n (pc' := 21) d8_20 rfl rfl ?_
        refine oGo.invokevirtual (pc' := 24) (k' := 0) (n' := 0) (a := x) (argsL := [.int (Int32.ofNat i)]) (rest := []) d8_21 rfl (w61 hG) (w62 hG) (w64 hG) (w63 hG) (w8 hG) (w65 hG) (by decide) pd13 rfl rfl rfl E (c_charAt hG x t cs i c hc h Sx) (by simp) (by decide) (Nat.le_of_ble_eq_true rfl) rfl rfl (by decide) (by decide) ?_
        intro v6 h7 sh7 q8
        obtain ⟨rfl, ee⟩ := q8
        obtain rfl := ee.symm
        refine ⟨_, fun _ hx => Or.inl hx, ?_⟩
        show oGo l Z a0 EL wd pP eE sS mM _ bB tT cC _ _ _ _ _ _ _ _ [] h 0 0 24 #[.val (.ref x), .val (.int (Int32.ofNat i)), .val (.int (Int32.ofNat j)), .val (.int ln), .unset, .unset, .unset] [.int c]
        refine oGo.bipush (pc' := 26) (v := 48) d8_24 rfl (by decide) ?_
        refine oGo.icmp_ne (pc1 := 29) (pc2 := 31) d8_26 rfl (by decide) (fun q4 => ?_) (fun q4 => ?_)
        · have hD : decF cs i j = decL ((cs.drop i).take (j - i)) 0 := by rw [decF, if_neg c1, if_neg c2, if_neg (by rw [hc]; rintro ⟨-, q⟩; exact q4 (Option.some.inj q))]
          refine oGo.iconst (pc' := 32) (v := 0) d8_31 rfl (by decide) ?_
          refine oGo.istore (pc' := 34) (Ls' := #[.val (.ref x), .val (.int (Int32.ofNat i)), .val (.int (Int32.ofNat j)), .val (.int ln), .val (.int (0 : Int32)), .unset, .unset]) d8_32 rfl rfl ?_
          refine oGo.iload_n (pc' := 35) d8_34 rfl rfl ?_
          refine oGo.istore (pc' := 37) (Ls' := #[.val (.ref x), .val (.int (Int32.ofNat i)), .val (.int (Int32.ofNat j)), .val (.int ln), .val (.int (0 : Int32)), .val (.int (Int32.ofNat i)), .unset]) d8_35 rfl rfl ?_
          have loop : ∀ (r a : Nat) (v : Int32) (s6 : Slot), r + a = j → i ≤ a → decF cs i j = decL ((cs.drop a).take (j - a)) v → oSl s6 → oGo l Z a0 EL wd pP eE sS mM #[.ref x, .int (Int32.ofNat i), .int (Int32.ofNat j)] bB tT cC ({ frames := 5, cells := 0, slots := 0, locals := 68 } : Room) "com/example/rulewarden/rulewarden/model/IpAddress" prog_50_method_16_code 7 (some .int) "decimal" (fun v h' => v = some (.int (decF cs i j)) ∧ h' = h) oNo [] h 0 0 37 #[.val (.ref x), .val (.int (Int32.ofNat i)), .val (.int (Int32.ofNat j)), .val (.int ln), .val (.int v), .val (.int (Int32.ofNat a)), s6] [] := by
            intro r
            induction r with
            | zero =>
              intro a v s6 hr hia hd hs6
              obtain rfl : a = j := by omega
              refine oGo.iload (pc' := 39) d8_37 rfl rfl ?_
              refine oGo.iload_n (pc' := 40) d8_39 rfl rfl ?_
              refine oGo.icmp_ge (pc1 := 43) (pc2 := 86) d8_40 rfl (by decide) (fun q9 => ?_) (fun q => absurd q (by rw [own_lt (by omega) (by omega)]; omega))
              refine oGo.iload (pc' := 88) d8_86 rfl rfl ?_
              exact oGo.ireturn d8_88 rfl (by decide) (by decide) ⟨by rw [hd, Nat.sub_self]; rfl, rfl⟩ (fun _ q => q.elim)
            | succ r ih =>
              intro a v s6 hr hia hd hs6
              have ha : a < cs.length := by omega
              obtain ⟨c, hc⟩ : ∃ c, cs[a]? = some c := ⟨_, List.getElem?_eq_getElem ha⟩
              have hdc : (cs.drop a).take (j - a) = c :: (cs.drop (a + 1)).take (j - (a + 1)) := own_drop_take cs a j c hc (by omega)
              rw [hdc, decL] at hd
              refine oGo.iload (pc' := 39) d8_37 rfl rfl ?_
              refine oGo.iload_n (pc' := 40) d8_39 rfl rfl ?_
              refine oGo.icmp_ge (pc1 := 43) (pc2 := 86) d8_40 rfl (by decide) (fun q => absurd ((own_lt (by omega) (by omega)).mpr (by omega)) q) (fun q10 => ?_)
              refine oGo.aload_n (pc' := 44) d8_43 rfl rfl rfl ?_
              refine oGo.iload (pc' := 46) d8_44 rfl rfl ?_
              refine oGo.invokevirtual (pc' := 49) (k' := 0) (n' := 0) (a := x) (argsL := [.int (Int32.ofNat a)]) (rest := []) d8_46 rfl (w61 hG) (w62 hG) (w64 hG) (w63 hG) (w8 hG) (w65 hG) (by decide) pd13 rfl rfl rfl E (c_charAt hG x t cs a c hc h Sx) (by simp) (by decide) (Nat.le_of_ble_eq_true rfl) rfl rfl (by decide) (by decide) ?_
              intro v11 h12 sh12 q13
              obtain ⟨rfl, ee⟩ := q13
              obtain rfl := ee.symm
              refine ⟨_, fun _ hx => Or.inl hx, ?_⟩
              show oGo l Z a0 EL wd pP eE sS mM _ bB tT cC _ _ _ _ _ _ _ _ [] h 0 0 49 #[.val (.ref x), .val (.int (Int32.ofNat i)), .val (.int (Int32.ofNat j)), .val (.int ln), .val (.int v), .val (.int (Int32.ofNat a)), s6] [.int c]
              refine oGo.istoreS (pc' := 51) (Ls' := #[.val (.ref x), .val (.int (Int32.ofNat i)), .val (.int (Int32.ofNat j)), .val (.int ln), .val (.int v), .val (.int (Int32.ofNat a)), .val (.int c)]) d8_49 rfl hs6 rfl rfl ?_
              refine oGo.iload (pc' := 53) d8_51 rfl rfl ?_
              refine oGo.bipush (pc' := 55) (v := 48) d8_53 rfl (by decide) ?_
              refine oGo.icmp_lt (pc1 := 58) (pc2 := 65) d8_55 rfl (by decide) (fun q1 => ?_) (fun q1 => ?_)
              · refine oGo.iconst (pc' := 66) (v := -1) d8_65 rfl (by decide) ?_
                exact oGo.ireturn d8_66 rfl (by decide) (by decide) ⟨by rw [hd, if_pos q1], rfl⟩ (fun _ q => q.elim)
              · refine oGo.iload (pc' := 60) d8_58 rfl rfl ?_
                refine oGo.bipush (pc' := 62) (v := 57) d8_60 rfl (by decide) ?_
                refine oGo.icmp_le (pc1 := 65) (pc2 := 67) d8_62 rfl (by decide) (fun q2 => ?_) (fun q2 => ?_)
                · refine oGo.iload (pc' := 69) d8_67 rfl rfl ?_
                  refine oGo.bipush (pc' := 71) (v := 10) d8_69 rfl (by decide) ?_
                  refine oGo.imul (pc' := 72) d8_71 rfl ?_
                  refine oGo.iload (pc' := 74) d8_72 rfl rfl ?_
                  refine oGo.bipush (pc' := 76) (v := 48) d8_74 rfl (by decide) ?_
                  refine oGo.isub (pc' := 77) d8_76 rfl ?_
                  refine oGo.iadd (pc' := 78) d8_77 rfl ?_
                  refine oGo.istore (pc' := 80) (Ls' := #[.val (.ref x), .val (.int (Int32.ofNat i)), .val (.int (Int32.ofNat j)), .val (.int ln), .val (.int ((v * (10 : Int32)) + (c - (48 : Int32)))), .val (.int (Int32.ofNat a)), .val (.int c)]) d8_78 rfl rfl ?_
                  refine oGo.iinc (pc' := 83) (y := 1) (Ls' := #[.val (.ref x), .val (.int (Int32.ofNat i)), .val (.int (Int32.ofNat j)), .val (.int ln), .val (.int ((v * (10 : Int32)) + (c - (48 : Int32)))), .val (.int ((Int32.ofNat a) + (1 : Int32))), .val (.int c)]) d8_80 rfl rfl (by decide) rfl ?_
                  refine oGo.goto (pc' := 37) d8_83 (by decide) ?_
                  rw [own_succ]
                  exact ih (a + 1) _ _ (by omega) (by omega) (by rw [hd, if_neg q1, if_neg q2]) (Or.inr ⟨_, rfl, rfl⟩)
                · refine oGo.iconst (pc' := 66) (v := -1) d8_65 rfl (by decide) ?_
                  exact oGo.ireturn d8_66 rfl (by decide) (by decide) ⟨by rw [hd, if_neg q1, if_pos q2], rfl⟩ (fun _ q => q.elim)
          exact loop (j - i) i 0 _ (by omega) (Nat.le_refl _) hD (Or.inl rfl)
        · refine oGo.iconst (pc' := 30) (v := -1) d8_29 rfl (by decide) ?_
          exact oGo.ireturn d8_30 rfl (by decide) (by decide) ⟨by rw [decF, if_neg c1, if_neg c2, if_pos ⟨c3, by rw [hc, q4]⟩], rfl⟩ (fun _ q => q.elim)
set_option maxRecDepth 65536 in
set_option maxHeartbeats 4000000 in
theorem c_law {l : Launch} {Z : State} {a0 : Array Value} {EL : List (String × Nat)} {wd : Prop} (hG : oG a0 Z EL) (i0 i1 i2 i3 i4 i5 : Int32) (h : Heap)  :
    oCtr tables_1 l Z a0 EL wd (⟨"com/example/rulewarden/rulewarden/model/IpAddressDecimalPinLaw", "law", "(IIIIII)Z"⟩ : MethodName) code 15 (some .boolean) room_1 #[.int i0, .int i1, .int i2, .int i3, .int i4, .int i5] [] h (fun v h' => v = some (.int 1)) oNo := by
  refine oCtr.enter (Ls := #[.val (.int i0), .val (.int i1), .val (.int i2), .val (.int i3), .val (.int i4), .val (.int i5), .unset, .unset, .unset, .unset, .unset, .unset, .unset, .unset, .unset]) (plainFor_of_name pn0) hG.2.1 (fun m => by first | (simp [entryFrame, mkF, argsToLocals, Value.category]; done) | rfl) ?_
  intro pP eE sS mM bB tT cC
  refine oGo.iconst (pc' := 1) (v := 5) at_0 rfl (by decide) ?_
  refine oGo.newarray (pc' := 3) (k' := 1) (n' := 5) (i := 5) at_1 rfl (w0 hG) rfl 5 (by decide) (by decide) rfl rfl (by decide) (by decide) (by decide) ?_
  intro h1 a2 qa2 la2 E3 A4'
  have A4 : oArr Z h1 a2 .char (List.replicate (5) (.int 0)) := A4'
  refine oGo.astore (pc' := 5) (Ls' := #[.val (.int i0), .val (.int i1), .val (.int i2), .val (.int i3), .val (.int i4), .val (.int i5), .val (.ref a2), .unset, .unset, .unset, .unset, .unset, .unset, .unset, .unset]) at_3 rfl rfl rfl ?_
  refine oGo.aload (pc' := 7) at_5 rfl rfl rfl ?_
  refine oGo.iconst (pc' := 8) (v := 0) at_7 rfl (by decide) ?_
  refine oGo.iload_n (pc' := 9) at_8 rfl rfl ?_
  refine oGo.invokestatic (pc' := 12) (k' := 1) (n' := 5) (argsL := [.int i0]) (rest := [.int (0 : Int32), .ref a2]) at_9 rfl (w1 hG) (w2 hG) (w3 hG) (w4 hG) (by decide) pd13 rfl rfl rfl (c_ch hG i0 _) (by simp) (by decide) (Nat.le_of_ble_eq_true rfl) rfl rfl (by decide) (by decide) ?_
  intro v5 h6 sh6 q7
  obtain ⟨rfl, ee⟩ := q7
  obtain rfl := ee.symm
  refine ⟨_, fun _ hx => Or.inl hx, ?_⟩
  show oGo l Z a0 EL wd pP eE sS mM _ bB tT cC _ _ _ _ _ _ _ _ [a2] h1 1 5 12 #[.val (.int i0), .val (.int i1), .val (.int i2), .val (.int i3), .val (.int i4), .val (.int i5), .val (.ref a2), .unset, .unset, .unset, .unset, .unset, .unset, .unset, .unset] [.int (chF i0), .int (0 : Int32), .ref a2]
  refine oGo.castore (pc' := 13) (i := 0) (w := chF i0) at_12 rfl A4 rfl (by simp) (chF_nar i0) (by simp) ?_
  intro h8 W9 sh8 A10
  refine oGo.aload (pc' := 15) at_13 rfl rfl rfl ?_
  refine oGo.iconst (pc' := 16) (v := 1) at_15 rfl (by decide) ?_
  refine oGo.iload_n (pc' := 17) at_16 rfl rfl ?_
  refine oGo.invokestatic (pc' := 20) (k' := 1) (n' := 5) (argsL := [.int i1]) (rest := [.int (1 : Int32), .ref a2]) at_17 rfl (w1 hG) (w2 hG) (w3 hG) (w4 hG) (by decide) pd13 rfl rfl rfl (c_ch hG i1 _) (by simp) (by decide) (Nat.le_of_ble_eq_true rfl) rfl rfl (by decide) (by decide) ?_
  intro v11 h12 sh12 q13
  obtain ⟨rfl, ee⟩ := q13
  obtain rfl := ee.symm
  refine ⟨_, fun _ hx => Or.inl hx, ?_⟩
  show oGo l Z a0 EL wd pP eE sS mM _ bB tT cC _ _ _ _ _ _ _ _ [a2] h8 1 5 20 #[.val (.int i0), .val (.int i1), .val (.int i2), .val (.int i3), .val (.int i4), .val (.int i5), .val (.ref a2), .unset, .unset, .unset, .unset, .unset, .unset, .unset, .unset] [.int (chF i1), .int (1 : Int32), .ref a2]
  refine oGo.castore (pc' := 21) (i := 1) (w := chF i1) at_20 rfl A10 rfl (by simp) (chF_nar i1) (by simp) ?_
  intro h14 W15 sh14 A16
  refine oGo.aload (pc' := 23) at_21 rfl rfl rfl ?_
  refine oGo.iconst (pc' := 24) (v := 2) at_23 rfl (by decide) ?_
  refine oGo.iload_n (pc' := 25) at_24 rfl rfl ?_
  refine oGo.invokestatic (pc' := 28) (k' := 1) (n' := 5) (argsL := [.int i2]) (rest := [.int (2 : Int32), .ref a2]) at_25 rfl (w1 hG) (w2 hG) (w3 hG) (w4 hG) (by decide) pd13 rfl rfl rfl (c_ch hG i2 _) (by simp) (by decide) (Nat.le_of_ble_eq_true rfl) rfl rfl (by decide) (by decide) ?_
  intro v17 h18 sh18 q19
  obtain ⟨rfl, ee⟩ := q19
  obtain rfl := ee.symm
  refine ⟨_, fun _ hx => Or.inl hx, ?_⟩
  show oGo l Z a0 EL wd pP eE sS mM _ bB tT cC _ _ _ _ _ _ _ _ [a2] h14 1 5 28 #[.val (.int i0), .val (.int i1), .val (.int i2), .val (.int i3), .val (.int i4), .val (.int i5), .val (.ref a2), .unset, .unset, .unset, .unset, .unset, .unset, .unset, .unset] [.int (chF i2), .int (2 : Int32), .ref a2]
  refine oGo.castore (pc' := 29) (i := 2) (w := chF i2) at_28 rfl A16 rfl (by simp) (chF_nar i2) (by simp) ?_
  intro h20 W21 sh20 A22
  refine oGo.aload (pc' := 31) at_29 rfl rfl rfl ?_
  refine oGo.iconst (pc' := 32) (v := 3) at_31 rfl (by decide) ?_
  refine oGo.iload_n (pc' := 33) at_32 rfl rfl ?_
  refine oGo.invokestatic (pc' := 36) (k' := 1) (n' := 5) (argsL := [.int i3]) (rest := [.int (3 : Int32), .ref a2]) at_33 rfl (w1 hG) (w2 hG) (w3 hG) (w4 hG) (by decide) pd13 rfl rfl rfl (c_ch hG i3 _) (by simp) (by decide) (Nat.le_of_ble_eq_true rfl) rfl rfl (by decide) (by decide) ?_
  intro v23 h24 sh24 q25
  obtain ⟨rfl, ee⟩ := q25
  obtain rfl := ee.symm
  refine ⟨_, fun _ hx => Or.inl hx, ?_⟩
  show oGo l Z a0 EL wd pP eE sS mM _ bB tT cC _ _ _ _ _ _ _ _ [a2] h20 1 5 36 #[.val (.int i0), .val (.int i1), .val (.int i2), .val (.int i3), .val (.int i4), .val (.int i5), .val (.ref a2), .unset, .unset, .unset, .unset, .unset, .unset, .unset, .unset] [.int (chF i3), .int (3 : Int32), .ref a2]
  refine oGo.castore (pc' := 37) (i := 3) (w := chF i3) at_36 rfl A22 rfl (by simp) (chF_nar i3) (by simp) ?_
  intro h26 W27 sh26 A28
  refine oGo.aload (pc' := 39) at_37 rfl rfl rfl ?_
  refine oGo.iconst (pc' := 40) (v := 4) at_39 rfl (by decide) ?_
  refine oGo.iload (pc' := 42) at_40 rfl rfl ?_
  refine oGo.invokestatic (pc' := 45) (k' := 1) (n' := 5) (argsL := [.int i4]) (rest := [.int (4 : Int32), .ref a2]) at_42 rfl (w1 hG) (w2 hG) (w3 hG) (w4 hG) (by decide) pd13 rfl rfl rfl (c_ch hG i4 _) (by simp) (by decide) (Nat.le_of_ble_eq_true rfl) rfl rfl (by decide) (by decide) ?_
  intro v29 h30 sh30 q31
  obtain ⟨rfl, ee⟩ := q31
  obtain rfl := ee.symm
  refine ⟨_, fun _ hx => Or.inl hx, ?_⟩
  show oGo l Z a0 EL wd pP eE sS mM _ bB tT cC _ _ _ _ _ _ _ _ [a2] h26 1 5 45 #[.val (.int i0), .val (.int i1), .val (.int i2), .val (.int i3), .val (.int i4), .val (.int i5), .val (.ref a2), .unset, .unset, .unset, .unset, .unset, .unset, .unset, .unset] [.int (chF i4), .int (4 : Int32), .ref a2]
  refine oGo.castore (pc' := 46) (i := 4) (w := chF i4) at_45 rfl A28 rfl (by simp) (chF_nar i4) (by simp) ?_
  intro h32 W33 sh32 A34
  obtain ⟨cs, hcs⟩ : ∃ cs, cs = [chF i0, chF i1, chF i2, chF i3, chF i4] := ⟨_, rfl⟩
  have hcl : cs.length = 5 := by rw [hcs]; rfl
  have hch : ∀ c ∈ cs, ¬ c < 0 ∧ ¬ 65535 < c := by
    rw [hcs]; intro c hc; simp only [List.mem_cons, List.not_mem_nil, or_false] at hc
    rcases hc with rfl | rfl | rfl | rfl | rfl <;> exact chF_rng _
  have A : oArr Z h32 a2 .char (oI cs) := by rw [hcs]; exact A34
  refine oGo.new (pc' := 49) (k' := 2) (n' := 9) at_46 rfl (w6 hG) (w7 hG) (w8 hG) rfl rfl (by decide) (by decide) ?_
  intro h35 a36 qa36 la36 E37 X38 F39
  have f40 := F39 (Or.inr (w32 hG)) (ty := .byte) (by decide)
  have f41 := F39 (Or.inr (w34 hG)) (ty := (.array .byte)) (by decide)
  refine oGo.dup (pc' := 50) at_49 rfl rfl ?_
  refine oGo.aload (pc' := 52) at_50 rfl rfl rfl ?_
  have f42 := oArr.ext E37 A
  refine oGo.invokespecial (pc' := 55) (k' := 4) (n' := 24) (a := a36) (argsL := [.ref a2]) (rest := [.ref a36]) at_52 rfl rfl (w9 hG) (w10 hG) (w8 hG) (w11 hG) (by decide) pd14 rfl rfl rfl (c_strI1 hG a36 a2 cs (by omega) (by omega) hch _ _ _ f42 X38 f41 f40) (by simp) (by decide) (Nat.le_of_ble_eq_true rfl) rfl rfl (by decide) (by decide) ?_
  intro v43 h44 sh44 q45
  obtain ⟨rfl, K9, t, ht, Sx⟩ := q45
  refine ⟨_, fun _ hx => Or.inl hx, ?_⟩
  show oGo l Z a0 EL wd pP eE sS mM _ bB tT cC _ _ _ _ _ _ _ _ [a36, a2] h44 4 24 55 #[.val (.int i0), .val (.int i1), .val (.int i2), .val (.int i3), .val (.int i4), .val (.int i5), .val (.ref a2), .unset, .unset, .unset, .unset, .unset, .unset, .unset, .unset] [.ref a36]
  have A9 := f42.keep K9 (own_nin1 (by omega))
  refine oGo.astore (pc' := 57) (Ls' := #[.val (.int i0), .val (.int i1), .val (.int i2), .val (.int i3), .val (.int i4), .val (.int i5), .val (.ref a2), .val (.ref a36), .unset, .unset, .unset, .unset, .unset, .unset, .unset]) at_55 rfl rfl rfl ?_
  refine oGo.iload (pc' := 59) at_57 rfl rfl ?_
  refine oGo.bipush (pc' := 61) (v := 7) at_59 rfl (by decide) ?_
  refine oGo.iand (pc' := 62) at_61 rfl ?_
  refine oGo.bipush (pc' := 64) (v := 6) at_62 rfl (by decide) ?_
  refine oGo.irem (pc' := 65) at_64 rfl (by decide) ?_
  obtain ⟨i, hi, ei⟩ := rng6 i5
  rw [ei]
  refine oGo.istore (pc' := 67) (Ls' := #[.val (.int i0), .val (.int i1), .val (.int i2), .val (.int i3), .val (.int i4), .val (.int i5), .val (.ref a2), .val (.ref a36), .val (.int (Int32.ofNat i)), .unset, .unset, .unset, .unset, .unset, .unset]) at_65 rfl rfl ?_
  refine oGo.iload (pc' := 69) at_67 rfl rfl ?_
  refine oGo.iconst (pc' := 70) (v := 3) at_69 rfl (by decide) ?_
  refine oGo.iushr (pc' := 71) at_70 rfl ?_
  refine oGo.bipush (pc' := 73) (v := 7) at_71 rfl (by decide) ?_
  refine oGo.iand (pc' := 74) at_73 rfl ?_
  refine oGo.bipush (pc' := 76) (v := 6) at_74 rfl (by decide) ?_
  refine oGo.irem (pc' := 77) at_76 rfl (by decide) ?_
  obtain ⟨j, hj, ej⟩ := rng6 (XT.ushr i5 3)
  rw [ej]
  refine oGo.istore (pc' := 79) (Ls' := #[.val (.int i0), .val (.int i1), .val (.int i2), .val (.int i3), .val (.int i4), .val (.int i5), .val (.ref a2), .val (.ref a36), .val (.int (Int32.ofNat i)), .val (.int (Int32.ofNat j)), .unset, .unset, .unset, .unset, .unset]) at_77 rfl rfl ?_
  refine oGo.iload (pc' := 81) at_79 rfl rfl ?_
  refine oGo.iload (pc' := 83) at_81 rfl rfl ?_
  refine oGo.isub (pc' := 84) at_83 rfl ?_
  have hln : (Int32.ofNat j - Int32.ofNat i).toInt = (j : Int) - i := own_subI (by omega) (by omega)
  generalize hL : Int32.ofNat j - Int32.ofNat i = ln at hln ⊢
  have e1 : (1 : Int32).toInt = 1 := rfl
  have e2 : (2 : Int32).toInt = 2 := rfl
  have e3 : (3 : Int32).toInt = 3 := rfl
  refine oGo.istore (pc' := 86) (Ls' := #[.val (.int i0), .val (.int i1), .val (.int i2), .val (.int i3), .val (.int i4), .val (.int i5), .val (.ref a2), .val (.ref a36), .val (.int (Int32.ofNat i)), .val (.int (Int32.ofNat j)), .val (.int ln), .unset, .unset, .unset, .unset]) at_84 rfl rfl ?_
  refine oGo.iload (pc' := 88) at_86 rfl rfl ?_
  refine oGo.iconst (pc' := 89) (v := 1) at_88 rfl (by decide) ?_
  refine oGo.icmp_lt (pc1 := 92) (pc2 := 98) at_89 rfl (by decide) (fun q1 => ?_) (fun q1 => ?_)
  · refine oGo.iconst (pc' := 99) (v := -1) at_98 rfl (by decide) ?_
    refine oGo.istore (pc' := 101) (Ls' := #[.val (.int i0), .val (.int i1), .val (.int i2), .val (.int i3), .val (.int i4), .val (.int i5), .val (.ref a2), .val (.ref a36), .val (.int (Int32.ofNat i)), .val (.int (Int32.ofNat j)), .val (.int ln), .val (.int (-1 : Int32)), .unset, .unset, .unset]) at_99 rfl rfl ?_
    refine oGo.goto (pc' := 249) at_101 (by decide) ?_
    refine oGo.aload (pc' := 251) at_249 rfl rfl rfl ?_
    refine oGo.iload (pc' := 253) at_251 rfl rfl ?_
    refine oGo.iload (pc' := 255) at_253 rfl rfl ?_
    refine oGo.invokestatic (pc' := 258) (k' := 4) (n' := 24) (argsL := [.ref a36, .int (Int32.ofNat i), .int (Int32.ofNat j)]) (rest := []) at_255 rfl (w35 hG) (w36 hG) (w37 hG) (w38 hG) (by decide) pd15 rfl rfl rfl (c_decimal hG a36 t cs i j (by omega) (by omega) hcl _ Sx) (by simp) (by decide) (Nat.le_of_ble_eq_true rfl) rfl rfl (by decide) (by decide) ?_
    intro v46 h47 sh47 q48
    obtain ⟨rfl, ee⟩ := q48
    obtain rfl := ee.symm
    refine ⟨_, fun _ hx => Or.inl hx, ?_⟩
    show oGo l Z a0 EL wd pP eE sS mM _ bB tT cC _ _ _ _ _ _ _ _ [a36, a2] h44 4 24 258 #[.val (.int i0), .val (.int i1), .val (.int i2), .val (.int i3), .val (.int i4), .val (.int i5), .val (.ref a2), .val (.ref a36), .val (.int (Int32.ofNat i)), .val (.int (Int32.ofNat j)), .val (.int ln), .val (.int (-1 : Int32)), .unset, .unset, .unset] [.int (decF cs i j)]
    refine oGo.istore (pc' := 260) (Ls' := #[.val (.int i0), .val (.int i1), .val (.int i2), .val (.int i3), .val (.int i4), .val (.int i5), .val (.ref a2), .val (.ref a36), .val (.int (Int32.ofNat i)), .val (.int (Int32.ofNat j)), .val (.int ln), .val (.int (-1 : Int32)), .val (.int (decF cs i j)), .unset, .unset]) at_258 rfl rfl ?_
    refine oGo.iload (pc' := 262) at_260 rfl rfl ?_
    refine oGo.iload (pc' := 264) at_262 rfl rfl ?_
    refine oGo.icmp_ne (pc1 := 267) (pc2 := 271) at_264 rfl (by decide) (fun q => absurd (by rw [decF, if_pos (by rw [Int32.lt_iff_toInt_lt] at q1; omega)]) q) (fun q49 => ?_)
    refine oGo.iconst (pc' := 268) (v := 1) at_267 rfl (by decide) ?_
    refine oGo.goto (pc' := 272) at_268 (by decide) ?_
    exact oGo.nreturn at_272 rfl (by simp) rfl (by decide) (by decide) rfl (fun _ q => q.elim)
  · have c1 : ¬ j < i + 1 := by rw [Int32.lt_iff_toInt_lt] at q1; omega
    refine oGo.iload (pc' := 94) at_92 rfl rfl ?_
    refine oGo.iconst (pc' := 95) (v := 3) at_94 rfl (by decide) ?_
    refine oGo.icmp_le (pc1 := 98) (pc2 := 104) at_95 rfl (by decide) (fun q2 => ?_) (fun q2 => ?_)
    · have c2 : ¬ i + 3 < j := by rw [Int32.lt_iff_toInt_lt] at q2; omega
      refine oGo.iload (pc' := 106) at_104 rfl rfl ?_
      refine oGo.iconst (pc' := 107) (v := 1) at_106 rfl (by decide) ?_
      refine oGo.icmp_le (pc1 := 110) (pc2 := 126) at_107 rfl (by decide) (fun q3 => ?_) (fun q3 => ?_)
      · have c3 : ¬ i + 1 < j := by rw [Int32.lt_iff_toInt_lt] at q3; omega
        obtain rfl : j = i + 1 := by omega
        have hD : decF cs i (i + 1) = decL ((cs.drop i).take (i + 1 - i)) 0 := by rw [decF, if_neg c1, if_neg c2, if_neg (by omega)]
        have hl : ln = 1 := Int32.toInt_inj.mp (by rw [hln]; show _ = (1 : Int); omega)
        subst hl
        refine oGo.aload (pc' := 128) at_126 rfl rfl rfl ?_
        refine oGo.iload (pc' := 130) at_128 rfl rfl ?_
        obtain ⟨d0, hd0⟩ : ∃ c, cs[i]? = some c := ⟨_, List.getElem?_eq_getElem (by omega)⟩
        refine oGo.caload (pc' := 131) (i := i) at_130 rfl A9 rfl (by rw [List.getElem?_map, hd0]; rfl) ?_
        refine oGo.invokestatic (pc' := 134) (k' := 4) (n' := 24) (argsL := [.int d0]) (rest := []) at_131 rfl (w58 hG) (w59 hG) (w3 hG) (w60 hG) (by decide) pd16 rfl rfl rfl (c_dig hG d0 _) (by simp) (by decide) (Nat.le_of_ble_eq_true rfl) rfl rfl (by decide) (by decide) ?_
        intro v50 h51 sh51 q52
        obtain ⟨rfl, ee⟩ := q52
        obtain rfl := ee.symm
        refine ⟨_, fun _ hx => Or.inl hx, ?_⟩
        show oGo l Z a0 EL wd pP eE sS mM _ bB tT cC _ _ _ _ _ _ _ _ [a36, a2] h44 4 24 134 #[.val (.int i0), .val (.int i1), .val (.int i2), .val (.int i3), .val (.int i4), .val (.int i5), .val (.ref a2), .val (.ref a36), .val (.int (Int32.ofNat i)), .val (.int (Int32.ofNat (i + 1))), .val (.int (1 : Int32)), .unset, .unset, .unset, .unset] [.int (digF d0)]
        refine oGo.istore (pc' := 136) (Ls' := #[.val (.int i0), .val (.int i1), .val (.int i2), .val (.int i3), .val (.int i4), .val (.int i5), .val (.ref a2), .val (.ref a36), .val (.int (Int32.ofNat i)), .val (.int (Int32.ofNat (i + 1))), .val (.int (1 : Int32)), .unset, .val (.int (digF d0)), .unset, .unset]) at_134 rfl rfl ?_
        refine oGo.iload (pc' := 138) at_136 rfl rfl ?_
        refine oGo.iconst (pc' := 139) (v := 1) at_138 rfl (by decide) ?_
        refine oGo.icmp_le (pc1 := 142) (pc2 := 155) at_139 rfl (by decide) (fun q53 => ?_) (fun q => by first | exact absurd q (by decide) | exact absurd (by decide) q)
        refine oGo.iconst (pc' := 156) (v := 0) at_155 rfl (by decide) ?_
        refine oGo.istore (pc' := 158) (Ls' := #[.val (.int i0), .val (.int i1), .val (.int i2), .val (.int i3), .val (.int i4), .val (.int i5), .val (.ref a2), .val (.ref a36), .val (.int (Int32.ofNat i)), .val (.int (Int32.ofNat (i + 1))), .val (.int (1 : Int32)), .unset, .val (.int (digF d0)), .val (.int (0 : Int32)), .unset]) at_156 rfl rfl ?_
        refine oGo.iload (pc' := 160) at_158 rfl rfl ?_
        refine oGo.iconst (pc' := 161) (v := 2) at_160 rfl (by decide) ?_
        refine oGo.icmp_le (pc1 := 164) (pc2 := 177) at_161 rfl (by decide) (fun q54 => ?_) (fun q => by first | exact absurd q (by decide) | exact absurd (by decide) q)
        refine oGo.iconst (pc' := 178) (v := 0) at_177 rfl (by decide) ?_
        refine oGo.istore (pc' := 180) (Ls' := #[.val (.int i0), .val (.int i1), .val (.int i2), .val (.int i3), .val (.int i4), .val (.int i5), .val (.ref a2), .val (.ref a36), .val (.int (Int32.ofNat i)), .val (.int (Int32.ofNat (i + 1))), .val (.int (1 : Int32)), .unset, .val (.int (digF d0)), .val (.int (0 : Int32)), .val (.int (0 : Int32))]) at_178 rfl rfl ?_
        refine oGo.iload (pc' := 182) at_180 rfl rfl ?_
        have hv : decF cs i (i + 1) = decL [d0] 0 := by rw [hD]; exact congrArg (decL · 0) (own_take1 cs i d0 hd0)
        refine oGo.if_lt (pc1 := 185) (pc2 := 195) at_182 rfl (by decide) (fun p0 => ?_) (fun p0 => ?_)
        · refine oGo.iconst (pc' := 196) (v := -1) at_195 rfl (by decide) ?_
          refine oGo.istore (pc' := 198) (Ls' := #[.val (.int i0), .val (.int i1), .val (.int i2), .val (.int i3), .val (.int i4), .val (.int i5), .val (.ref a2), .val (.ref a36), .val (.int (Int32.ofNat i)), .val (.int (Int32.ofNat (i + 1))), .val (.int (1 : Int32)), .val (.int (-1 : Int32)), .val (.int (digF d0)), .val (.int (0 : Int32)), .val (.int (0 : Int32))]) at_196 rfl rfl ?_
          refine oGo.goto (pc' := 249) at_198 (by decide) ?_
          refine oGo.aload (pc' := 251) at_249 rfl rfl rfl ?_
          refine oGo.iload (pc' := 253) at_251 rfl rfl ?_
          refine oGo.iload (pc' := 255) at_253 rfl rfl ?_
          refine oGo.invokestatic (pc' := 258) (k' := 4) (n' := 24) (argsL := [.ref a36, .int (Int32.ofNat i), .int (Int32.ofNat (i + 1))]) (rest := []) at_255 rfl (w35 hG) (w36 hG) (w37 hG) (w38 hG) (by decide) pd15 rfl rfl rfl (c_decimal hG a36 t cs i (i + 1) (by omega) (by omega) hcl _ Sx) (by simp) (by decide) (Nat.le_of_ble_eq_true rfl) rfl rfl (by decide) (by decide) ?_
          intro v55 h56 sh56 q57
          obtain ⟨rfl, ee⟩ := q57
          obtain rfl := ee.symm
          refine ⟨_, fun _ hx => Or.inl hx, ?_⟩
          show oGo l Z a0 EL wd pP eE sS mM _ bB tT cC _ _ _ _ _ _ _ _ [a36, a2] h44 4 24 258 #[.val (.int i0), .val (.int i1), .val (.int i2), .val (.int i3), .val (.int i4), .val (.int i5), .val (.ref a2), .val (.ref a36), .val (.int (Int32.ofNat i)), .val (.int (Int32.ofNat (i + 1))), .val (.int (1 : Int32)), .val (.int (-1 : Int32)), .val (.int (digF d0)), .val (.int (0 : Int32)), .val (.int (0 : Int32))] [.int (decF cs i (i + 1))]
          refine oGo.istore (pc' := 260) (Ls' := #[.val (.int i0), .val (.int i1), .val (.int i2), .val (.int i3), .val (.int i4), .val (.int i5), .val (.ref a2), .val (.ref a36), .val (.int (Int32.ofNat i)), .val (.int (Int32.ofNat (i + 1))), .val (.int (1 : Int32)), .val (.int (-1 : Int32)), .val (.int (decF cs i (i + 1))), .val (.int (0 : Int32)), .val (.int (0 : Int32))]) at_258 rfl rfl ?_
          refine oGo.iload (pc' := 262) at_260 rfl rfl ?_
          refine oGo.iload (pc' := 264) at_262 rfl rfl ?_
          refine oGo.icmp_ne (pc1 := 267) (pc2 := 271) at_264 rfl (by decide) (fun q => absurd (by rw [hv]; exact dec_neg1_0 p0) q) (fun q58 => ?_)
          refine oGo.iconst (pc' := 268) (v := 1) at_267 rfl (by decide) ?_
          refine oGo.goto (pc' := 272) at_268 (by decide) ?_
          exact oGo.nreturn at_272 rfl (by simp) rfl (by decide) (by decide) rfl (fun _ q => q.elim)
        · refine oGo.iload (pc' := 187) at_185 rfl rfl ?_
          refine oGo.if_lt (pc1 := 190) (pc2 := 195) at_187 rfl (by decide) (fun q => by first | exact absurd q (by decide) | exact absurd (by decide) q) (fun q59 => ?_)
          refine oGo.iload (pc' := 192) at_190 rfl rfl ?_
          refine oGo.if_ge (pc1 := 195) (pc2 := 201) at_192 rfl (by decide) (fun q60 => ?_) (fun q => by first | exact absurd q (by decide) | exact absurd (by decide) q)
          refine oGo.iload (pc' := 203) at_201 rfl rfl ?_
          refine oGo.iconst (pc' := 204) (v := 1) at_203 rfl (by decide) ?_
          refine oGo.icmp_ne (pc1 := 207) (pc2 := 214) at_204 rfl (by decide) (fun q => absurd rfl q) (fun q61 => ?_)
          refine oGo.iload (pc' := 209) at_207 rfl rfl ?_
          refine oGo.istore (pc' := 211) (Ls' := #[.val (.int i0), .val (.int i1), .val (.int i2), .val (.int i3), .val (.int i4), .val (.int i5), .val (.ref a2), .val (.ref a36), .val (.int (Int32.ofNat i)), .val (.int (Int32.ofNat (i + 1))), .val (.int (1 : Int32)), .val (.int (digF d0)), .val (.int (digF d0)), .val (.int (0 : Int32)), .val (.int (0 : Int32))]) at_209 rfl rfl ?_
          refine oGo.goto (pc' := 249) at_211 (by decide) ?_
          refine oGo.aload (pc' := 251) at_249 rfl rfl rfl ?_
          refine oGo.iload (pc' := 253) at_251 rfl rfl ?_
          refine oGo.iload (pc' := 255) at_253 rfl rfl ?_
          refine oGo.invokestatic (pc' := 258) (k' := 4) (n' := 24) (argsL := [.ref a36, .int (Int32.ofNat i), .int (Int32.ofNat (i + 1))]) (rest := []) at_255 rfl (w35 hG) (w36 hG) (w37 hG) (w38 hG) (by decide) pd15 rfl rfl rfl (c_decimal hG a36 t cs i (i + 1) (by omega) (by omega) hcl _ Sx) (by simp) (by decide) (Nat.le_of_ble_eq_true rfl) rfl rfl (by decide) (by decide) ?_
          intro v62 h63 sh63 q64
          obtain ⟨rfl, ee⟩ := q64
          obtain rfl := ee.symm
          refine ⟨_, fun _ hx => Or.inl hx, ?_⟩
          show oGo l Z a0 EL wd pP eE sS mM _ bB tT cC _ _ _ _ _ _ _ _ [a36, a2] h44 4 24 258 #[.val (.int i0), .val (.int i1), .val (.int i2), .val (.int i3), .val (.int i4), .val (.int i5), .val (.ref a2), .val (.ref a36), .val (.int (Int32.ofNat i)), .val (.int (Int32.ofNat (i + 1))), .val (.int (1 : Int32)), .val (.int (digF d0)), .val (.int (digF d0)), .val (.int (0 : Int32)), .val (.int (0 : Int32))] [.int (decF cs i (i + 1))]
          refine oGo.istore (pc' := 260) (Ls' := #[.val (.int i0), .val (.int i1), .val (.int i2), .val (.int i3), .val (.int i4), .val (.int i5), .val (.ref a2), .val (.ref a36), .val (.int (Int32.ofNat i)), .val (.int (Int32.ofNat (i + 1))), .val (.int (1 : Int32)), .val (.int (digF d0)), .val (.int (decF cs i (i + 1))), .val (.int (0 : Int32)), .val (.int (0 : Int32))]) at_258 rfl rfl ?_
          refine oGo.iload (pc' := 262) at_260 rfl rfl ?_
          refine oGo.iload (pc' := 264) at_262 rfl rfl ?_
          refine oGo.icmp_ne (pc1 := 267) (pc2 := 271) at_264 rfl (by decide) (fun q => absurd (by rw [hv]; exact dec_pos1 p0) q) (fun q65 => ?_)
          refine oGo.iconst (pc' := 268) (v := 1) at_267 rfl (by decide) ?_
          refine oGo.goto (pc' := 272) at_268 (by decide) ?_
          exact oGo.nreturn at_272 rfl (by simp) rfl (by decide) (by decide) rfl (fun _ q => q.elim)
      · have c3 : i + 1 < j := by rw [Int32.lt_iff_toInt_lt] at q3; omega
        refine oGo.aload (pc' := 112) at_110 rfl rfl rfl ?_
        refine oGo.iload (pc' := 114) at_112 rfl rfl ?_
        obtain ⟨c0, hc0⟩ : ∃ c, cs[i]? = some c := ⟨_, List.getElem?_eq_getElem (by omega)⟩
        refine oGo.caload (pc' := 115) (i := i) at_114 rfl A9 rfl (by rw [List.getElem?_map, hc0]; rfl) ?_
        refine oGo.bipush (pc' := 117) (v := 48) at_115 rfl (by decide) ?_
        refine oGo.icmp_ne (pc1 := 120) (pc2 := 126) at_117 rfl (by decide) (fun q4 => ?_) (fun q4 => ?_)
        · have hD : decF cs i j = decL ((cs.drop i).take (j - i)) 0 := by rw [decF, if_neg c1, if_neg c2, if_neg (by rw [hc0]; rintro ⟨-, q⟩; exact q4 (Option.some.inj q))]
          rcases (show j = i + 2 ∨ j = i + 3 by omega) with rfl | rfl
          · have hl : ln = 2 := Int32.toInt_inj.mp (by rw [hln]; show _ = (2 : Int); omega)
            subst hl
            refine oGo.aload (pc' := 128) at_126 rfl rfl rfl ?_
            refine oGo.iload (pc' := 130) at_128 rfl rfl ?_
            obtain ⟨d0, hd0⟩ : ∃ c, cs[i]? = some c := ⟨_, List.getElem?_eq_getElem (by omega)⟩
            refine oGo.caload (pc' := 131) (i := i) at_130 rfl A9 rfl (by rw [List.getElem?_map, hd0]; rfl) ?_
            refine oGo.invokestatic (pc' := 134) (k' := 4) (n' := 24) (argsL := [.int d0]) (rest := []) at_131 rfl (w58 hG) (w59 hG) (w3 hG) (w60 hG) (by decide) pd16 rfl rfl rfl (c_dig hG d0 _) (by simp) (by decide) (Nat.le_of_ble_eq_true rfl) rfl rfl (by decide) (by decide) ?_
            intro v66 h67 sh67 q68
            obtain ⟨rfl, ee⟩ := q68
            obtain rfl := ee.symm
            refine ⟨_, fun _ hx => Or.inl hx, ?_⟩
            show oGo l Z a0 EL wd pP eE sS mM _ bB tT cC _ _ _ _ _ _ _ _ [a36, a2] h44 4 24 134 #[.val (.int i0), .val (.int i1), .val (.int i2), .val (.int i3), .val (.int i4), .val (.int i5), .val (.ref a2), .val (.ref a36), .val (.int (Int32.ofNat i)), .val (.int (Int32.ofNat (i + 2))), .val (.int (2 : Int32)), .unset, .unset, .unset, .unset] [.int (digF d0)]
            refine oGo.istore (pc' := 136) (Ls' := #[.val (.int i0), .val (.int i1), .val (.int i2), .val (.int i3), .val (.int i4), .val (.int i5), .val (.ref a2), .val (.ref a36), .val (.int (Int32.ofNat i)), .val (.int (Int32.ofNat (i + 2))), .val (.int (2 : Int32)), .unset, .val (.int (digF d0)), .unset, .unset]) at_134 rfl rfl ?_
            refine oGo.iload (pc' := 138) at_136 rfl rfl ?_
            refine oGo.iconst (pc' := 139) (v := 1) at_138 rfl (by decide) ?_
            refine oGo.icmp_le (pc1 := 142) (pc2 := 155) at_139 rfl (by decide) (fun q => by first | exact absurd q (by decide) | exact absurd (by decide) q) (fun q69 => ?_)
            refine oGo.aload (pc' := 144) at_142 rfl rfl rfl ?_
            refine oGo.iload (pc' := 146) at_144 rfl rfl ?_
            refine oGo.iconst (pc' := 147) (v := 1) at_146 rfl (by decide) ?_
            refine oGo.iadd (pc' := 148) at_147 rfl ?_
            obtain ⟨d1, hd1⟩ : ∃ c, cs[(i + 1)]? = some c := ⟨_, List.getElem?_eq_getElem (by omega)⟩
            refine oGo.caload (pc' := 149) (i := (i + 1)) at_148 rfl A9 (own_succ i) (by rw [List.getElem?_map, hd1]; rfl) ?_
            refine oGo.invokestatic (pc' := 152) (k' := 4) (n' := 24) (argsL := [.int d1]) (rest := []) at_149 rfl (w58 hG) (w59 hG) (w3 hG) (w60 hG) (by decide) pd16 rfl rfl rfl (c_dig hG d1 _) (by simp) (by decide) (Nat.le_of_ble_eq_true rfl) rfl rfl (by decide) (by decide) ?_
            intro v70 h71 sh71 q72
            obtain ⟨rfl, ee⟩ := q72
            obtain rfl := ee.symm
            refine ⟨_, fun _ hx => Or.inl hx, ?_⟩
            show oGo l Z a0 EL wd pP eE sS mM _ bB tT cC _ _ _ _ _ _ _ _ [a36, a2] h44 4 24 152 #[.val (.int i0), .val (.int i1), .val (.int i2), .val (.int i3), .val (.int i4), .val (.int i5), .val (.ref a2), .val (.ref a36), .val (.int (Int32.ofNat i)), .val (.int (Int32.ofNat (i + 2))), .val (.int (2 : Int32)), .unset, .val (.int (digF d0)), .unset, .unset] [.int (digF d1)]
            refine oGo.goto (pc' := 156) at_152 (by decide) ?_
            refine oGo.istore (pc' := 158) (Ls' := #[.val (.int i0), .val (.int i1), .val (.int i2), .val (.int i3), .val (.int i4), .val (.int i5), .val (.ref a2), .val (.ref a36), .val (.int (Int32.ofNat i)), .val (.int (Int32.ofNat (i + 2))), .val (.int (2 : Int32)), .unset, .val (.int (digF d0)), .val (.int (digF d1)), .unset]) at_156 rfl rfl ?_
            refine oGo.iload (pc' := 160) at_158 rfl rfl ?_
            refine oGo.iconst (pc' := 161) (v := 2) at_160 rfl (by decide) ?_
            refine oGo.icmp_le (pc1 := 164) (pc2 := 177) at_161 rfl (by decide) (fun q73 => ?_) (fun q => by first | exact absurd q (by decide) | exact absurd (by decide) q)
            refine oGo.iconst (pc' := 178) (v := 0) at_177 rfl (by decide) ?_
            refine oGo.istore (pc' := 180) (Ls' := #[.val (.int i0), .val (.int i1), .val (.int i2), .val (.int i3), .val (.int i4), .val (.int i5), .val (.ref a2), .val (.ref a36), .val (.int (Int32.ofNat i)), .val (.int (Int32.ofNat (i + 2))), .val (.int (2 : Int32)), .unset, .val (.int (digF d0)), .val (.int (digF d1)), .val (.int (0 : Int32))]) at_178 rfl rfl ?_
            refine oGo.iload (pc' := 182) at_180 rfl rfl ?_
            have hv : decF cs i (i + 2) = decL [d0, d1] 0 := by rw [hD]; exact congrArg (decL · 0) (own_take2 cs i d0 d1 hd0 hd1)
            refine oGo.if_lt (pc1 := 185) (pc2 := 195) at_182 rfl (by decide) (fun p0 => ?_) (fun p0 => ?_)
            · refine oGo.iconst (pc' := 196) (v := -1) at_195 rfl (by decide) ?_
              refine oGo.istore (pc' := 198) (Ls' := #[.val (.int i0), .val (.int i1), .val (.int i2), .val (.int i3), .val (.int i4), .val (.int i5), .val (.ref a2), .val (.ref a36), .val (.int (Int32.ofNat i)), .val (.int (Int32.ofNat (i + 2))), .val (.int (2 : Int32)), .val (.int (-1 : Int32)), .val (.int (digF d0)), .val (.int (digF d1)), .val (.int (0 : Int32))]) at_196 rfl rfl ?_
              refine oGo.goto (pc' := 249) at_198 (by decide) ?_
              refine oGo.aload (pc' := 251) at_249 rfl rfl rfl ?_
              refine oGo.iload (pc' := 253) at_251 rfl rfl ?_
              refine oGo.iload (pc' := 255) at_253 rfl rfl ?_
              refine oGo.invokestatic (pc' := 258) (k' := 4) (n' := 24) (argsL := [.ref a36, .int (Int32.ofNat i), .int (Int32.ofNat (i + 2))]) (rest := []) at_255 rfl (w35 hG) (w36 hG) (w37 hG) (w38 hG) (by decide) pd15 rfl rfl rfl (c_decimal hG a36 t cs i (i + 2) (by omega) (by omega) hcl _ Sx) (by simp) (by decide) (Nat.le_of_ble_eq_true rfl) rfl rfl (by decide) (by decide) ?_
              intro v74 h75 sh75 q76
              obtain ⟨rfl, ee⟩ := q76
              obtain rfl := ee.symm
              refine ⟨_, fun _ hx => Or.inl hx, ?_⟩
              show oGo l Z a0 EL wd pP eE sS mM _ bB tT cC _ _ _ _ _ _ _ _ [a36, a2] h44 4 24 258 #[.val (.int i0), .val (.int i1), .val (.int i2), .val (.int i3), .val (.int i4), .val (.int i5), .val (.ref a2), .val (.ref a36), .val (.int (Int32.ofNat i)), .val (.int (Int32.ofNat (i + 2))), .val (.int (2 : Int32)), .val (.int (-1 : Int32)), .val (.int (digF d0)), .val (.int (digF d1)), .val (.int (0 : Int32))] [.int (decF cs i (i + 2))]
              refine oGo.istore (pc' := 260) (Ls' := #[.val (.int i0), .val (.int i1), .val (.int i2), .val (.int i3), .val (.int i4), .val (.int i5), .val (.ref a2), .val (.ref a36), .val (.int (Int32.ofNat i)), .val (.int (Int32.ofNat (i + 2))), .val (.int (2 : Int32)), .val (.int (-1 : Int32)), .val (.int (decF cs i (i + 2))), .val (.int (digF d1)), .val (.int (0 : Int32))]) at_258 rfl rfl ?_
              refine oGo.iload (pc' := 262) at_260 rfl rfl ?_
              refine oGo.iload (pc' := 264) at_262 rfl rfl ?_
              refine oGo.icmp_ne (pc1 := 267) (pc2 := 271) at_264 rfl (by decide) (fun q => absurd (by rw [hv]; exact dec_neg2_0 p0) q) (fun q77 => ?_)
              refine oGo.iconst (pc' := 268) (v := 1) at_267 rfl (by decide) ?_
              refine oGo.goto (pc' := 272) at_268 (by decide) ?_
              exact oGo.nreturn at_272 rfl (by simp) rfl (by decide) (by decide) rfl (fun _ q => q.elim)
            · refine oGo.iload (pc' := 187) at_185 rfl rfl ?_
              refine oGo.if_lt (pc1 := 190) (pc2 := 195) at_187 rfl (by decide) (fun p1 => ?_) (fun p1 => ?_)
              · refine oGo.iconst (pc' := 196) (v := -1) at_195 rfl (by decide) ?_
                refine oGo.istore (pc' := 198) (Ls' := #[.val (.int i0), .val (.int i1), .val (.int i2), .val (.int i3), .val (.int i4), .val (.int i5), .val (.ref a2), .val (.ref a36), .val (.int (Int32.ofNat i)), .val (.int (Int32.ofNat (i + 2))), .val (.int (2 : Int32)), .val (.int (-1 : Int32)), .val (.int (digF d0)), .val (.int (digF d1)), .val (.int (0 : Int32))]) at_196 rfl rfl ?_
                refine oGo.goto (pc' := 249) at_198 (by decide) ?_
                refine oGo.aload (pc' := 251) at_249 rfl rfl rfl ?_
                refine oGo.iload (pc' := 253) at_251 rfl rfl ?_
                refine oGo.iload (pc' := 255) at_253 rfl rfl ?_
                refine oGo.invokestatic (pc' := 258) (k' := 4) (n' := 24) (argsL := [.ref a36, .int (Int32.ofNat i), .int (Int32.ofNat (i + 2))]) (rest := []) at_255 rfl (w35 hG) (w36 hG) (w37 hG) (w38 hG) (by decide) pd15 rfl rfl rfl (c_decimal hG a36 t cs i (i + 2) (by omega) (by omega) hcl _ Sx) (by simp) (by decide) (Nat.le_of_ble_eq_true rfl) rfl rfl (by decide) (by decide) ?_
                intro v78 h79 sh79 q80
                obtain ⟨rfl, ee⟩ := q80
                obtain rfl := ee.symm
                refine ⟨_, fun _ hx => Or.inl hx, ?_⟩
                show oGo l Z a0 EL wd pP eE sS mM _ bB tT cC _ _ _ _ _ _ _ _ [a36, a2] h44 4 24 258 #[.val (.int i0), .val (.int i1), .val (.int i2), .val (.int i3), .val (.int i4), .val (.int i5), .val (.ref a2), .val (.ref a36), .val (.int (Int32.ofNat i)), .val (.int (Int32.ofNat (i + 2))), .val (.int (2 : Int32)), .val (.int (-1 : Int32)), .val (.int (digF d0)), .val (.int (digF d1)), .val (.int (0 : Int32))] [.int (decF cs i (i + 2))]
                refine oGo.istore (pc' := 260) (Ls' := #[.val (.int i0), .val (.int i1), .val (.int i2), .val (.int i3), .val (.int i4), .val (.int i5), .val (.ref a2), .val (.ref a36), .val (.int (Int32.ofNat i)), .val (.int (Int32.ofNat (i + 2))), .val (.int (2 : Int32)), .val (.int (-1 : Int32)), .val (.int (decF cs i (i + 2))), .val (.int (digF d1)), .val (.int (0 : Int32))]) at_258 rfl rfl ?_
                refine oGo.iload (pc' := 262) at_260 rfl rfl ?_
                refine oGo.iload (pc' := 264) at_262 rfl rfl ?_
                refine oGo.icmp_ne (pc1 := 267) (pc2 := 271) at_264 rfl (by decide) (fun q => absurd (by rw [hv]; exact dec_neg2_1 p0 p1) q) (fun q81 => ?_)
                refine oGo.iconst (pc' := 268) (v := 1) at_267 rfl (by decide) ?_
                refine oGo.goto (pc' := 272) at_268 (by decide) ?_
                exact oGo.nreturn at_272 rfl (by simp) rfl (by decide) (by decide) rfl (fun _ q => q.elim)
              · refine oGo.iload (pc' := 192) at_190 rfl rfl ?_
                refine oGo.if_ge (pc1 := 195) (pc2 := 201) at_192 rfl (by decide) (fun q82 => ?_) (fun q => by first | exact absurd q (by decide) | exact absurd (by decide) q)
                refine oGo.iload (pc' := 203) at_201 rfl rfl ?_
                refine oGo.iconst (pc' := 204) (v := 1) at_203 rfl (by decide) ?_
                refine oGo.icmp_ne (pc1 := 207) (pc2 := 214) at_204 rfl (by decide) (fun q83 => ?_) (fun q => by first | exact absurd q (by decide) | exact absurd (by decide) q)
                refine oGo.iload (pc' := 216) at_214 rfl rfl ?_
                refine oGo.iconst (pc' := 217) (v := 2) at_216 rfl (by decide) ?_
                refine oGo.icmp_ne (pc1 := 220) (pc2 := 233) at_217 rfl (by decide) (fun q => absurd rfl q) (fun q84 => ?_)
                refine oGo.iload (pc' := 222) at_220 rfl rfl ?_
                refine oGo.bipush (pc' := 224) (v := 10) at_222 rfl (by decide) ?_
                refine oGo.imul (pc' := 225) at_224 rfl ?_
                refine oGo.iload (pc' := 227) at_225 rfl rfl ?_
                refine oGo.iadd (pc' := 228) at_227 rfl ?_
                refine oGo.istore (pc' := 230) (Ls' := #[.val (.int i0), .val (.int i1), .val (.int i2), .val (.int i3), .val (.int i4), .val (.int i5), .val (.ref a2), .val (.ref a36), .val (.int (Int32.ofNat i)), .val (.int (Int32.ofNat (i + 2))), .val (.int (2 : Int32)), .val (.int (((digF d0) * (10 : Int32)) + (digF d1))), .val (.int (digF d0)), .val (.int (digF d1)), .val (.int (0 : Int32))]) at_228 rfl rfl ?_
                refine oGo.goto (pc' := 249) at_230 (by decide) ?_
                refine oGo.aload (pc' := 251) at_249 rfl rfl rfl ?_
                refine oGo.iload (pc' := 253) at_251 rfl rfl ?_
                refine oGo.iload (pc' := 255) at_253 rfl rfl ?_
                refine oGo.invokestatic (pc' := 258) (k' := 4) (n' := 24) (argsL := [.ref a36, .int (Int32.ofNat i), .int (Int32.ofNat (i + 2))]) (rest := []) at_255 rfl (w35 hG) (w36 hG) (w37 hG) (w38 hG) (by decide) pd15 rfl rfl rfl (c_decimal hG a36 t cs i (i + 2) (by omega) (by omega) hcl _ Sx) (by simp) (by decide) (Nat.le_of_ble_eq_true rfl) rfl rfl (by decide) (by decide) ?_
                intro v85 h86 sh86 q87
                obtain ⟨rfl, ee⟩ := q87
                obtain rfl := ee.symm
                refine ⟨_, fun _ hx => Or.inl hx, ?_⟩
                show oGo l Z a0 EL wd pP eE sS mM _ bB tT cC _ _ _ _ _ _ _ _ [a36, a2] h44 4 24 258 #[.val (.int i0), .val (.int i1), .val (.int i2), .val (.int i3), .val (.int i4), .val (.int i5), .val (.ref a2), .val (.ref a36), .val (.int (Int32.ofNat i)), .val (.int (Int32.ofNat (i + 2))), .val (.int (2 : Int32)), .val (.int (((digF d0) * (10 : Int32)) + (digF d1))), .val (.int (digF d0)), .val (.int (digF d1)), .val (.int (0 : Int32))] [.int (decF cs i (i + 2))]
                refine oGo.istore (pc' := 260) (Ls' := #[.val (.int i0), .val (.int i1), .val (.int i2), .val (.int i3), .val (.int i4), .val (.int i5), .val (.ref a2), .val (.ref a36), .val (.int (Int32.ofNat i)), .val (.int (Int32.ofNat (i + 2))), .val (.int (2 : Int32)), .val (.int (((digF d0) * (10 : Int32)) + (digF d1))), .val (.int (decF cs i (i + 2))), .val (.int (digF d1)), .val (.int (0 : Int32))]) at_258 rfl rfl ?_
                refine oGo.iload (pc' := 262) at_260 rfl rfl ?_
                refine oGo.iload (pc' := 264) at_262 rfl rfl ?_
                refine oGo.icmp_ne (pc1 := 267) (pc2 := 271) at_264 rfl (by decide) (fun q => absurd (by rw [hv]; exact dec_pos2 p0 p1) q) (fun q88 => ?_)
                refine oGo.iconst (pc' := 268) (v := 1) at_267 rfl (by decide) ?_
                refine oGo.goto (pc' := 272) at_268 (by decide) ?_
                exact oGo.nreturn at_272 rfl (by simp) rfl (by decide) (by decide) rfl (fun _ q => q.elim)
          · have hl : ln = 3 := Int32.toInt_inj.mp (by rw [hln]; show _ = (3 : Int); omega)
            subst hl
            refine oGo.aload (pc' := 128) at_126 rfl rfl rfl ?_
            refine oGo.iload (pc' := 130) at_128 rfl rfl ?_
            obtain ⟨d0, hd0⟩ : ∃ c, cs[i]? = some c := ⟨_, List.getElem?_eq_getElem (by omega)⟩
            refine oGo.caload (pc' := 131) (i := i) at_130 rfl A9 rfl (by rw [List.getElem?_map, hd0]; rfl) ?_
            refine oGo.invokestatic (pc' := 134) (k' := 4) (n' := 24) (argsL := [.int d0]) (rest := []) at_131 rfl (w58 hG) (w59 hG) (w3 hG) (w60 hG) (by decide) pd16 rfl rfl rfl (c_dig hG d0 _) (by simp) (by decide) (Nat.le_of_ble_eq_true rfl) rfl rfl (by decide) (by decide) ?_
            intro v89 h90 sh90 q91
            obtain ⟨rfl, ee⟩ := q91
            obtain rfl := ee.symm
            refine ⟨_, fun _ hx => Or.inl hx, ?_⟩
            show oGo l Z a0 EL wd pP eE sS mM _ bB tT cC _ _ _ _ _ _ _ _ [a36, a2] h44 4 24 134 #[.val (.int i0), .val (.int i1), .val (.int i2), .val (.int i3), .val (.int i4), .val (.int i5), .val (.ref a2), .val (.ref a36), .val (.int (Int32.ofNat i)), .val (.int (Int32.ofNat (i + 3))), .val (.int (3 : Int32)), .unset, .unset, .unset, .unset] [.int (digF d0)]
            refine oGo.istore (pc' := 136) (Ls' := #[.val (.int i0), .val (.int i1), .val (.int i2), .val (.int i3), .val (.int i4), .val (.int i5), .val (.ref a2), .val (.ref a36), .val (.int (Int32.ofNat i)), .val (.int (Int32.ofNat (i + 3))), .val (.int (3 : Int32)), .unset, .val (.int (digF d0)), .unset, .unset]) at_134 rfl rfl ?_
            refine oGo.iload (pc' := 138) at_136 rfl rfl ?_
            refine oGo.iconst (pc' := 139) (v := 1) at_138 rfl (by decide) ?_
            refine oGo.icmp_le (pc1 := 142) (pc2 := 155) at_139 rfl (by decide) (fun q => by first | exact absurd q (by decide) | exact absurd (by decide) q) (fun q92 => ?_)
            refine oGo.aload (pc' := 144) at_142 rfl rfl rfl ?_
            refine oGo.iload (pc' := 146) at_144 rfl rfl ?_
            refine oGo.iconst (pc' := 147) (v := 1) at_146 rfl (by decide) ?_
            refine oGo.iadd (pc' := 148) at_147 rfl ?_
            obtain ⟨d1, hd1⟩ : ∃ c, cs[(i + 1)]? = some c := ⟨_, List.getElem?_eq_getElem (by omega)⟩
            refine oGo.caload (pc' := 149) (i := (i + 1)) at_148 rfl A9 (own_succ i) (by rw [List.getElem?_map, hd1]; rfl) ?_
            refine oGo.invokestatic (pc' := 152) (k' := 4) (n' := 24) (argsL := [.int d1]) (rest := []) at_149 rfl (w58 hG) (w59 hG) (w3 hG) (w60 hG) (by decide) pd16 rfl rfl rfl (c_dig hG d1 _) (by simp) (by decide) (Nat.le_of_ble_eq_true rfl) rfl rfl (by decide) (by decide) ?_
            intro v93 h94 sh94 q95
            obtain ⟨rfl, ee⟩ := q95
            obtain rfl := ee.symm
            refine ⟨_, fun _ hx => Or.inl hx, ?_⟩
            show oGo l Z a0 EL wd pP eE sS mM _ bB tT cC _ _ _ _ _ _ _ _ [a36, a2] h44 4 24 152 #[.val (.int i0), .val (.int i1), .val (.int i2), .val (.int i3), .val (.int i4), .val (.int i5), .val (.ref a2), .val (.ref a36), .val (.int (Int32.ofNat i)), .val (.int (Int32.ofNat (i + 3))), .val (.int (3 : Int32)), .unset, .val (.int (digF d0)), .unset, .unset] [.int (digF d1)]
            refine oGo.goto (pc' := 156) at_152 (by decide) ?_
            refine oGo.istore (pc' := 158) (Ls' := #[.val (.int i0), .val (.int i1), .val (.int i2), .val (.int i3), .val (.int i4), .val (.int i5), .val (.ref a2), .val (.ref a36), .val (.int (Int32.ofNat i)), .val (.int (Int32.ofNat (i + 3))), .val (.int (3 : Int32)), .unset, .val (.int (digF d0)), .val (.int (digF d1)), .unset]) at_156 rfl rfl ?_
            refine oGo.iload (pc' := 160) at_158 rfl rfl ?_
            refine oGo.iconst (pc' := 161) (v := 2) at_160 rfl (by decide) ?_
            refine oGo.icmp_le (pc1 := 164) (pc2 := 177) at_161 rfl (by decide) (fun q => by first | exact absurd q (by decide) | exact absurd (by decide) q) (fun q96 => ?_)
            refine oGo.aload (pc' := 166) at_164 rfl rfl rfl ?_
            refine oGo.iload (pc' := 168) at_166 rfl rfl ?_
            refine oGo.iconst (pc' := 169) (v := 2) at_168 rfl (by decide) ?_
            refine oGo.iadd (pc' := 170) at_169 rfl ?_
            obtain ⟨d2, hd2⟩ : ∃ c, cs[(i + 2)]? = some c := ⟨_, List.getElem?_eq_getElem (by omega)⟩
            refine oGo.caload (pc' := 171) (i := (i + 2)) at_170 rfl A9 (own_add2 i) (by rw [List.getElem?_map, hd2]; rfl) ?_
            refine oGo.invokestatic (pc' := 174) (k' := 4) (n' := 24) (argsL := [.int d2]) (rest := []) at_171 rfl (w58 hG) (w59 hG) (w3 hG) (w60 hG) (by decide) pd16 rfl rfl rfl (c_dig hG d2 _) (by simp) (by decide) (Nat.le_of_ble_eq_true rfl) rfl rfl (by decide) (by decide) ?_
            intro v97 h98 sh98 q99
            obtain ⟨rfl, ee⟩ := q99
            obtain rfl := ee.symm
            refine ⟨_, fun _ hx => Or.inl hx, ?_⟩
            show oGo l Z a0 EL wd pP eE sS mM _ bB tT cC _ _ _ _ _ _ _ _ [a36, a2] h44 4 24 174 #[.val (.int i0), .val (.int i1), .val (.int i2), .val (.int i3), .val (.int i4), .val (.int i5), .val (.ref a2), .val (.ref a36), .val (.int (Int32.ofNat i)), .val (.int (Int32.ofNat (i + 3))), .val (.int (3 : Int32)), .unset, .val (.int (digF d0)), .val (.int (digF d1)), .unset] [.int (digF d2)]
            refine oGo.goto (pc' := 178) at_174 (by decide) ?_
            refine oGo.istore (pc' := 180) (Ls' := #[.val (.int i0), .val (.int i1), .val (.int i2), .val (.int i3), .val (.int i4), .val (.int i5), .val (.ref a2), .val (.ref a36), .val (.int (Int32.ofNat i)), .val (.int (Int32.ofNat (i + 3))), .val (.int (3 : Int32)), .unset, .val (.int (digF d0)), .val (.int (digF d1)), .val (.int (digF d2))]) at_178 rfl rfl ?_
            refine oGo.iload (pc' := 182) at_180 rfl rfl ?_
            have hv : decF cs i (i + 3) = decL [d0, d1, d2] 0 := by rw [hD]; exact congrArg (decL · 0) (own_take3 cs i d0 d1 d2 hd0 hd1 hd2)
            refine oGo.if_lt (pc1 := 185) (pc2 := 195) at_182 rfl (by decide) (fun p0 => ?_) (fun p0 => ?_)
            · refine oGo.iconst (pc' := 196) (v := -1) at_195 rfl (by decide) ?_
              refine oGo.istore (pc' := 198) (Ls' := #[.val (.int i0), .val (.int i1), .val (.int i2), .val (.int i3), .val (.int i4), .val (.int i5), .val (.ref a2), .val (.ref a36), .val (.int (Int32.ofNat i)), .val (.int (Int32.ofNat (i + 3))), .val (.int (3 : Int32)), .val (.int (-1 : Int32)), .val (.int (digF d0)), .val (.int (digF d1)), .val (.int (digF d2))]) at_196 rfl rfl ?_
              refine oGo.goto (pc' := 249) at_198 (by decide) ?_
              refine oGo.aload (pc' := 251) at_249 rfl rfl rfl ?_
              refine oGo.iload (pc' := 253) at_251 rfl rfl ?_
              refine oGo.iload (pc' := 255) at_253 rfl rfl ?_
              refine oGo.invokestatic (pc' := 258) (k' := 4) (n' := 24) (argsL := [.ref a36, .int (Int32.ofNat i), .int (Int32.ofNat (i + 3))]) (rest := []) at_255 rfl (w35 hG) (w36 hG) (w37 hG) (w38 hG) (by decide) pd15 rfl rfl rfl (c_decimal hG a36 t cs i (i + 3) (by omega) (by omega) hcl _ Sx) (by simp) (by decide) (Nat.le_of_ble_eq_true rfl) rfl rfl (by decide) (by decide) ?_
              intro v100 h101 sh101 q102
              obtain ⟨rfl, ee⟩ := q102
              obtain rfl := ee.symm
              refine ⟨_, fun _ hx => Or.inl hx, ?_⟩
              show oGo l Z a0 EL wd pP eE sS mM _ bB tT cC _ _ _ _ _ _ _ _ [a36, a2] h44 4 24 258 #[.val (.int i0), .val (.int i1), .val (.int i2), .val (.int i3), .val (.int i4), .val (.int i5), .val (.ref a2), .val (.ref a36), .val (.int (Int32.ofNat i)), .val (.int (Int32.ofNat (i + 3))), .val (.int (3 : Int32)), .val (.int (-1 : Int32)), .val (.int (digF d0)), .val (.int (digF d1)), .val (.int (digF d2))] [.int (decF cs i (i + 3))]
              refine oGo.istore (pc' := 260) (Ls' := #[.val (.int i0), .val (.int i1), .val (.int i2), .val (.int i3), .val (.int i4), .val (.int i5), .val (.ref a2), .val (.ref a36), .val (.int (Int32.ofNat i)), .val (.int (Int32.ofNat (i + 3))), .val (.int (3 : Int32)), .val (.int (-1 : Int32)), .val (.int (decF cs i (i + 3))), .val (.int (digF d1)), .val (.int (digF d2))]) at_258 rfl rfl ?_
              refine oGo.iload (pc' := 262) at_260 rfl rfl ?_
              refine oGo.iload (pc' := 264) at_262 rfl rfl ?_
              refine oGo.icmp_ne (pc1 := 267) (pc2 := 271) at_264 rfl (by decide) (fun q => absurd (by rw [hv]; exact dec_neg3_0 p0) q) (fun q103 => ?_)
              refine oGo.iconst (pc' := 268) (v := 1) at_267 rfl (by decide) ?_
              refine oGo.goto (pc' := 272) at_268 (by decide) ?_
              exact oGo.nreturn at_272 rfl (by simp) rfl (by decide) (by decide) rfl (fun _ q => q.elim)
            · refine oGo.iload (pc' := 187) at_185 rfl rfl ?_
              refine oGo.if_lt (pc1 := 190) (pc2 := 195) at_187 rfl (by decide) (fun p1 => ?_) (fun p1 => ?_)
              · refine oGo.iconst (pc' := 196) (v := -1) at_195 rfl (by decide) ?_
                refine oGo.istore (pc' := 198) (Ls' := #[.val (.int i0), .val (.int i1), .val (.int i2), .val (.int i3), .val (.int i4), .val (.int i5), .val (.ref a2), .val (.ref a36), .val (.int (Int32.ofNat i)), .val (.int (Int32.ofNat (i + 3))), .val (.int (3 : Int32)), .val (.int (-1 : Int32)), .val (.int (digF d0)), .val (.int (digF d1)), .val (.int (digF d2))]) at_196 rfl rfl ?_
                refine oGo.goto (pc' := 249) at_198 (by decide) ?_
                refine oGo.aload (pc' := 251) at_249 rfl rfl rfl ?_
                refine oGo.iload (pc' := 253) at_251 rfl rfl ?_
                refine oGo.iload (pc' := 255) at_253 rfl rfl ?_
                refine oGo.invokestatic (pc' := 258) (k' := 4) (n' := 24) (argsL := [.ref a36, .int (Int32.ofNat i), .int (Int32.ofNat (i + 3))]) (rest := []) at_255 rfl (w35 hG) (w36 hG) (w37 hG) (w38 hG) (by decide) pd15 rfl rfl rfl (c_decimal hG a36 t cs i (i + 3) (by omega) (by omega) hcl _ Sx) (by simp) (by decide) (Nat.le_of_ble_eq_true rfl) rfl rfl (by decide) (by decide) ?_
                intro v104 h105 sh105 q106
                obtain ⟨rfl, ee⟩ := q106
                obtain rfl := ee.symm
                refine ⟨_, fun _ hx => Or.inl hx, ?_⟩
                show oGo l Z a0 EL wd pP eE sS mM _ bB tT cC _ _ _ _ _ _ _ _ [a36, a2] h44 4 24 258 #[.val (.int i0), .val (.int i1), .val (.int i2), .val (.int i3), .val (.int i4), .val (.int i5), .val (.ref a2), .val (.ref a36), .val (.int (Int32.ofNat i)), .val (.int (Int32.ofNat (i + 3))), .val (.int (3 : Int32)), .val (.int (-1 : Int32)), .val (.int (digF d0)), .val (.int (digF d1)), .val (.int (digF d2))] [.int (decF cs i (i + 3))]
                refine oGo.istore (pc' := 260) (Ls' := #[.val (.int i0), .val (.int i1), .val (.int i2), .val (.int i3), .val (.int i4), .val (.int i5), .val (.ref a2), .val (.ref a36), .val (.int (Int32.ofNat i)), .val (.int (Int32.ofNat (i + 3))), .val (.int (3 : Int32)), .val (.int (-1 : Int32)), .val (.int (decF cs i (i + 3))), .val (.int (digF d1)), .val (.int (digF d2))]) at_258 rfl rfl ?_
                refine oGo.iload (pc' := 262) at_260 rfl rfl ?_
                refine oGo.iload (pc' := 264) at_262 rfl rfl ?_
                refine oGo.icmp_ne (pc1 := 267) (pc2 := 271) at_264 rfl (by decide) (fun q => absurd (by rw [hv]; exact dec_neg3_1 p0 p1) q) (fun q107 => ?_)
                refine oGo.iconst (pc' := 268) (v := 1) at_267 rfl (by decide) ?_
                refine oGo.goto (pc' := 272) at_268 (by decide) ?_
                exact oGo.nreturn at_272 rfl (by simp) rfl (by decide) (by decide) rfl (fun _ q => q.elim)
              · refine oGo.iload (pc' := 192) at_190 rfl rfl ?_
                refine oGo.if_ge (pc1 := 195) (pc2 := 201) at_192 rfl (by decide) (fun p2 => ?_) (fun p2 => ?_)
                · refine oGo.iload (pc' := 203) at_201 rfl rfl ?_
                  refine oGo.iconst (pc' := 204) (v := 1) at_203 rfl (by decide) ?_
                  refine oGo.icmp_ne (pc1 := 207) (pc2 := 214) at_204 rfl (by decide) (fun q108 => ?_) (fun q => by first | exact absurd q (by decide) | exact absurd (by decide) q)
                  refine oGo.iload (pc' := 216) at_214 rfl rfl ?_
                  refine oGo.iconst (pc' := 217) (v := 2) at_216 rfl (by decide) ?_
                  refine oGo.icmp_ne (pc1 := 220) (pc2 := 233) at_217 rfl (by decide) (fun q109 => ?_) (fun q => by first | exact absurd q (by decide) | exact absurd (by decide) q)
                  refine oGo.iload (pc' := 235) at_233 rfl rfl ?_
                  refine oGo.bipush (pc' := 237) (v := 100) at_235 rfl (by decide) ?_
                  refine oGo.imul (pc' := 238) at_237 rfl ?_
                  refine oGo.iload (pc' := 240) at_238 rfl rfl ?_
                  refine oGo.bipush (pc' := 242) (v := 10) at_240 rfl (by decide) ?_
                  refine oGo.imul (pc' := 243) at_242 rfl ?_
                  refine oGo.iadd (pc' := 244) at_243 rfl ?_
                  refine oGo.iload (pc' := 246) at_244 rfl rfl ?_
                  refine oGo.iadd (pc' := 247) at_246 rfl ?_
                  refine oGo.istore (pc' := 249) (Ls' := #[.val (.int i0), .val (.int i1), .val (.int i2), .val (.int i3), .val (.int i4), .val (.int i5), .val (.ref a2), .val (.ref a36), .val (.int (Int32.ofNat i)), .val (.int (Int32.ofNat (i + 3))), .val (.int (3 : Int32)), .val (.int ((((digF d0) * (100 : Int32)) + ((digF d1) * (10 : Int32))) + (digF d2))), .val (.int (digF d0)), .val (.int (digF d1)), .val (.int (digF d2))]) at_247 rfl rfl ?_
                  refine oGo.aload (pc' := 251) at_249 rfl rfl rfl ?_
                  refine oGo.iload (pc' := 253) at_251 rfl rfl ?_
                  refine oGo.iload (pc' := 255) at_253 rfl rfl ?_
                  refine oGo.invokestatic (pc' := 258) (k' := 4) (n' := 24) (argsL := [.ref a36, .int (Int32.ofNat i), .int (Int32.ofNat (i + 3))]) (rest := []) at_255 rfl (w35 hG) (w36 hG) (w37 hG) (w38 hG) (by decide) pd15 rfl rfl rfl (c_decimal hG a36 t cs i (i + 3) (by omega) (by omega) hcl _ Sx) (by simp) (by decide) (Nat.le_of_ble_eq_true rfl) rfl rfl (by decide) (by decide) ?_
                  intro v110 h111 sh111 q112
                  obtain ⟨rfl, ee⟩ := q112
                  obtain rfl := ee.symm
                  refine ⟨_, fun _ hx => Or.inl hx, ?_⟩
                  show oGo l Z a0 EL wd pP eE sS mM _ bB tT cC _ _ _ _ _ _ _ _ [a36, a2] h44 4 24 258 #[.val (.int i0), .val (.int i1), .val (.int i2), .val (.int i3), .val (.int i4), .val (.int i5), .val (.ref a2), .val (.ref a36), .val (.int (Int32.ofNat i)), .val (.int (Int32.ofNat (i + 3))), .val (.int (3 : Int32)), .val (.int ((((digF d0) * (100 : Int32)) + ((digF d1) * (10 : Int32))) + (digF d2))), .val (.int (digF d0)), .val (.int (digF d1)), .val (.int (digF d2))] [.int (decF cs i (i + 3))]
                  refine oGo.istore (pc' := 260) (Ls' := #[.val (.int i0), .val (.int i1), .val (.int i2), .val (.int i3), .val (.int i4), .val (.int i5), .val (.ref a2), .val (.ref a36), .val (.int (Int32.ofNat i)), .val (.int (Int32.ofNat (i + 3))), .val (.int (3 : Int32)), .val (.int ((((digF d0) * (100 : Int32)) + ((digF d1) * (10 : Int32))) + (digF d2))), .val (.int (decF cs i (i + 3))), .val (.int (digF d1)), .val (.int (digF d2))]) at_258 rfl rfl ?_
                  refine oGo.iload (pc' := 262) at_260 rfl rfl ?_
                  refine oGo.iload (pc' := 264) at_262 rfl rfl ?_
                  refine oGo.icmp_ne (pc1 := 267) (pc2 := 271) at_264 rfl (by decide) (fun q => absurd (by rw [hv]; exact dec_pos3 p0 p1 p2) q) (fun q113 => ?_)
                  refine oGo.iconst (pc' := 268) (v := 1) at_267 rfl (by decide) ?_
                  refine oGo.goto (pc' := 272) at_268 (by decide) ?_
                  exact oGo.nreturn at_272 rfl (by simp) rfl (by decide) (by decide) rfl (fun _ q => q.elim)
                · refine oGo.iconst (pc' := 196) (v := -1) at_195 rfl (by decide) ?_
                  refine oGo.istore (pc' := 198) (Ls' := #[.val (.int i0), .val (.int i1), .val (.int i2), .val (.int i3), .val (.int i4), .val (.int i5), .val (.ref a2), .val (.ref a36), .val (.int (Int32.ofNat i)), .val (.int (Int32.ofNat (i + 3))), .val (.int (3 : Int32)), .val (.int (-1 : Int32)), .val (.int (digF d0)), .val (.int (digF d1)), .val (.int (digF d2))]) at_196 rfl rfl ?_
                  refine oGo.goto (pc' := 249) at_198 (by decide) ?_
                  refine oGo.aload (pc' := 251) at_249 rfl rfl rfl ?_
                  refine oGo.iload (pc' := 253) at_251 rfl rfl ?_
                  refine oGo.iload (pc' := 255) at_253 rfl rfl ?_
                  refine oGo.invokestatic (pc' := 258) (k' := 4) (n' := 24) (argsL := [.ref a36, .int (Int32.ofNat i), .int (Int32.ofNat (i + 3))]) (rest := []) at_255 rfl (w35 hG) (w36 hG) (w37 hG) (w38 hG) (by decide) pd15 rfl rfl rfl (c_decimal hG a36 t cs i (i + 3) (by omega) (by omega) hcl _ Sx) (by simp) (by decide) (Nat.le_of_ble_eq_true rfl) rfl rfl (by decide) (by decide) ?_
                  intro v114 h115 sh115 q116
                  obtain ⟨rfl, ee⟩ := q116
                  obtain rfl := ee.symm
                  refine ⟨_, fun _ hx => Or.inl hx, ?_⟩
                  show oGo l Z a0 EL wd pP eE sS mM _ bB tT cC _ _ _ _ _ _ _ _ [a36, a2] h44 4 24 258 #[.val (.int i0), .val (.int i1), .val (.int i2), .val (.int i3), .val (.int i4), .val (.int i5), .val (.ref a2), .val (.ref a36), .val (.int (Int32.ofNat i)), .val (.int (Int32.ofNat (i + 3))), .val (.int (3 : Int32)), .val (.int (-1 : Int32)), .val (.int (digF d0)), .val (.int (digF d1)), .val (.int (digF d2))] [.int (decF cs i (i + 3))]
                  refine oGo.istore (pc' := 260) (Ls' := #[.val (.int i0), .val (.int i1), .val (.int i2), .val (.int i3), .val (.int i4), .val (.int i5), .val (.ref a2), .val (.ref a36), .val (.int (Int32.ofNat i)), .val (.int (Int32.ofNat (i + 3))), .val (.int (3 : Int32)), .val (.int (-1 : Int32)), .val (.int (decF cs i (i + 3))), .val (.int (digF d1)), .val (.int (digF d2))]) at_258 rfl rfl ?_
                  refine oGo.iload (pc' := 262) at_260 rfl rfl ?_
                  refine oGo.iload (pc' := 264) at_262 rfl rfl ?_
                  refine oGo.icmp_ne (pc1 := 267) (pc2 := 271) at_264 rfl (by decide) (fun q => absurd (by rw [hv]; exact dec_neg3_2 p0 p1 p2) q) (fun q117 => ?_)
                  refine oGo.iconst (pc' := 268) (v := 1) at_267 rfl (by decide) ?_
                  refine oGo.goto (pc' := 272) at_268 (by decide) ?_
                  exact oGo.nreturn at_272 rfl (by simp) rfl (by decide) (by decide) rfl (fun _ q => q.elim)
        · refine oGo.iconst (pc' := 121) (v := -1) at_120 rfl (by decide) ?_
          refine oGo.istore (pc' := 123) (Ls' := #[.val (.int i0), .val (.int i1), .val (.int i2), .val (.int i3), .val (.int i4), .val (.int i5), .val (.ref a2), .val (.ref a36), .val (.int (Int32.ofNat i)), .val (.int (Int32.ofNat j)), .val (.int ln), .val (.int (-1 : Int32)), .unset, .unset, .unset]) at_121 rfl rfl ?_
          refine oGo.goto (pc' := 249) at_123 (by decide) ?_
          refine oGo.aload (pc' := 251) at_249 rfl rfl rfl ?_
          refine oGo.iload (pc' := 253) at_251 rfl rfl ?_
          refine oGo.iload (pc' := 255) at_253 rfl rfl ?_
          refine oGo.invokestatic (pc' := 258) (k' := 4) (n' := 24) (argsL := [.ref a36, .int (Int32.ofNat i), .int (Int32.ofNat j)]) (rest := []) at_255 rfl (w35 hG) (w36 hG) (w37 hG) (w38 hG) (by decide) pd15 rfl rfl rfl (c_decimal hG a36 t cs i j (by omega) (by omega) hcl _ Sx) (by simp) (by decide) (Nat.le_of_ble_eq_true rfl) rfl rfl (by decide) (by decide) ?_
          intro v118 h119 sh119 q120
          obtain ⟨rfl, ee⟩ := q120
          obtain rfl := ee.symm
          refine ⟨_, fun _ hx => Or.inl hx, ?_⟩
          show oGo l Z a0 EL wd pP eE sS mM _ bB tT cC _ _ _ _ _ _ _ _ [a36, a2] h44 4 24 258 #[.val (.int i0), .val (.int i1), .val (.int i2), .val (.int i3), .val (.int i4), .val (.int i5), .val (.ref a2), .val (.ref a36), .val (.int (Int32.ofNat i)), .val (.int (Int32.ofNat j)), .val (.int ln), .val (.int (-1 : Int32)), .unset, .unset, .unset] [.int (decF cs i j)]
          refine oGo.istore (pc' := 260) (Ls' := #[.val (.int i0), .val (.int i1), .val (.int i2), .val (.int i3), .val (.int i4), .val (.int i5), .val (.ref a2), .val (.ref a36), .val (.int (Int32.ofNat i)), .val (.int (Int32.ofNat j)), .val (.int ln), .val (.int (-1 : Int32)), .val (.int (decF cs i j)), .unset, .unset]) at_258 rfl rfl ?_
          refine oGo.iload (pc' := 262) at_260 rfl rfl ?_
          refine oGo.iload (pc' := 264) at_262 rfl rfl ?_
          refine oGo.icmp_ne (pc1 := 267) (pc2 := 271) at_264 rfl (by decide) (fun q => absurd (by rw [decF, if_neg c1, if_neg c2, if_pos ⟨c3, by rw [hc0, q4]⟩]) q) (fun q121 => ?_)
          refine oGo.iconst (pc' := 268) (v := 1) at_267 rfl (by decide) ?_
          refine oGo.goto (pc' := 272) at_268 (by decide) ?_
          exact oGo.nreturn at_272 rfl (by simp) rfl (by decide) (by decide) rfl (fun _ q => q.elim)
    · refine oGo.iconst (pc' := 99) (v := -1) at_98 rfl (by decide) ?_
      refine oGo.istore (pc' := 101) (Ls' := #[.val (.int i0), .val (.int i1), .val (.int i2), .val (.int i3), .val (.int i4), .val (.int i5), .val (.ref a2), .val (.ref a36), .val (.int (Int32.ofNat i)), .val (.int (Int32.ofNat j)), .val (.int ln), .val (.int (-1 : Int32)), .unset, .unset, .unset]) at_99 rfl rfl ?_
      refine oGo.goto (pc' := 249) at_101 (by decide) ?_
      refine oGo.aload (pc' := 251) at_249 rfl rfl rfl ?_
      refine oGo.iload (pc' := 253) at_251 rfl rfl ?_
      refine oGo.iload (pc' := 255) at_253 rfl rfl ?_
      refine oGo.invokestatic (pc' := 258) (k' := 4) (n' := 24) (argsL := [.ref a36, .int (Int32.ofNat i), .int (Int32.ofNat j)]) (rest := []) at_255 rfl (w35 hG) (w36 hG) (w37 hG) (w38 hG) (by decide) pd15 rfl rfl rfl (c_decimal hG a36 t cs i j (by omega) (by omega) hcl _ Sx) (by simp) (by decide) (Nat.le_of_ble_eq_true rfl) rfl rfl (by decide) (by decide) ?_
      intro v122 h123 sh123 q124
      obtain ⟨rfl, ee⟩ := q124
      obtain rfl := ee.symm
      refine ⟨_, fun _ hx => Or.inl hx, ?_⟩
      show oGo l Z a0 EL wd pP eE sS mM _ bB tT cC _ _ _ _ _ _ _ _ [a36, a2] h44 4 24 258 #[.val (.int i0), .val (.int i1), .val (.int i2), .val (.int i3), .val (.int i4), .val (.int i5), .val (.ref a2), .val (.ref a36), .val (.int (Int32.ofNat i)), .val (.int (Int32.ofNat j)), .val (.int ln), .val (.int (-1 : Int32)), .unset, .unset, .unset] [.int (decF cs i j)]
      refine oGo.istore (pc' := 260) (Ls' := #[.val (.int i0), .val (.int i1), .val (.int i2), .val (.int i3), .val (.int i4), .val (.int i5), .val (.ref a2), .val (.ref a36), .val (.int (Int32.ofNat i)), .val (.int (Int32.ofNat j)), .val (.int ln), .val (.int (-1 : Int32)), .val (.int (decF cs i j)), .unset, .unset]) at_258 rfl rfl ?_
      refine oGo.iload (pc' := 262) at_260 rfl rfl ?_
      refine oGo.iload (pc' := 264) at_262 rfl rfl ?_
      refine oGo.icmp_ne (pc1 := 267) (pc2 := 271) at_264 rfl (by decide) (fun q => absurd (by rw [decF, if_neg c1, if_pos (by rw [Int32.lt_iff_toInt_lt] at q2; omega)]) q) (fun q125 => ?_)
      refine oGo.iconst (pc' := 268) (v := 1) at_267 rfl (by decide) ?_
      refine oGo.goto (pc' := 272) at_268 (by decide) ?_
      exact oGo.nreturn at_272 rfl (by simp) rfl (by decide) (by decide) rfl (fun _ q => q.elim)
set_option maxRecDepth 65536 in
set_option maxHeartbeats 4000000 in
theorem comes_1 {Post : Tables → Env → Array Value → State → Outcome → State → Prop} (hpost : ∀ tb e args s v u, (limb_1_1.after args s (.returned v) u = true ∧ limb_1_2.after args s (.returned v) u = true) → D.Framed s (.returned v) u (Jvm.fieldLocs frame_1_writes args s ++ Jvm.arrayLocs frame_1_arrays args s ++ Jvm.staticLocs frame_1_statics s) 16 128 → Post tb e args s (.returned v) u) :
    ArmFor flags0 classFile x code maxLocals ret World_1 tables_1 room_1 Calls_1 rest_1 Pre_1 Post := by
  intro l hfl _ _ p e ha hc hk s m args below hf hA hF happ hP
  obtain ⟨hcalls, hrest, hpre⟩ := hP
  obtain ⟨-, -, -, hnamed, -, -, -, hat⟩ := (Spec.applies_iff hf).mp happ
  obtain ⟨hg, hn⟩ := and_e (Cond.before_iff.mp (show (Jvm.Cond.and given_1 narrow_1).before args s = true from hpre))
  obtain ⟨g0, g1⟩ := and_e hg
  obtain ⟨t0, r0⟩ := and_e g1
  obtain ⟨t1, r1⟩ := and_e r0
  obtain ⟨t2, r2⟩ := and_e r1
  obtain ⟨t3, r3⟩ := and_e r2
  obtain ⟨t4, r4⟩ := and_e r3
  obtain ⟨w0, w1, w2, w3, w4, w5, rfl⟩ : ∃ w0 w1 w2 w3 w4 w5 : Value, args = #[w0, w1, w2, w3, w4, w5] := by
    have hs : args.size = 6 := by simpa [Cond.value, given_1] using g0
    obtain ⟨L⟩ := args
    match L, hs with
    | [w0, w1, w2, w3, w4, w5], _ => exact ⟨w0, w1, w2, w3, w4, w5, rfl⟩
  have hw := fun d (hd : d ∈ tables_1) => atoms_spec (ws := Jvm.Cond.code x code maxLocals ret :: tables_1) hat d (List.mem_cons_of_mem _ hd)
  obtain ⟨hsets, hown0⟩ := atoms_of _ (rest_1_c_eq ▸ (show rest_1_c.before _ s = true from hrest))
  obtain ⟨i0, ei0⟩ := is_v t0
  obtain rfl : w0 = (.int i0) := Option.some.inj ei0
  obtain ⟨i1, ei1⟩ := is_v t1
  obtain rfl : w1 = (.int i1) := Option.some.inj ei1
  obtain ⟨i2, ei2⟩ := is_v t2
  obtain rfl : w2 = (.int i2) := Option.some.inj ei2
  obtain ⟨i3, ei3⟩ := is_v t3
  obtain rfl : w3 = (.int i3) := Option.some.inj ei3
  obtain ⟨i4, ei4⟩ := is_v t4
  obtain rfl : w4 = (.int i4) := Option.some.inj ei4
  obtain ⟨i5, ei5⟩ := is_v r4
  obtain rfl : w5 = (.int i5) := Option.some.inj ei5
  have hG : oG #[.int i0, .int i1, .int i2, .int i3, .int i4, .int i5] s [] := ⟨hw, EW.nil, hsets, trivial⟩
  obtain ⟨n, o, h1, h2, h3, v, L, rfl, ⟨rfl, -⟩, hN, -, -, hwd, hR⟩ := c_law (l := l) (wd := False) hG i0 i1 i2 i3 i4 i5 s.heap p e ha hc hk s m _ below hf ((Spec.applies_iff_loose hf).mp happ).1 ⟨rfl, State.Warmed39.refl s, rfl, ext_refl _, (fun p hp => by simp at hp), (fun x hx => by simp at hx)⟩ trivial
  refine ⟨n, _, h1, h2, h3, hpost _ _ _ _ _ _ ⟨Cond.after_iff.mpr rfl, Cond.after_iff.mpr (eq_i res_at (Term.int_eval (1)) rfl)⟩ ⟨⟨_, rfl⟩, hwd.resolve_left id, (hR.2.2.2.sift fun y hy => Or.inr (hN y hy)).mono (by decide) (by decide)⟩⟩
theorem main_1_1 : Claimed_1_1 := comes_1 fun _ _ _ _ _ _ h hF => ⟨h.1, hF⟩
theorem main_1_2 : Claimed_1_2 := comes_1 fun _ _ _ _ _ _ h hF => ⟨h.2, hF⟩
end Jvm.Pilot.@@N@@
namespace Jvm.Pilot.@@N@@
open Jvm Jvm.ClassFile Sem Op Lib Jvm.Free Jvm.Stand Jvm.Pilot.@@N@@.Jvm.D
/-! MADE BY PROGRAM (witnessworld.py) out of the Statement's table words and the real class files: 20 classes; the members and pool entries that the words name. The judged class is class 1, her method 3. -/
namespace start1
open Jvm.ClassFile
def u (s : String) : CpInfo := .utf8 (stringToUtf16 s)
/-- a pool by its gaps: so many unusable entries, then the entry; so many at the end -/
def gap : Nat → List CpInfo → List CpInfo
  | 0, r => r
  | n + 1, r => .unusable :: gap n r
def poolList (es : List (Nat × CpInfo)) (last : Nat) : List CpInfo := es.foldr (fun e r => gap e.1 (e.2 :: r)) (gap last [])
def pool (es : List (Nat × CpInfo)) (last : Nat) : Array CpInfo := ⟨poolList es last⟩
def fileOf (pool : Array CpInfo) (this : Nat) (attrs : Array Attribute := #[]) (ms : Array MethodInfo := #[]) (fl : Nat := 33) (sup : Nat := 0) (ifs : Array Nat := #[]) (fds : Array FieldInfo := #[]) : ClassFile where
  minorVersion := 0
  majorVersion := 65
  constantPool := pool
  accessFlags := fl
  thisClass := this
  superClass := sup
  interfaces := ifs
  fields := fds
  methods := ms
  attributes := attrs
def plain (name : String) (sup : Option ClassId) : Class where
  name := name
  kind := .ordinary
  loader := none
  accessFlags := 33
  super := sup
  interfaces := #[]
  cf := none
  fields := #[]
  methods := #[]
  instanceTypes := #[]
  staticTypes := #[]
  resolved := #[]
  callSites := []
  init := .initialized
  statics := none
  mirror := none

def pool0 : Array CpInfo := pool [(5, u "<init>"), (0, u "()V"), (1, .class_ 10), (1, u "java/lang/Object")] 113

def k0c0 : Code := { maxStack := 0, maxLocals := 1, code := object_method_1_code, exceptionTable := #[], attributes := #[] }
def k0m0 : Method := { name := "<init>", desc := "()V", sig := { parameters := [], returnType := none }, accessFlags := 1, code := some k0c0 }
/-- java/lang/Object -/
def k0 : Class := { plain "java/lang/Object" none with
  accessFlags := 33
  interfaces := #[]
  cf := some (fileOf pool0 8 #[] #[{ accessFlags := 1, nameIndex := 5, descriptorIndex := 6, attributes := #[] }] 33 0 #[] #[])
  fields := #[]
  methods := #[k0m0]
  instanceTypes := #[]
  staticTypes := #[]
  resolved := Array.replicate 124 none
  statics := none }

def pool1 : Array CpInfo := pool [(2, .class_ 4), (1, u "java/lang/Object"), (0, u "<init>"), (0, u "()V"), (0, .integer 65535), (0, .methodref 9 10), (0, .class_ 11), (0, .nameAndType 12 13), (0, u "com/example/rulewarden/rulewarden/model/IpAddressDecimalPinLaw"), (0, u "ch"), (0, u "(I)C"), (0, .class_ 15), (0, u "java/lang/String"), (0, .methodref 14 17), (0, .nameAndType 5 18), (0, u "([C)V"), (0, .methodref 9 20), (0, .nameAndType 21 22), (0, u "dig"), (0, u "(C)I"), (0, .methodref 24 25), (0, .class_ 26), (0, .nameAndType 27 28), (0, u "com/example/rulewarden/rulewarden/model/IpAddress"), (0, u "decimal"), (0, u "(Ljava/lang/String;II)I"), (3, u "law"), (0, u "(IIIIII)Z")] 4

def k1m0 : Method := { name := "<init>", desc := "()V", sig := { parameters := [], returnType := none }, accessFlags := 1, code := none }
def k1c1 : Code := { maxStack := 3, maxLocals := 1, code := method_2_code, exceptionTable := #[], attributes := #[] }
def k1m1 : Method := { name := "ch", desc := "(I)C", sig := { parameters := [.int], returnType := some .char }, accessFlags := 10, code := some k1c1 }
def k1c2 : Code := { maxStack := 2, maxLocals := 1, code := method_3_code, exceptionTable := #[], attributes := #[] }
def k1m2 : Method := { name := "dig", desc := "(C)I", sig := { parameters := [.char], returnType := some .int }, accessFlags := 10, code := some k1c2 }
def k1c3 : Code := { maxStack := 3, maxLocals := 15, code := code, exceptionTable := #[], attributes := #[] }
def k1m3 : Method := { name := "law", desc := "(IIIIII)Z", sig := { parameters := [.int, .int, .int, .int, .int, .int], returnType := some .boolean }, accessFlags := 9, code := some k1c3 }
/-- com/example/rulewarden/rulewarden/model/IpAddressDecimalPinLaw -/
def k1 : Class := { plain "com/example/rulewarden/rulewarden/model/IpAddressDecimalPinLaw" (some 0) with
  accessFlags := 49
  interfaces := #[]
  cf := some (fileOf pool1 9 #[] #[{ accessFlags := 1, nameIndex := 5, descriptorIndex := 6, attributes := #[] }, { accessFlags := 10, nameIndex := 12, descriptorIndex := 13, attributes := #[] }, { accessFlags := 10, nameIndex := 21, descriptorIndex := 22, attributes := #[] }, { accessFlags := 9, nameIndex := 32, descriptorIndex := 33, attributes := #[] }] 49 2 #[] #[])
  fields := #[]
  methods := #[k1m0, k1m1, k1m2, k1m3]
  instanceTypes := #[]
  staticTypes := #[]
  resolved := Array.replicate 38 none
  statics := none }

def pool2 : Array CpInfo := pool [(1, .class_ 2), (0, u "java/io/Serializable"), (0, .class_ 4), (0, u "java/lang/Object")] 2

/-- java/io/Serializable -/
def k2 : Class := { plain "java/io/Serializable" (some 0) with
  accessFlags := 1537
  interfaces := #[]
  cf := some (fileOf pool2 1 #[] #[] 1537 3 #[] #[])
  fields := #[]
  methods := #[]
  instanceTypes := #[]
  staticTypes := #[]
  resolved := Array.replicate 7 none
  statics := none }

def pool3 : Array CpInfo := pool [(1, .class_ 2), (0, u "java/lang/Comparable"), (0, .class_ 4), (0, u "java/lang/Object")] 7

/-- java/lang/Comparable -/
def k3 : Class := { plain "java/lang/Comparable" (some 0) with
  accessFlags := 1537
  interfaces := #[]
  cf := some (fileOf pool3 1 #[] #[] 1537 3 #[] #[])
  fields := #[]
  methods := #[]
  instanceTypes := #[]
  staticTypes := #[]
  resolved := Array.replicate 12 none
  statics := none }

def pool4 : Array CpInfo := pool [(2, .class_ 4), (1, u "java/lang/CharSequence"), (42, .class_ 48), (0, u "java/lang/CharSequence$1CodePointIterator"), (10, .class_ 60), (0, u "java/lang/CharSequence$1CharIterator"), (5, .class_ 67), (0, u "java/lang/Object")] 63

/-- java/lang/CharSequence -/
def k4 : Class := { plain "java/lang/CharSequence" (some 0) with
  accessFlags := 1537
  interfaces := #[]
  cf := some (fileOf pool4 2 #[.nestMembers #[47, 59]] #[] 1537 66 #[] #[])
  fields := #[]
  methods := #[]
  instanceTypes := #[]
  staticTypes := #[]
  resolved := Array.replicate 131 none
  statics := none }

def pool5 : Array CpInfo := pool [(1, .class_ 2), (0, u "java/lang/constant/Constable"), (0, .class_ 4), (0, u "java/lang/Object")] 6

/-- java/lang/constant/Constable -/
def k5 : Class := { plain "java/lang/constant/Constable" (some 0) with
  accessFlags := 1537
  interfaces := #[]
  cf := some (fileOf pool5 1 #[] #[] 1537 3 #[] #[])
  fields := #[]
  methods := #[]
  instanceTypes := #[]
  staticTypes := #[]
  resolved := Array.replicate 11 none
  statics := none }

def pool6 : Array CpInfo := pool [(1, .class_ 2), (0, u "java/lang/constant/ConstantDesc"), (0, .class_ 4), (0, u "java/lang/Object")] 32

/-- java/lang/constant/ConstantDesc -/
def k6 : Class := { plain "java/lang/constant/ConstantDesc" (some 0) with
  accessFlags := 1537
  interfaces := #[]
  cf := some (fileOf pool6 1 #[] #[] 1537 3 #[] #[])
  fields := #[]
  methods := #[]
  instanceTypes := #[]
  staticTypes := #[]
  resolved := Array.replicate 37 none
  statics := none }

def pool7 : Array CpInfo := pool [(1, .methodref 2 3), (0, .class_ 4), (0, .nameAndType 5 6), (0, u "java/lang/Object"), (0, u "<init>"), (0, u "()V"), (2, .fieldref 10 11), (0, .class_ 12), (0, .nameAndType 13 14), (0, u "java/lang/String"), (0, u "value"), (0, u "[B"), (0, .fieldref 10 16), (0, .nameAndType 17 18), (0, u "coder"), (0, u "B"), (2, u "hash"), (0, u "I"), (2, u "hashIsZero"), (0, u "Z"), (0, .methodref 10 28), (0, .nameAndType 5 29), (0, u "([CIILjava/lang/Void;)V"), (8, .fieldref 10 39), (0, .nameAndType 40 26), (0, u "COMPACT_STRINGS"), (1, .class_ 44), (1, u "java/lang/StringUTF16"), (0, u "compress"), (1, .methodref 42 48), (0, .nameAndType 49 50), (0, u "coderFromArrayLen"), (0, u "([BI)B"), (56, .class_ 109), (1, u "java/lang/StringLatin1"), (32, u "()Z"), (34, .methodref 42 178), (0, .nameAndType 45 179), (0, u "([CII)[B"), (183, u "([BI)C"), (27, u "(II)V"), (35, u "(I)C"), (64, .methodref 10 493), (0, .nameAndType 494 142), (0, u "isLatin1"), (0, .methodref 107 496), (0, .nameAndType 497 363), (0, u "charAt"), (0, .methodref 42 496), (2, u "checkIndex"), (73, .class_ 576), (0, u "java/lang/CharSequence"), (22, u "CASE_INSENSITIVE_ORDER"), (0, u "Ljava/util/Comparator;"), (409, u "([C)V"), (42, .fieldref 1054 1055), (0, .class_ 1056), (0, .nameAndType 1057 1058), (0, u "jdk/internal/util/Preconditions"), (0, u "SIOOBE_FORMATTER"), (0, u "Ljava/util/function/BiFunction;"), (0, .methodref 1054 1060), (0, .nameAndType 501 1061), (0, u "(IILjava/util/function/BiFunction;)I"), (39, u "serialPersistentFields"), (0, u "[Ljava/io/ObjectStreamField;"), (0, .class_ 1104), (0, u "java/lang/String$CaseInsensitiveComparator"), (1, .class_ 1107), (0, u "java/io/Serializable"), (0, .class_ 1109), (0, u "java/lang/Comparable"), (0, .class_ 1111), (0, u "java/lang/constant/Constable"), (0, .class_ 1113), (0, u "java/lang/constant/ConstantDesc"), (2, u "serialVersionUID"), (0, u "J"), (3, u "REPL"), (0, u "C"), (2, u "LATIN1"), (1, u "UTF16")] 323

def k7m0 : Method := { name := "<init>", desc := "()V", sig := { parameters := [], returnType := none }, accessFlags := 1, code := none }
def k7c1 : Code := { maxStack := 5, maxLocals := 2, code := jdk_42_method_3_code, exceptionTable := #[], attributes := #[] }
def k7m1 : Method := { name := "<init>", desc := "([C)V", sig := { parameters := [(.array .char)], returnType := none }, accessFlags := 1, code := some k7c1 }
def k7c2 : Code := { maxStack := 2, maxLocals := 2, code := jdk_42_method_56_code, exceptionTable := #[], attributes := #[] }
def k7m2 : Method := { name := "charAt", desc := "(I)C", sig := { parameters := [.int], returnType := some .char }, accessFlags := 1, code := some k7c2 }
def k7c3 : Code := { maxStack := 4, maxLocals := 6, code := jdk_42_method_149_code, exceptionTable := #[], attributes := #[] }
def k7m3 : Method := { name := "<init>", desc := "([CIILjava/lang/Void;)V", sig := { parameters := [(.array .char), .int, .int, (.object "java/lang/Void")], returnType := none }, accessFlags := 2, code := some k7c3 }
def k7c4 : Code := { maxStack := 1, maxLocals := 1, code := jdk_42_method_154_code, exceptionTable := #[], attributes := #[] }
def k7m4 : Method := { name := "isLatin1", desc := "()Z", sig := { parameters := [], returnType := some .boolean }, accessFlags := 0, code := some k7c4 }
def k7c5 : Code := { maxStack := 3, maxLocals := 2, code := jdk_42_method_155_code, exceptionTable := #[], attributes := #[] }
def k7m5 : Method := { name := "checkIndex", desc := "(II)V", sig := { parameters := [.int, .int], returnType := none }, accessFlags := 8, code := some k7c5 }
/-- java/lang/String -/
def k7 : Class := { plain "java/lang/String" (some 0) with
  accessFlags := 49
  interfaces := #[2, 3, 4, 5, 6]
  cf := some (fileOf pool7 10 #[.nestMembers #[1103]] #[{ accessFlags := 1, nameIndex := 5, descriptorIndex := 6, attributes := #[] }, { accessFlags := 1, nameIndex := 5, descriptorIndex := 1010, attributes := #[] }, { accessFlags := 1, nameIndex := 497, descriptorIndex := 427, attributes := #[] }, { accessFlags := 2, nameIndex := 5, descriptorIndex := 29, attributes := #[] }, { accessFlags := 0, nameIndex := 494, descriptorIndex := 142, attributes := #[] }, { accessFlags := 8, nameIndex := 501, descriptorIndex := 391, attributes := #[] }] 49 2 #[1106, 1108, 575, 1110, 1112] #[{ accessFlags := 18, nameIndex := 13, descriptorIndex := 14, attributes := #[] }, { accessFlags := 18, nameIndex := 17, descriptorIndex := 18, attributes := #[] }, { accessFlags := 2, nameIndex := 21, descriptorIndex := 22, attributes := #[] }, { accessFlags := 2, nameIndex := 25, descriptorIndex := 26, attributes := #[] }, { accessFlags := 26, nameIndex := 1116, descriptorIndex := 1117, attributes := #[] }, { accessFlags := 24, nameIndex := 40, descriptorIndex := 26, attributes := #[] }, { accessFlags := 26, nameIndex := 1101, descriptorIndex := 1102, attributes := #[] }, { accessFlags := 26, nameIndex := 1121, descriptorIndex := 1122, attributes := #[] }, { accessFlags := 25, nameIndex := 599, descriptorIndex := 600, attributes := #[] }, { accessFlags := 24, nameIndex := 1125, descriptorIndex := 18, attributes := #[] }, { accessFlags := 24, nameIndex := 1127, descriptorIndex := 18, attributes := #[] }])
  fields := #[{ name := "value", type := (.array .byte), accessFlags := 18, slot := 0, constantValue := 0 }, { name := "coder", type := .byte, accessFlags := 18, slot := 1, constantValue := 0 }, { name := "hash", type := .int, accessFlags := 2, slot := 2, constantValue := 0 }, { name := "hashIsZero", type := .boolean, accessFlags := 2, slot := 3, constantValue := 0 }, { name := "serialVersionUID", type := .long, accessFlags := 26, slot := 0, constantValue := 0 }, { name := "COMPACT_STRINGS", type := .boolean, accessFlags := 24, slot := 1, constantValue := 0 }, { name := "serialPersistentFields", type := (.array (.object "java/io/ObjectStreamField")), accessFlags := 26, slot := 2, constantValue := 0 }, { name := "REPL", type := .char, accessFlags := 26, slot := 3, constantValue := 0 }, { name := "CASE_INSENSITIVE_ORDER", type := (.object "java/util/Comparator"), accessFlags := 25, slot := 4, constantValue := 0 }, { name := "LATIN1", type := .byte, accessFlags := 24, slot := 5, constantValue := 0 }, { name := "UTF16", type := .byte, accessFlags := 24, slot := 6, constantValue := 0 }]
  methods := #[k7m0, k7m1, k7m2, k7m3, k7m4, k7m5]
  instanceTypes := #[(.array .byte), .byte, .int, .boolean]
  staticTypes := #[.long, .boolean, (.array (.object "java/io/ObjectStreamField")), .char, (.object "java/util/Comparator"), .byte, .byte]
  resolved := Array.replicate 1451 none
  statics := some 0 }

def pool8 : Array CpInfo := pool [(3, .class_ 4), (0, u "java/lang/String"), (1, .class_ 8), (1, u "java/lang/Object"), (0, u "<init>"), (0, u "()V"), (0, .methodref 12 13), (0, .class_ 14), (0, .nameAndType 15 16), (0, u "java/lang/StringUTF16"), (0, u "newBytesLength"), (0, u "(I)I"), (3, .integer 1073741823), (23, .fieldref 12 45), (0, .nameAndType 46 47), (0, u "$assertionsDisabled"), (0, u "Z"), (0, .methodref 12 49), (0, .nameAndType 50 51), (0, u "length"), (0, u "([B)I"), (7, .fieldref 12 60), (0, .nameAndType 61 62), (0, u "HI_BYTE_SHIFT"), (0, u "I"), (0, .fieldref 12 64), (0, .nameAndType 65 62), (0, u "LO_BYTE_SHIFT"), (1, .methodref 12 68), (0, .nameAndType 69 70), (0, u "checkIndex"), (0, u "(I[B)V"), (0, .methodref 12 72), (0, .nameAndType 73 74), (0, u "getChar"), (0, u "([BI)C"), (32, .methodref 12 108), (0, .nameAndType 109 110), (0, u "newBytesFor"), (0, u "(I)[B"), (0, .methodref 12 112), (0, .nameAndType 113 114), (0, u "putChar"), (0, u "([BII)V"), (0, .methodref 12 116), (0, .nameAndType 117 118), (0, u "compress"), (0, u "([CI[BII)I"), (0, .methodref 12 120), (0, .nameAndType 121 122), (0, u "toBytes"), (0, u "([CII)[B"), (138, u "coderFromArrayLen"), (0, u "([BI)B"), (106, .class_ 371), (1, u "java/lang/StringUTF16$LinesSpliterator"), (20, u "charAt"), (21, .methodref 3 415), (0, .nameAndType 69 416), (0, u "(II)V"), (13, u "MAX_LENGTH"), (196, .class_ 628), (0, u "java/lang/StringUTF16$CodePointsSpliterator"), (0, .class_ 630), (0, u "java/lang/StringUTF16$CharsSpliterator")] 4

def k8m0 : Method := { name := "<init>", desc := "()V", sig := { parameters := [], returnType := none }, accessFlags := 0, code := none }
def k8c1 : Code := { maxStack := 1, maxLocals := 1, code := jdk_52_method_2_code, exceptionTable := #[], attributes := #[] }
def k8m1 : Method := { name := "newBytesFor", desc := "(I)[B", sig := { parameters := [.int], returnType := some (.array .byte) }, accessFlags := 9, code := some k8c1 }
def k8c2 : Code := { maxStack := 4, maxLocals := 1, code := jdk_52_method_3_code, exceptionTable := #[], attributes := #[] }
def k8m2 : Method := { name := "newBytesLength", desc := "(I)I", sig := { parameters := [.int], returnType := some .int }, accessFlags := 9, code := some k8c2 }
def k8c3 : Code := { maxStack := 4, maxLocals := 3, code := jdk_52_method_4_code, exceptionTable := #[], attributes := #[] }
def k8m3 : Method := { name := "putChar", desc := "([BII)V", sig := { parameters := [(.array .byte), .int, .int], returnType := none }, accessFlags := 8, code := some k8c3 }
def k8c4 : Code := { maxStack := 3, maxLocals := 2, code := jdk_52_method_5_code, exceptionTable := #[], attributes := #[] }
def k8m4 : Method := { name := "getChar", desc := "([BI)C", sig := { parameters := [(.array .byte), .int], returnType := some .char }, accessFlags := 8, code := some k8c4 }
def k8c5 : Code := { maxStack := 2, maxLocals := 1, code := jdk_52_method_6_code, exceptionTable := #[], attributes := #[] }
def k8m5 : Method := { name := "length", desc := "([B)I", sig := { parameters := [(.array .byte)], returnType := some .int }, accessFlags := 9, code := some k8c5 }
def k8c6 : Code := { maxStack := 4, maxLocals := 5, code := jdk_52_method_14_code, exceptionTable := #[], attributes := #[] }
def k8m6 : Method := { name := "toBytes", desc := "([CII)[B", sig := { parameters := [(.array .char), .int, .int], returnType := some (.array .byte) }, accessFlags := 9, code := some k8c6 }
def k8c7 : Code := { maxStack := 2, maxLocals := 2, code := jdk_52_method_15_code, exceptionTable := #[], attributes := #[] }
def k8m7 : Method := { name := "coderFromArrayLen", desc := "([BI)B", sig := { parameters := [(.array .byte), .int], returnType := some .byte }, accessFlags := 8, code := some k8c7 }
def k8c8 : Code := { maxStack := 5, maxLocals := 6, code := jdk_52_method_16_code, exceptionTable := #[], attributes := #[] }
def k8m8 : Method := { name := "compress", desc := "([CII)[B", sig := { parameters := [(.array .char), .int, .int], returnType := some (.array .byte) }, accessFlags := 9, code := some k8c8 }
def k8c9 : Code := { maxStack := 3, maxLocals := 7, code := jdk_52_method_21_code, exceptionTable := #[], attributes := #[] }
def k8m9 : Method := { name := "compress", desc := "([CI[BII)I", sig := { parameters := [(.array .char), .int, (.array .byte), .int, .int], returnType := some .int }, accessFlags := 9, code := some k8c9 }
def k8c10 : Code := { maxStack := 2, maxLocals := 2, code := jdk_52_method_83_code, exceptionTable := #[], attributes := #[] }
def k8m10 : Method := { name := "charAt", desc := "([BI)C", sig := { parameters := [(.array .byte), .int], returnType := some .char }, accessFlags := 9, code := some k8c10 }
def k8c11 : Code := { maxStack := 2, maxLocals := 2, code := jdk_52_method_91_code, exceptionTable := #[], attributes := #[] }
def k8m11 : Method := { name := "checkIndex", desc := "(I[B)V", sig := { parameters := [.int, (.array .byte)], returnType := none }, accessFlags := 9, code := some k8c11 }
/-- java/lang/StringUTF16 -/
def k8 : Class := { plain "java/lang/StringUTF16" (some 0) with
  accessFlags := 48
  interfaces := #[]
  cf := some (fileOf pool8 12 #[.nestMembers #[627, 629, 369]] #[{ accessFlags := 0, nameIndex := 9, descriptorIndex := 10, attributes := #[] }, { accessFlags := 9, nameIndex := 109, descriptorIndex := 110, attributes := #[] }, { accessFlags := 9, nameIndex := 15, descriptorIndex := 16, attributes := #[] }, { accessFlags := 8, nameIndex := 113, descriptorIndex := 114, attributes := #[] }, { accessFlags := 8, nameIndex := 73, descriptorIndex := 74, attributes := #[] }, { accessFlags := 9, nameIndex := 50, descriptorIndex := 51, attributes := #[] }, { accessFlags := 9, nameIndex := 121, descriptorIndex := 122, attributes := #[] }, { accessFlags := 8, nameIndex := 261, descriptorIndex := 262, attributes := #[] }, { accessFlags := 9, nameIndex := 117, descriptorIndex := 122, attributes := #[] }, { accessFlags := 9, nameIndex := 117, descriptorIndex := 118, attributes := #[] }, { accessFlags := 9, nameIndex := 392, descriptorIndex := 74, attributes := #[] }, { accessFlags := 9, nameIndex := 69, descriptorIndex := 70, attributes := #[] }] 48 6 #[] #[{ accessFlags := 26, nameIndex := 61, descriptorIndex := 62, attributes := #[] }, { accessFlags := 26, nameIndex := 65, descriptorIndex := 62, attributes := #[] }, { accessFlags := 24, nameIndex := 430, descriptorIndex := 62, attributes := #[] }, { accessFlags := 4120, nameIndex := 46, descriptorIndex := 47, attributes := #[] }])
  fields := #[{ name := "HI_BYTE_SHIFT", type := .int, accessFlags := 26, slot := 0, constantValue := 0 }, { name := "LO_BYTE_SHIFT", type := .int, accessFlags := 26, slot := 1, constantValue := 0 }, { name := "MAX_LENGTH", type := .int, accessFlags := 24, slot := 2, constantValue := 0 }, { name := "$assertionsDisabled", type := .boolean, accessFlags := 4120, slot := 3, constantValue := 0 }]
  methods := #[k8m0, k8m1, k8m2, k8m3, k8m4, k8m5, k8m6, k8m7, k8m8, k8m9, k8m10, k8m11]
  instanceTypes := #[]
  staticTypes := #[.int, .int, .int, .boolean]
  resolved := Array.replicate 635 none
  statics := some 1 }

def pool9 : Array CpInfo := pool [(2, .class_ 4), (1, u "java/lang/Object"), (3, .class_ 10), (1, u "com/example/rulewarden/rulewarden/model/IpAddress"), (0, u "ipv6"), (0, u "Z"), (2, u "high"), (0, u "J"), (2, u "low"), (17, .class_ 39), (1, u "java/lang/String"), (36, .nameAndType 77 78), (0, u "charAt"), (0, u "(I)C"), (52, u "decimal"), (0, u "(Ljava/lang/String;II)I"), (0, .methodref 37 76), (11, .class_ 146), (0, u "java/lang/Comparable"), (0, u "MAX_QUOTED_LENGTH"), (0, u "I"), (2, u "IPV6_GROUPS")] 43

def k9c0 : Code := { maxStack := 3, maxLocals := 7, code := prog_50_method_16_code, exceptionTable := #[], attributes := #[] }
def k9m0 : Method := { name := "decimal", desc := "(Ljava/lang/String;II)I", sig := { parameters := [(.object "java/lang/String"), .int, .int], returnType := some .int }, accessFlags := 8, code := some k9c0 }
/-- com/example/rulewarden/rulewarden/model/IpAddress -/
def k9 : Class := { plain "com/example/rulewarden/rulewarden/model/IpAddress" (some 0) with
  accessFlags := 49
  interfaces := #[3]
  cf := some (fileOf pool9 8 #[] #[{ accessFlags := 8, nameIndex := 131, descriptorIndex := 132, attributes := #[] }] 49 2 #[145] #[{ accessFlags := 26, nameIndex := 147, descriptorIndex := 148, attributes := #[] }, { accessFlags := 26, nameIndex := 151, descriptorIndex := 148, attributes := #[] }, { accessFlags := 18, nameIndex := 11, descriptorIndex := 12, attributes := #[] }, { accessFlags := 18, nameIndex := 15, descriptorIndex := 16, attributes := #[] }, { accessFlags := 18, nameIndex := 19, descriptorIndex := 16, attributes := #[] }])
  fields := #[{ name := "MAX_QUOTED_LENGTH", type := .int, accessFlags := 26, slot := 0, constantValue := 0 }, { name := "IPV6_GROUPS", type := .int, accessFlags := 26, slot := 1, constantValue := 0 }, { name := "ipv6", type := .boolean, accessFlags := 18, slot := 0, constantValue := 0 }, { name := "high", type := .long, accessFlags := 18, slot := 1, constantValue := 0 }, { name := "low", type := .long, accessFlags := 18, slot := 2, constantValue := 0 }]
  methods := #[k9m0]
  instanceTypes := #[.boolean, .long, .long]
  staticTypes := #[.int, .int]
  resolved := Array.replicate 195 none
  statics := none }

def pool10 : Array CpInfo := pool [(2, .class_ 4), (1, u "java/lang/Object"), (0, u "<init>"), (0, u "()V"), (17, .class_ 26), (1, u "jdk/internal/util/Preconditions"), (6, u "checkIndex"), (21, .class_ 56), (0, u "jdk/internal/util/Preconditions$4"), (57, .class_ 115), (0, u "jdk/internal/util/Preconditions$1"), (7, u "SIOOBE_FORMATTER"), (0, u "Ljava/util/function/BiFunction;"), (0, .class_ 126), (0, u "jdk/internal/util/Preconditions$2"), (3, u "AIOOBE_FORMATTER"), (0, .class_ 132), (0, u "jdk/internal/util/Preconditions$3"), (3, u "IOOBE_FORMATTER"), (41, u "(IILjava/util/function/BiFunction;)I")] 15

def k10m0 : Method := { name := "<init>", desc := "()V", sig := { parameters := [], returnType := none }, accessFlags := 1, code := none }
def k10c1 : Code := { maxStack := 3, maxLocals := 3, code := jdk_41_method_11_code, exceptionTable := #[], attributes := #[] }
def k10m1 : Method := { name := "checkIndex", desc := "(IILjava/util/function/BiFunction;)I", sig := { parameters := [.int, .int, (.object "java/util/function/BiFunction")], returnType := some .int }, accessFlags := 9, code := some k10c1 }
/-- jdk/internal/util/Preconditions -/
def k10 : Class := { plain "jdk/internal/util/Preconditions" (some 0) with
  accessFlags := 33
  interfaces := #[]
  cf := some (fileOf pool10 24 #[.nestMembers #[55, 131, 125, 114]] #[{ accessFlags := 1, nameIndex := 5, descriptorIndex := 6, attributes := #[] }, { accessFlags := 9, nameIndex := 33, descriptorIndex := 178, attributes := #[] }] 33 2 #[] #[{ accessFlags := 25, nameIndex := 123, descriptorIndex := 124, attributes := #[] }, { accessFlags := 25, nameIndex := 130, descriptorIndex := 124, attributes := #[] }, { accessFlags := 25, nameIndex := 136, descriptorIndex := 124, attributes := #[] }])
  fields := #[{ name := "SIOOBE_FORMATTER", type := (.object "java/util/function/BiFunction"), accessFlags := 25, slot := 0, constantValue := 0 }, { name := "AIOOBE_FORMATTER", type := (.object "java/util/function/BiFunction"), accessFlags := 25, slot := 1, constantValue := 0 }, { name := "IOOBE_FORMATTER", type := (.object "java/util/function/BiFunction"), accessFlags := 25, slot := 2, constantValue := 0 }]
  methods := #[k10m0, k10m1]
  instanceTypes := #[]
  staticTypes := #[(.object "java/util/function/BiFunction"), (.object "java/util/function/BiFunction"), (.object "java/util/function/BiFunction")]
  resolved := Array.replicate 194 none
  statics := some 2 }

def pool11 : Array CpInfo := pool [(1, .class_ 2), (0, u "java/lang/String"), (1, .class_ 6), (1, u "java/lang/Object"), (0, u "<init>"), (0, u "()V"), (0, .methodref 1 10), (0, .nameAndType 11 12), (0, u "checkIndex"), (0, u "(II)V"), (1, .class_ 16), (1, u "java/lang/StringLatin1"), (36, u "([BI)C"), (67, u "$assertionsDisabled"), (0, u "Z"), (98, .class_ 223), (1, u "java/lang/StringLatin1$LinesSpliterator"), (28, u "charAt"), (137, .class_ 391), (0, u "java/lang/StringLatin1$CharsSpliterator")] 3

def k11m0 : Method := { name := "<init>", desc := "()V", sig := { parameters := [], returnType := none }, accessFlags := 0, code := none }
def k11c1 : Code := { maxStack := 2, maxLocals := 2, code := jdk_43_method_2_code, exceptionTable := #[], attributes := #[] }
def k11m1 : Method := { name := "charAt", desc := "([BI)C", sig := { parameters := [(.array .byte), .int], returnType := some .char }, accessFlags := 9, code := some k11c1 }
/-- java/lang/StringLatin1 -/
def k11 : Class := { plain "java/lang/StringLatin1" (some 0) with
  accessFlags := 48
  interfaces := #[]
  cf := some (fileOf pool11 14 #[.nestMembers #[390, 221]] #[{ accessFlags := 0, nameIndex := 7, descriptorIndex := 8, attributes := #[] }, { accessFlags := 9, nameIndex := 252, descriptorIndex := 53, attributes := #[] }] 48 4 #[] #[{ accessFlags := 4120, nameIndex := 121, descriptorIndex := 122, attributes := #[] }])
  fields := #[{ name := "$assertionsDisabled", type := .boolean, accessFlags := 4120, slot := 0, constantValue := 0 }]
  methods := #[k11m0, k11m1]
  instanceTypes := #[]
  staticTypes := #[.boolean]
  resolved := Array.replicate 395 none
  statics := none }

def pool12 : Array CpInfo := pool [(9, u "<init>"), (6, .class_ 18), (1, u "java/lang/Object"), (0, u "()V"), (1, .class_ 23), (1, u "jdk/internal/util/ArraysSupport"), (0, u "LOG2_ARRAY_LONG_INDEX_SCALE"), (0, u "I"), (2, u "U"), (0, u "Ljdk/internal/misc/Unsafe;"), (8, u "BIG_ENDIAN"), (0, u "Z"), (8, u "LOG2_BYTE_BIT_SIZE"), (4, u "LOG2_ARRAY_INT_INDEX_SCALE"), (54, u "JLA"), (0, u "Ljdk/internal/access/JavaLangAccess;"), (11, u "LOG2_ARRAY_BOOLEAN_INDEX_SCALE"), (9, u "LOG2_ARRAY_BYTE_INDEX_SCALE"), (5, u "LOG2_ARRAY_CHAR_INDEX_SCALE"), (5, u "LOG2_ARRAY_SHORT_INDEX_SCALE"), (18, u "LOG2_ARRAY_FLOAT_INDEX_SCALE"), (24, u "LOG2_ARRAY_DOUBLE_INDEX_SCALE"), (89, u "T_BOOLEAN"), (2, u "T_CHAR"), (1, u "T_FLOAT"), (1, u "T_DOUBLE"), (1, u "T_BYTE"), (1, u "T_SHORT"), (1, u "T_INT"), (1, u "T_LONG"), (1, u "SOFT_MAX_ARRAY_LENGTH")] 83

def k12m0 : Method := { name := "<init>", desc := "()V", sig := { parameters := [], returnType := none }, accessFlags := 2, code := none }
/-- jdk/internal/util/ArraysSupport -/
def k12 : Class := { plain "jdk/internal/util/ArraysSupport" (some 0) with
  accessFlags := 33
  interfaces := #[]
  cf := some (fileOf pool12 21 #[] #[{ accessFlags := 2, nameIndex := 9, descriptorIndex := 19, attributes := #[] }] 33 16 #[] #[{ accessFlags := 24, nameIndex := 28, descriptorIndex := 29, attributes := #[] }, { accessFlags := 26, nameIndex := 38, descriptorIndex := 39, attributes := #[] }, { accessFlags := 25, nameIndex := 121, descriptorIndex := 25, attributes := #[] }, { accessFlags := 25, nameIndex := 131, descriptorIndex := 25, attributes := #[] }, { accessFlags := 25, nameIndex := 137, descriptorIndex := 25, attributes := #[] }, { accessFlags := 25, nameIndex := 143, descriptorIndex := 25, attributes := #[] }, { accessFlags := 25, nameIndex := 53, descriptorIndex := 25, attributes := #[] }, { accessFlags := 25, nameIndex := 24, descriptorIndex := 25, attributes := #[] }, { accessFlags := 25, nameIndex := 162, descriptorIndex := 25, attributes := #[] }, { accessFlags := 25, nameIndex := 187, descriptorIndex := 25, attributes := #[] }, { accessFlags := 26, nameIndex := 48, descriptorIndex := 25, attributes := #[] }, { accessFlags := 25, nameIndex := 277, descriptorIndex := 25, attributes := #[] }, { accessFlags := 25, nameIndex := 280, descriptorIndex := 25, attributes := #[] }, { accessFlags := 25, nameIndex := 282, descriptorIndex := 25, attributes := #[] }, { accessFlags := 25, nameIndex := 284, descriptorIndex := 25, attributes := #[] }, { accessFlags := 25, nameIndex := 286, descriptorIndex := 25, attributes := #[] }, { accessFlags := 25, nameIndex := 288, descriptorIndex := 25, attributes := #[] }, { accessFlags := 25, nameIndex := 290, descriptorIndex := 25, attributes := #[] }, { accessFlags := 25, nameIndex := 292, descriptorIndex := 25, attributes := #[] }, { accessFlags := 26, nameIndex := 108, descriptorIndex := 109, attributes := #[] }, { accessFlags := 25, nameIndex := 294, descriptorIndex := 25, attributes := #[] }])
  fields := #[{ name := "U", type := (.object "jdk/internal/misc/Unsafe"), accessFlags := 24, slot := 0, constantValue := 0 }, { name := "BIG_ENDIAN", type := .boolean, accessFlags := 26, slot := 1, constantValue := 0 }, { name := "LOG2_ARRAY_BOOLEAN_INDEX_SCALE", type := .int, accessFlags := 25, slot := 2, constantValue := 0 }, { name := "LOG2_ARRAY_BYTE_INDEX_SCALE", type := .int, accessFlags := 25, slot := 3, constantValue := 0 }, { name := "LOG2_ARRAY_CHAR_INDEX_SCALE", type := .int, accessFlags := 25, slot := 4, constantValue := 0 }, { name := "LOG2_ARRAY_SHORT_INDEX_SCALE", type := .int, accessFlags := 25, slot := 5, constantValue := 0 }, { name := "LOG2_ARRAY_INT_INDEX_SCALE", type := .int, accessFlags := 25, slot := 6, constantValue := 0 }, { name := "LOG2_ARRAY_LONG_INDEX_SCALE", type := .int, accessFlags := 25, slot := 7, constantValue := 0 }, { name := "LOG2_ARRAY_FLOAT_INDEX_SCALE", type := .int, accessFlags := 25, slot := 8, constantValue := 0 }, { name := "LOG2_ARRAY_DOUBLE_INDEX_SCALE", type := .int, accessFlags := 25, slot := 9, constantValue := 0 }, { name := "LOG2_BYTE_BIT_SIZE", type := .int, accessFlags := 26, slot := 10, constantValue := 0 }, { name := "T_BOOLEAN", type := .int, accessFlags := 25, slot := 11, constantValue := 0 }, { name := "T_CHAR", type := .int, accessFlags := 25, slot := 12, constantValue := 0 }, { name := "T_FLOAT", type := .int, accessFlags := 25, slot := 13, constantValue := 0 }, { name := "T_DOUBLE", type := .int, accessFlags := 25, slot := 14, constantValue := 0 }, { name := "T_BYTE", type := .int, accessFlags := 25, slot := 15, constantValue := 0 }, { name := "T_SHORT", type := .int, accessFlags := 25, slot := 16, constantValue := 0 }, { name := "T_INT", type := .int, accessFlags := 25, slot := 17, constantValue := 0 }, { name := "T_LONG", type := .int, accessFlags := 25, slot := 18, constantValue := 0 }, { name := "JLA", type := (.object "jdk/internal/access/JavaLangAccess"), accessFlags := 26, slot := 19, constantValue := 0 }, { name := "SOFT_MAX_ARRAY_LENGTH", type := .int, accessFlags := 25, slot := 20, constantValue := 0 }]
  methods := #[k12m0]
  instanceTypes := #[]
  staticTypes := #[(.object "jdk/internal/misc/Unsafe"), .boolean, .int, .int, .int, .int, .int, .int, .int, .int, .int, .int, .int, .int, .int, .int, .int, .int, .int, (.object "jdk/internal/access/JavaLangAccess"), .int]
  resolved := Array.replicate 378 none
  statics := none }

def pool13 : Array CpInfo := pool [(1, u "java/lang/Cloneable"), (0, .class_ 1), (0, u "java/lang/Object"), (0, .class_ 3)] 3

/-- java/lang/Cloneable -/
def k13 : Class := { plain "java/lang/Cloneable" (some 0) with
  accessFlags := 1537
  interfaces := #[]
  cf := some (fileOf pool13 2 #[] #[] 1537 4 #[] #[])
  fields := #[]
  methods := #[]
  instanceTypes := #[]
  staticTypes := #[]
  resolved := Array.replicate 8 none
  statics := none }

/-- the primitive byte -/
def k14 : Class := { plain "byte" none with kind := .primitive 'B', accessFlags := 0x411 }
/-- [B -/
def k15 : Class := { plain "[B" (some 0) with kind := .array 14 .byte, interfaces := #[13, 2], accessFlags := 1041 }

/-- the primitive char -/
def k16 : Class := { plain "char" none with kind := .primitive 'C', accessFlags := 0x411 }
/-- [C -/
def k17 : Class := { plain "[C" (some 0) with kind := .array 16 .char, interfaces := #[13, 2], accessFlags := 1041 }

/-- the primitive int -/
def k18 : Class := { plain "int" none with kind := .primitive 'I', accessFlags := 0x411 }
/-- [I -/
def k19 : Class := { plain "[I" (some 0) with kind := .array 18 .int, interfaces := #[13, 2], accessFlags := 1041 }

def heap : Heap := #[{ cls := 7, slots := #[.long 0, .int 1, .null, .int 0, .null, .int 0, .int 0], vm := .statics 7 },
  { cls := 8, slots := #[.int 0, .int 8, .int 0, .int 1], vm := .statics 8 },
  { cls := 10, slots := #[.null, .null, .null], vm := .statics 10 }]
def classes : Array Class := #[k0, k1, k2, k3, k4, k5, k6, k7, k8, k9, k10, k11, k12, k13, k14, k15, k16, k17, k18, k19]
def interned : List (Array UInt16 × Addr) := []
def slotsUsed : Nat := 14
def theMethod : MethodId := ⟨1, 3⟩
def args0 : Array Value := #[.int 3, .int 5, .int 7, .int 9, .int 11, .int 13]
def aboutOver (below : List Frame) : State where
  vm := { classes := classes, interned := interned.toArray }
  heap := heap
  slotsUsed := slotsUsed
  threads := #[{ frames := .invoking theMethod args0 :: below }]
def below0 : List Frame := [.native { method := ⟨0, 0⟩, args := #[] }]
def about1 : State := aboutOver below0
def p0 : Program := .bare "" "" ""
def e0 : Env := launch0.env 0 0 0
theorem w_frames : about1.frames = Frame.invoking theMethod args0 :: below0 := rfl
set_option maxRecDepth 65536 in
theorem w_args : argsFit about1.vm theMethod args0 = true := by decide +kernel
set_option maxRecDepth 65536 in
theorem w_heap : heapFits about1 = true := by decide +kernel
set_option maxRecDepth 65536 in
theorem w_runnable : about1.curStatus? = some .runnable := by decide +kernel
set_option maxRecDepth 65536 in
theorem w_alone : about1.alone = true := by decide +kernel
set_option maxRecDepth 65536 in
theorem w_named : about1.methodNamed? x = some theMethod := by decide +kernel
set_option maxRecDepth 65536 in
theorem w_hears : about1.hears theMethod below0 = true := by decide +kernel
set_option maxRecDepth 65536 in
theorem w_ripe : about1.ripe theMethod args0 below0 = true := by decide +kernel
theorem w_running : about1.status = .running := rfl
set_option maxRecDepth 65536 in
theorem w_room : about1.hasRoom e0.platform room_1 = true :=
  launch0.hasRoom_least _ room_1 (by decide +kernel) (by decide +kernel) (by decide +kernel) (by decide +kernel) (by decide +kernel) (by decide +kernel)
theorem allAtoms_all (ts : List Jvm.Cond) (a : Array Jvm.Value) (st : Jvm.State) : (allAtoms ts).before a st = ts.all (fun c => c.before a st) := by
  induction ts with
  | nil => rfl
  | cons c t ih =>
    show (Jvm.Cond.and c (allAtoms t)).before a st = _
    rw [Jvm.Cond.before_and, ih, List.all_cons]
def words1 : List Jvm.Cond := Jvm.Cond.code x code maxLocals ret :: tables_1
/-- a 'code' word, met by the world's own term for the bytes: nothing is compared byte by byte -/
theorem code_word {y : MethodName} {bytes : ByteArray} {mx : Nat} {rt : Option FieldType} {a : Array Value} {s : State} {m : MethodId} {meth : Method} {c : Code} (h1 : s.methodNamed? y = some m) (h2 : s.vm.method? m = some meth) (h3 : meth.code = some c) (h4 : c.code = bytes)
    (h5 : (c.maxLocals == mx && c.exceptionTable.isEmpty && decide (c.maxStack ≤ mostOperands) && decide (meth.sig.returnType = rt) && !meth.locks && decide (parseMethodDescriptor y.desc = some meth.sig)) = true) : (Jvm.Cond.code y bytes mx rt).before a s = true := by
  simp only [Bool.and_eq_true, beq_iff_eq, Bool.not_eq_true', decide_eq_true_eq] at h5
  obtain ⟨⟨⟨⟨⟨g1, g2⟩, g3⟩, g4⟩, g5⟩, g6⟩ := h5
  simp [Cond.before, Cond.holds, Cond.value, h1, h2, h3, h4, g1, g2, g3, g4, g5, g6]
def isCode : Jvm.Cond → Bool
  | .code _ _ _ _ => true
  | _ => false
theorem all_split {L : List Jvm.Cond} {P : Jvm.Cond → Bool} (h1 : L.all (fun c => isCode c || P c) = true) (h2 : ∀ c ∈ L.filter isCode, P c = true) : L.all P = true := by
  refine List.all_eq_true.mpr fun c hc => ?_
  have h := List.all_eq_true.mp h1 c hc
  rcases Bool.eq_false_or_eq_true (isCode c) with hi | hi
  · exact h2 c (List.mem_filter.mpr ⟨hc, hi⟩)
  · simpa [hi] using h
set_option maxRecDepth 65536 in
theorem w_c0 : (Jvm.Cond.code x code maxLocals ret).before args0 about1 = true := code_word (m := ⟨1, 3⟩) (meth := k1m3) (c := k1c3) (by decide +kernel) rfl rfl rfl (by decide +kernel)
set_option maxRecDepth 65536 in
theorem w_c1 : (Jvm.Cond.code ({ cls := "com/example/rulewarden/rulewarden/model/IpAddressDecimalPinLaw", name := "ch", desc := "(I)C" } : Jvm.MethodName) method_2_code (1 : Nat) (Option.some Jvm.ClassFile.FieldType.char)).before args0 about1 = true := code_word (m := ⟨1, 1⟩) (meth := k1m1) (c := k1c1) (by decide +kernel) rfl rfl rfl (by decide +kernel)
set_option maxRecDepth 65536 in
theorem w_c2 : (Jvm.Cond.code ({ cls := "java/lang/String", name := "<init>", desc := "([C)V" } : Jvm.MethodName) jdk_42_method_3_code (2 : Nat) (Option.none : Option Jvm.ClassFile.FieldType)).before args0 about1 = true := code_word (m := ⟨7, 1⟩) (meth := k7m1) (c := k7c1) (by decide +kernel) rfl rfl rfl (by decide +kernel)
set_option maxRecDepth 65536 in
theorem w_c3 : (Jvm.Cond.code ({ cls := "java/lang/String", name := "<init>", desc := "([CIILjava/lang/Void;)V" } : Jvm.MethodName) jdk_42_method_149_code (6 : Nat) (Option.none : Option Jvm.ClassFile.FieldType)).before args0 about1 = true := code_word (m := ⟨7, 3⟩) (meth := k7m3) (c := k7c3) (by decide +kernel) rfl rfl rfl (by decide +kernel)
set_option maxRecDepth 65536 in
theorem w_c4 : (Jvm.Cond.code ({ cls := "java/lang/Object", name := "<init>", desc := "()V" } : Jvm.MethodName) object_method_1_code (1 : Nat) (Option.none : Option Jvm.ClassFile.FieldType)).before args0 about1 = true := code_word (m := ⟨0, 0⟩) (meth := k0m0) (c := k0c0) (by decide +kernel) rfl rfl rfl (by decide +kernel)
set_option maxRecDepth 65536 in
theorem w_c5 : (Jvm.Cond.code ({ cls := "java/lang/StringUTF16", name := "compress", desc := "([CII)[B" } : Jvm.MethodName) jdk_52_method_16_code (6 : Nat) (Option.some (Jvm.ClassFile.FieldType.array Jvm.ClassFile.FieldType.byte))).before args0 about1 = true := code_word (m := ⟨8, 8⟩) (meth := k8m8) (c := k8c8) (by decide +kernel) rfl rfl rfl (by decide +kernel)
set_option maxRecDepth 65536 in
theorem w_c6 : (Jvm.Cond.code ({ cls := "java/lang/StringUTF16", name := "compress", desc := "([CI[BII)I" } : Jvm.MethodName) jdk_52_method_21_code (7 : Nat) (Option.some Jvm.ClassFile.FieldType.int)).before args0 about1 = true := code_word (m := ⟨8, 9⟩) (meth := k8m9) (c := k8c9) (by decide +kernel) rfl rfl rfl (by decide +kernel)
set_option maxRecDepth 65536 in
theorem w_c7 : (Jvm.Cond.code ({ cls := "java/lang/StringUTF16", name := "coderFromArrayLen", desc := "([BI)B" } : Jvm.MethodName) jdk_52_method_15_code (2 : Nat) (Option.some Jvm.ClassFile.FieldType.byte)).before args0 about1 = true := code_word (m := ⟨8, 7⟩) (meth := k8m7) (c := k8c7) (by decide +kernel) rfl rfl rfl (by decide +kernel)
set_option maxRecDepth 65536 in
theorem w_c8 : (Jvm.Cond.code ({ cls := "com/example/rulewarden/rulewarden/model/IpAddress", name := "decimal", desc := "(Ljava/lang/String;II)I" } : Jvm.MethodName) prog_50_method_16_code (7 : Nat) (Option.some Jvm.ClassFile.FieldType.int)).before args0 about1 = true := code_word (m := ⟨9, 0⟩) (meth := k9m0) (c := k9c0) (by decide +kernel) rfl rfl rfl (by decide +kernel)
set_option maxRecDepth 65536 in
theorem w_c9 : (Jvm.Cond.code ({ cls := "java/lang/StringUTF16", name := "toBytes", desc := "([CII)[B" } : Jvm.MethodName) jdk_52_method_14_code (5 : Nat) (Option.some (Jvm.ClassFile.FieldType.array Jvm.ClassFile.FieldType.byte))).before args0 about1 = true := code_word (m := ⟨8, 6⟩) (meth := k8m6) (c := k8c6) (by decide +kernel) rfl rfl rfl (by decide +kernel)
set_option maxRecDepth 65536 in
theorem w_c10 : (Jvm.Cond.code ({ cls := "java/lang/StringUTF16", name := "newBytesFor", desc := "(I)[B" } : Jvm.MethodName) jdk_52_method_2_code (1 : Nat) (Option.some (Jvm.ClassFile.FieldType.array Jvm.ClassFile.FieldType.byte))).before args0 about1 = true := code_word (m := ⟨8, 1⟩) (meth := k8m1) (c := k8c1) (by decide +kernel) rfl rfl rfl (by decide +kernel)
set_option maxRecDepth 65536 in
theorem w_c11 : (Jvm.Cond.code ({ cls := "java/lang/StringUTF16", name := "newBytesLength", desc := "(I)I" } : Jvm.MethodName) jdk_52_method_3_code (1 : Nat) (Option.some Jvm.ClassFile.FieldType.int)).before args0 about1 = true := code_word (m := ⟨8, 2⟩) (meth := k8m2) (c := k8c2) (by decide +kernel) rfl rfl rfl (by decide +kernel)
set_option maxRecDepth 65536 in
theorem w_c12 : (Jvm.Cond.code ({ cls := "java/lang/StringUTF16", name := "putChar", desc := "([BII)V" } : Jvm.MethodName) jdk_52_method_4_code (3 : Nat) (Option.none : Option Jvm.ClassFile.FieldType)).before args0 about1 = true := code_word (m := ⟨8, 3⟩) (meth := k8m3) (c := k8c3) (by decide +kernel) rfl rfl rfl (by decide +kernel)
set_option maxRecDepth 65536 in
theorem w_c13 : (Jvm.Cond.code ({ cls := "java/lang/StringUTF16", name := "getChar", desc := "([BI)C" } : Jvm.MethodName) jdk_52_method_5_code (2 : Nat) (Option.some Jvm.ClassFile.FieldType.char)).before args0 about1 = true := code_word (m := ⟨8, 4⟩) (meth := k8m4) (c := k8c4) (by decide +kernel) rfl rfl rfl (by decide +kernel)
set_option maxRecDepth 65536 in
theorem w_c14 : (Jvm.Cond.code ({ cls := "com/example/rulewarden/rulewarden/model/IpAddressDecimalPinLaw", name := "dig", desc := "(C)I" } : Jvm.MethodName) method_3_code (1 : Nat) (Option.some Jvm.ClassFile.FieldType.int)).before args0 about1 = true := code_word (m := ⟨1, 2⟩) (meth := k1m2) (c := k1c2) (by decide +kernel) rfl rfl rfl (by decide +kernel)
set_option maxRecDepth 65536 in
theorem w_c15 : (Jvm.Cond.code ({ cls := "java/lang/String", name := "charAt", desc := "(I)C" } : Jvm.MethodName) jdk_42_method_56_code (2 : Nat) (Option.some Jvm.ClassFile.FieldType.char)).before args0 about1 = true := code_word (m := ⟨7, 2⟩) (meth := k7m2) (c := k7c2) (by decide +kernel) rfl rfl rfl (by decide +kernel)
set_option maxRecDepth 65536 in
theorem w_c16 : (Jvm.Cond.code ({ cls := "java/lang/String", name := "isLatin1", desc := "()Z" } : Jvm.MethodName) jdk_42_method_154_code (1 : Nat) (Option.some Jvm.ClassFile.FieldType.boolean)).before args0 about1 = true := code_word (m := ⟨7, 4⟩) (meth := k7m4) (c := k7c4) (by decide +kernel) rfl rfl rfl (by decide +kernel)
set_option maxRecDepth 65536 in
theorem w_c17 : (Jvm.Cond.code ({ cls := "java/lang/StringUTF16", name := "charAt", desc := "([BI)C" } : Jvm.MethodName) jdk_52_method_83_code (2 : Nat) (Option.some Jvm.ClassFile.FieldType.char)).before args0 about1 = true := code_word (m := ⟨8, 10⟩) (meth := k8m10) (c := k8c10) (by decide +kernel) rfl rfl rfl (by decide +kernel)
set_option maxRecDepth 65536 in
theorem w_c18 : (Jvm.Cond.code ({ cls := "java/lang/StringUTF16", name := "checkIndex", desc := "(I[B)V" } : Jvm.MethodName) jdk_52_method_91_code (2 : Nat) (Option.none : Option Jvm.ClassFile.FieldType)).before args0 about1 = true := code_word (m := ⟨8, 11⟩) (meth := k8m11) (c := k8c11) (by decide +kernel) rfl rfl rfl (by decide +kernel)
set_option maxRecDepth 65536 in
theorem w_c19 : (Jvm.Cond.code ({ cls := "java/lang/StringUTF16", name := "length", desc := "([B)I" } : Jvm.MethodName) jdk_52_method_6_code (1 : Nat) (Option.some Jvm.ClassFile.FieldType.int)).before args0 about1 = true := code_word (m := ⟨8, 5⟩) (meth := k8m5) (c := k8c5) (by decide +kernel) rfl rfl rfl (by decide +kernel)
set_option maxRecDepth 65536 in
theorem w_c20 : (Jvm.Cond.code ({ cls := "java/lang/String", name := "checkIndex", desc := "(II)V" } : Jvm.MethodName) jdk_42_method_155_code (2 : Nat) (Option.none : Option Jvm.ClassFile.FieldType)).before args0 about1 = true := code_word (m := ⟨7, 5⟩) (meth := k7m5) (c := k7c5) (by decide +kernel) rfl rfl rfl (by decide +kernel)
set_option maxRecDepth 65536 in
theorem w_c21 : (Jvm.Cond.code ({ cls := "jdk/internal/util/Preconditions", name := "checkIndex", desc := "(IILjava/util/function/BiFunction;)I" } : Jvm.MethodName) jdk_41_method_11_code (3 : Nat) (Option.some Jvm.ClassFile.FieldType.int)).before args0 about1 = true := code_word (m := ⟨10, 1⟩) (meth := k10m1) (c := k10c1) (by decide +kernel) rfl rfl rfl (by decide +kernel)
set_option maxRecDepth 65536 in
theorem w_c22 : (Jvm.Cond.code ({ cls := "java/lang/StringLatin1", name := "charAt", desc := "([BI)C" } : Jvm.MethodName) jdk_43_method_2_code (2 : Nat) (Option.some Jvm.ClassFile.FieldType.char)).before args0 about1 = true := code_word (m := ⟨11, 1⟩) (meth := k11m1) (c := k11c1) (by decide +kernel) rfl rfl rfl (by decide +kernel)
def codes1 : List Jvm.Cond := [Jvm.Cond.code x code maxLocals ret, Jvm.Cond.code ({ cls := "com/example/rulewarden/rulewarden/model/IpAddressDecimalPinLaw", name := "ch", desc := "(I)C" } : Jvm.MethodName) method_2_code (1 : Nat) (Option.some Jvm.ClassFile.FieldType.char), Jvm.Cond.code ({ cls := "java/lang/String", name := "<init>", desc := "([C)V" } : Jvm.MethodName) jdk_42_method_3_code (2 : Nat) (Option.none : Option Jvm.ClassFile.FieldType), Jvm.Cond.code ({ cls := "java/lang/String", name := "<init>", desc := "([CIILjava/lang/Void;)V" } : Jvm.MethodName) jdk_42_method_149_code (6 : Nat) (Option.none : Option Jvm.ClassFile.FieldType), Jvm.Cond.code ({ cls := "java/lang/Object", name := "<init>", desc := "()V" } : Jvm.MethodName) object_method_1_code (1 : Nat) (Option.none : Option Jvm.ClassFile.FieldType), Jvm.Cond.code ({ cls := "java/lang/StringUTF16", name := "compress", desc := "([CII)[B" } : Jvm.MethodName) jdk_52_method_16_code (6 : Nat) (Option.some (Jvm.ClassFile.FieldType.array Jvm.ClassFile.FieldType.byte)), Jvm.Cond.code ({ cls := "java/lang/StringUTF16", name := "compress", desc := "([CI[BII)I" } : Jvm.MethodName) jdk_52_method_21_code (7 : Nat) (Option.some Jvm.ClassFile.FieldType.int), Jvm.Cond.code ({ cls := "java/lang/StringUTF16", name := "coderFromArrayLen", desc := "([BI)B" } : Jvm.MethodName) jdk_52_method_15_code (2 : Nat) (Option.some Jvm.ClassFile.FieldType.byte), Jvm.Cond.code ({ cls := "com/example/rulewarden/rulewarden/model/IpAddress", name := "decimal", desc := "(Ljava/lang/String;II)I" } : Jvm.MethodName) prog_50_method_16_code (7 : Nat) (Option.some Jvm.ClassFile.FieldType.int), Jvm.Cond.code ({ cls := "java/lang/StringUTF16", name := "toBytes", desc := "([CII)[B" } : Jvm.MethodName) jdk_52_method_14_code (5 : Nat) (Option.some (Jvm.ClassFile.FieldType.array Jvm.ClassFile.FieldType.byte)), Jvm.Cond.code ({ cls := "java/lang/StringUTF16", name := "newBytesFor", desc := "(I)[B" } : Jvm.MethodName) jdk_52_method_2_code (1 : Nat) (Option.some (Jvm.ClassFile.FieldType.array Jvm.ClassFile.FieldType.byte)), Jvm.Cond.code ({ cls := "java/lang/StringUTF16", name := "newBytesLength", desc := "(I)I" } : Jvm.MethodName) jdk_52_method_3_code (1 : Nat) (Option.some Jvm.ClassFile.FieldType.int), Jvm.Cond.code ({ cls := "java/lang/StringUTF16", name := "putChar", desc := "([BII)V" } : Jvm.MethodName) jdk_52_method_4_code (3 : Nat) (Option.none : Option Jvm.ClassFile.FieldType), Jvm.Cond.code ({ cls := "java/lang/StringUTF16", name := "getChar", desc := "([BI)C" } : Jvm.MethodName) jdk_52_method_5_code (2 : Nat) (Option.some Jvm.ClassFile.FieldType.char), Jvm.Cond.code ({ cls := "com/example/rulewarden/rulewarden/model/IpAddressDecimalPinLaw", name := "dig", desc := "(C)I" } : Jvm.MethodName) method_3_code (1 : Nat) (Option.some Jvm.ClassFile.FieldType.int), Jvm.Cond.code ({ cls := "java/lang/String", name := "charAt", desc := "(I)C" } : Jvm.MethodName) jdk_42_method_56_code (2 : Nat) (Option.some Jvm.ClassFile.FieldType.char), Jvm.Cond.code ({ cls := "java/lang/String", name := "isLatin1", desc := "()Z" } : Jvm.MethodName) jdk_42_method_154_code (1 : Nat) (Option.some Jvm.ClassFile.FieldType.boolean), Jvm.Cond.code ({ cls := "java/lang/StringUTF16", name := "charAt", desc := "([BI)C" } : Jvm.MethodName) jdk_52_method_83_code (2 : Nat) (Option.some Jvm.ClassFile.FieldType.char), Jvm.Cond.code ({ cls := "java/lang/StringUTF16", name := "checkIndex", desc := "(I[B)V" } : Jvm.MethodName) jdk_52_method_91_code (2 : Nat) (Option.none : Option Jvm.ClassFile.FieldType), Jvm.Cond.code ({ cls := "java/lang/StringUTF16", name := "length", desc := "([B)I" } : Jvm.MethodName) jdk_52_method_6_code (1 : Nat) (Option.some Jvm.ClassFile.FieldType.int), Jvm.Cond.code ({ cls := "java/lang/String", name := "checkIndex", desc := "(II)V" } : Jvm.MethodName) jdk_42_method_155_code (2 : Nat) (Option.none : Option Jvm.ClassFile.FieldType), Jvm.Cond.code ({ cls := "jdk/internal/util/Preconditions", name := "checkIndex", desc := "(IILjava/util/function/BiFunction;)I" } : Jvm.MethodName) jdk_41_method_11_code (3 : Nat) (Option.some Jvm.ClassFile.FieldType.int), Jvm.Cond.code ({ cls := "java/lang/StringLatin1", name := "charAt", desc := "([BI)C" } : Jvm.MethodName) jdk_43_method_2_code (2 : Nat) (Option.some Jvm.ClassFile.FieldType.char)]
set_option maxRecDepth 65536 in
theorem codes_eq : words1.filter isCode = codes1 := rfl
theorem w_codes : ∀ c ∈ words1.filter isCode, c.before args0 about1 = true := by
  rw [codes_eq]
  intro c hc
  simp only [codes1, List.mem_cons, List.not_mem_nil, or_false] at hc
  rcases hc with rfl | rfl | rfl | rfl | rfl | rfl | rfl | rfl | rfl | rfl | rfl | rfl | rfl | rfl | rfl | rfl | rfl | rfl | rfl | rfl | rfl | rfl | rfl
  · exact w_c0
  · exact w_c1
  · exact w_c2
  · exact w_c3
  · exact w_c4
  · exact w_c5
  · exact w_c6
  · exact w_c7
  · exact w_c8
  · exact w_c9
  · exact w_c10
  · exact w_c11
  · exact w_c12
  · exact w_c13
  · exact w_c14
  · exact w_c15
  · exact w_c16
  · exact w_c17
  · exact w_c18
  · exact w_c19
  · exact w_c20
  · exact w_c21
  · exact w_c22
set_option maxRecDepth 65536 in
theorem w_t1 : (words1.take 24).all (fun c => isCode c || c.before args0 about1) = true := by decide +kernel
set_option maxRecDepth 65536 in
theorem w_t2 : ((words1.drop 24).take 24).all (fun c => isCode c || c.before args0 about1) = true := by decide +kernel
set_option maxRecDepth 65536 in
theorem w_t3 : (((words1.drop 24).drop 24).take 24).all (fun c => isCode c || c.before args0 about1) = true := by decide +kernel
set_option maxRecDepth 65536 in
theorem w_t4 : (((words1.drop 24).drop 24).drop 24).all (fun c => isCode c || c.before args0 about1) = true := by decide +kernel
theorem w_tables : (allAtoms (Jvm.Cond.code x code maxLocals ret :: tables_1)).before args0 about1 = true := by
  rw [allAtoms_all]
  show words1.all (fun c => c.before args0 about1) = true
  refine all_split ?_ w_codes
  rw [← List.take_append_drop 24 words1, List.all_append, w_t1, ← List.take_append_drop 24 (words1.drop 24), List.all_append, w_t2, ← List.take_append_drop 24 ((words1.drop 24).drop 24), List.all_append, w_t3, w_t4]
  rfl
set_option maxRecDepth 65536 in
theorem w_rest : rest_1_c.before args0 about1 = true := by decide +kernel
set_option maxRecDepth 65536 in
theorem w_case : (Jvm.Cond.and given_1 narrow_1).before args0 about1 = true := by decide +kernel
theorem w_applies : (headSpec (Jvm.Cond.code x code maxLocals ret :: tables_1) room_1).applies x e0.platform about1 = true :=
  (Spec.applies_iff w_frames).mpr ⟨w_running, w_runnable, w_alone, w_named, w_hears, w_ripe, w_room, w_tables⟩
theorem atStart : AtStart classFile x code maxLocals ret World_1 tables_1 room_1 Calls_1 rest_1 Pre_1 launch0 p0 e0 about1 theMethod args0 below0 :=
  ⟨lists_1, trivial, launch0.admits_env _ _ _, launch0.least_env, fairChoices_fair.cas, fairChoices_fair.clock, w_frames, w_args, w_heap, w_applies, trivial, w_rest, w_case⟩
end start1
theorem witness_1 : WitnessClaimed_1 := ⟨start1.p0, start1.e0, start1.about1, start1.theMethod, start1.args0, start1.below0, start1.atStart⟩
end Jvm.Pilot.@@N@@
