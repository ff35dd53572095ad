import JvmDerived
import JvmDerived.Pilot.@@N@@Statement
import JvmDerived.Pilot.@@N@@Code
set_option linter.unusedVariables false
set_option linter.unusedSimpArgs false
namespace Jvm.OwnK
open Jvm Sem ClassFile Op Lib Jvm.Free Jvm.Stand Jvm.LawKit Jvm.RoadKit Bundle
/-! OwnK: a body's walk as a judgement. 'Go .. SF h k n pc Ls st': from the place pc, with the locals Ls and the operands st, over the heap h (SF: what this walk may write; k cells and n slots made so far), the body ends, and Q holds of what it returns and of the heap. One rule a step; a callee by 'Met'. -/
def Own (Z : State) (EL : List (String × Nat)) (n0 : Nat) (h0 : Heap) (WS : List Addr) (vm : Vm) (h : Heap) (SF : List Addr) : Prop := ∀ x ∈ SF, (n0 ≤ x ∧ x < h.size ∧ (x ∈ WS ∨ h0.size ≤ x)) ∧ Safe Z EL vm h x
def Cor (Z : State) (EL : List (String × Nat)) (n0 : Nat) (nr : Bool) (h0 : Heap) (WS SF : List Addr) (h : Heap) (s : State) (vm0 : Vm) (k0 : Nat) (locs : List Loc) : Prop :=
  Z.Warmed39 vm0 ∧ (s.Since vm0 k0 ∧ k0 ≤ h.size) ∧ Fr n0 locs ∧ CHr Z EL s.vm h0 vm0 h ∧ Own Z EL n0 h0 WS vm0 h SF ∧ (nr = true → s.WarmedH vm0) ∧ (Z.heap.size = n0 ∧ Ext Z.heap h) ∧ Keep h0 h WS ∧ s.heap = h0 ∧ ∃ a0, EW Z a0 EL
def Pst (Z : State) (EL : List (String × Nat)) (n0 : Nat) (nr : Bool) (R : Room) (h0 : Heap) (WS : List Addr) (Q : Option Value → Heap → List Addr → Prop) (s : State) (o : Outcome) (t : State) : Prop :=
  ∃ v L SN, o = .returned v ∧ Q v t.heap SN ∧ Fr n0 L ∧ Keep h0 t.heap WS ∧ (∀ x ∈ SN, (h0.size ≤ x ∧ x < t.heap.size) ∧ Safe Z EL t.vm t.heap x) ∧ CHr Z EL s.vm h0 t.vm t.heap ∧ (nr = true → s.WarmedH t.vm) ∧ ReturnedEndW s o t L R.cells R.slots
def Run (l : Launch) (Z : State) (EL : List (String × Nat)) (n0 : Nat) (nr kn : Bool) (y : MethodName) (bytes : ByteArray) (mL : Nat) (ret : Option FieldType) (R : Room) (h0 : Heap) (WS SF : List Addr) (h : Heap) (k n : Nat)
    (p : Program) (e : Env) (s : State) (m : MethodId) (args : Array Value) (below : List Frame) (meth : Method) (c : Code) (T : State) : Prop :=
  (p.tables.exec = Jvm.exec ∧ c.code = bytes ∧ c.maxLocals = mL ∧ s.vm.findClass y.cls = some m.cls ∧ meth.name = y.name ∧ meth.sig.returnType = ret ∧ meth.locks = false ∧ (kn = true → s.vm.MethodsKnown ∧ s.vm.FramesKnown below)) ∧
  ∃ vm0 k0 locs, Stand p l e R (s.setVm vm0) m args below meth c T locs k n ∧ T.heap = h ∧ Cor Z EL n0 nr h0 WS SF h s vm0 k0 locs
def Go (l : Launch) (Z : State) (EL : List (String × Nat)) (n0 : Nat) (nr kn : Bool) (y : MethodName) (bytes : ByteArray) (mL : Nat) (ret : Option FieldType) (R : Room) (h0 : Heap) (WS : List Addr) (Q : Option Value → Heap → List Addr → Prop)
    (SF : List Addr) (h : Heap) (k n : Nat) (pc : Nat) (Ls : Array Slot) (st : List Value) : Prop :=
  ∀ (p : Program) (e : Env) (s : State) (m : MethodId) (args : Array Value) (below : List Frame) (meth : Method) (c : Code) (T : State), Run l Z EL n0 nr kn y bytes mL ret R h0 WS SF h k n p e s m args below meth c T →
    ∃ t o, Steps p.tables e below (T.setTop (mkF m pc Ls st)) t ∧ t.status = .running ∧ Ended t below o ∧ Pst Z EL n0 nr R h0 WS Q s o t
def Met (l : Launch) (Z : State) (EL : List (String × Nat)) (n0 : Nat) (nr kn : Bool) (y : MethodName) (bytes : ByteArray) (mL : Nat) (ret : Option FieldType) (R : Room) (WS : List Addr) (as' : Array Value) (h : Heap) (Q : Option Value → Heap → List Addr → Prop) : Prop :=
  ∀ ws : List Jvm.Cond, MetFree l y (head1 (Jvm.Cond.code y bytes mL ret :: ws) R)
    (fun a U => a = as' ∧ Z.Warmed39 U.vm ∧ U.heap = h ∧ CHv Z EL U.vm h ∧ (∀ x ∈ WS, (n0 ≤ x ∧ x < h.size) ∧ Safe Z EL U.vm h x) ∧ (Z.heap.size = n0 ∧ Ext Z.heap h) ∧ ∃ a0, EW Z a0 EL)
    (fun _ _ bl s _ => kn = true → s.vm.MethodsKnown ∧ s.vm.FramesKnown bl) (fun _ U o U' => Pst Z EL n0 nr R h WS Q U o U')
def Pays (l : Launch) (Z : State) (EL : List (String × Nat)) (n0 : Nat) (nr kn : Bool) (R : Room) (len : Nat) (z : MethodName) (W ck cn : Nat) (ws : List Addr) (as' : Array Value) (h : Heap) (Q : Option Value → Heap → List Addr → Prop) : Prop :=
  ∀ (p : Program) (e : Env) (below : List Frame) (s : State) (args : Array Value) (vm0 : Vm), p.tables.exec = Jvm.exec → Z.Warmed39 vm0 → CHv Z EL vm0 h → (∀ x ∈ ws, (n0 ≤ x ∧ x < h.size) ∧ Safe Z EL vm0 h x) → (Z.heap.size = n0 ∧ Ext Z.heap h) → (∃ a0, EW Z a0 EL) →
    (kn = true → vm0.MethodsKnown ∧ vm0.FramesKnown below) →
    BackS l R p e below (s.setVm vm0) args z len W (fun A a => a = as' ∧ A.U.heap = h ∧ A.cells + ck ≤ R.cells ∧ A.slots + cn ≤ R.slots)
      (fun A _ v B => ∃ L SN, Q v B.U.heap SN ∧ Fr n0 L ∧ Keep h B.U.heap ws ∧ (∀ x ∈ SN, (h.size ≤ x ∧ x < B.U.heap.size) ∧ Safe Z EL B.U.vm B.U.heap x) ∧ CHr Z EL vm0 h B.U.vm B.U.heap ∧ (nr = true → (s.setVm vm0).WarmedH B.U.vm) ∧ B.locs = A.locs ++ L ∧ B.cells = A.cells + ck ∧ B.slots = A.slots + cn)
def Mr (Z : State) (CC : String) (m : Addr) : Prop := ∃ (c : ClassId) (k : Class), Z.vm.findClass CC = some c ∧ Z.vm.classes[c]? = some k ∧ k.mirror = some m
section Rules
variable {l : Launch} {Z : State} {EL : List (String × Nat)} {n0 : Nat} {nr kn : Bool} {y : MethodName} {bytes : ByteArray} {mL : Nat} {ret : Option FieldType} {R : Room} {h0 : Heap} {WS : List Addr} {Q : Option Value → Heap → List Addr → Prop} {SF : List Addr} {h h' : Heap} {k n : Nat} {pc pc' : Nat} {Ls Ls' : Array Slot} {st rest : List Value} {a0 : Array Value} {s : State} {vm0 vm1 : Vm} {k0 : Nat} {locs : List Loc}
theorem Cor.ext (C : Cor Z EL n0 nr h0 WS SF h s vm0 k0 locs) (E : Ext h h') : Cor Z EL n0 nr h0 WS SF h' s vm0 k0 locs := by
  obtain ⟨c1, ⟨c2, c2'⟩, c3, c4, c5, c6, ⟨c7, c7'⟩, c8, c9, c10⟩ := C
  exact ⟨c1, ⟨c2, Nat.le_trans c2' E.1⟩, c3, c4.trans (CHr.ext E c4.1), fun x hx => ⟨⟨(c5 x hx).1.1, Nat.lt_of_lt_of_le (c5 x hx).1.2.1 E.1, (c5 x hx).1.2.2⟩, Safe.ext E c4.1 (c5 x hx).2⟩, c6, ⟨c7, Nat.le_trans c7'.1 E.1, fun a c q => E.2 a c (c7'.2 a c q)⟩, c8.ext E, c9, c10⟩
theorem Cor.push (C : Cor Z EL n0 nr h0 WS SF h s vm0 k0 locs) (E : Ext h h') (hlt : h.size < h'.size) : Cor Z EL n0 nr h0 WS (h.size :: SF) h' s vm0 k0 locs := by
  have D := C.ext E
  obtain ⟨c1, c2, c3, c4, c5, c6, ⟨c7, c7'⟩, c8, c9, c10⟩ := C
  obtain ⟨d1, d2, d3, d4, d5, d6, d7, d8, d9, d10⟩ := D
  refine ⟨d1, d2, d3, d4, fun x hx => ?_, d6, d7, d8, d9, d10⟩
  rcases List.mem_cons.mp hx with rfl | hx
  · exact ⟨⟨c7 ▸ c7'.1, hlt, Or.inr c8.1⟩, Safe.ext E c4.1 (Safe.new (Nat.le_refl _))⟩
  · exact d5 x hx
theorem Cor.wr {a : Addr} {sl : Nat} {v : Value} (C : Cor Z EL n0 nr h0 WS SF h s vm0 k0 locs) (W : Wr h h' a sl v) (ha : a ∈ SF) : Cor Z EL n0 nr h0 WS SF h' s vm0 k0 (locs ++ [⟨a, sl⟩]) := by
  obtain ⟨c1, ⟨c2, c2'⟩, c3, c4, c5, c6, ⟨c7, c7'⟩, c8, c9, c10⟩ := C
  have S := (c5 a ha).2
  have O : Old Z n0 h := ⟨c7, c7'⟩
  refine ⟨c1, ⟨c2, by rw [W.size]; exact c2'⟩, c3.app fun z hz => by cases List.mem_singleton.mp hz; exact (c5 a ha).1.1, c4.trans (CHr.wr W S c4.1), fun x hx => ⟨⟨(c5 x hx).1.1, by rw [W.size]; exact (c5 x hx).1.2.1, (c5 x hx).1.2.2⟩, Safe.wr W S c4.1 (c5 x hx).2⟩, c6, O.wr W (c5 a ha).1.1, c8.wr W (c5 a ha).1.2.2, c9, c10⟩
theorem Cor.keep {ws SN : List Addr} {L : List Loc} {k1 : Nat} (C : Cor Z EL n0 nr h0 WS SF h s vm0 k0 locs) (K : Keep h h' ws) (hws : ∀ x ∈ ws, x ∈ SF) (hL : Fr n0 L) (hC : CHr Z EL vm0 h vm1 h') (hZ : Z.Warmed39 vm1) (hS : s.Since vm1 k1) (hk : k1 ≤ h'.size) (hN : nr = true → s.WarmedH vm1)
    (hSN : ∀ x ∈ SN, (h.size ≤ x ∧ x < h'.size) ∧ Safe Z EL vm1 h' x) : Cor Z EL n0 nr h0 WS (SN ++ SF) h' s vm1 k1 (locs ++ L) := by
  obtain ⟨c1, ⟨c2, c2'⟩, c3, c4, c5, c6, ⟨c7, c7'⟩, c8, c9, c10⟩ := C
  have O : Old Z n0 h := ⟨c7, c7'⟩
  refine ⟨hZ, ⟨hS, hk⟩, c3.app hL, c4.trans hC, fun x hx => ?_, hN, O.keep K fun x hx => (c5 x (hws x hx)).1.1, c8.trans K fun x hx => (c5 x (hws x hx)).1.2.2, c9, c10⟩
  rcases List.mem_append.mp hx with hx | hx
  · obtain ⟨⟨q1, q2⟩, q3⟩ := hSN x hx
    exact ⟨⟨Nat.le_trans (c7 ▸ c7'.1) q1, q2, Or.inr (Nat.le_trans c8.1 q1)⟩, q3⟩
  · exact ⟨⟨(c5 x hx).1.1, Nat.lt_of_lt_of_le (c5 x hx).1.2.1 K.1, (c5 x hx).1.2.2⟩, hC.safe (c5 x hx).1.2.1 (c5 x hx).2⟩
theorem Go.inv (K : (Z.heap.size = n0 ∧ Ext Z.heap h) → Keep h0 h WS → (∀ x ∈ SF, n0 ≤ x ∧ x < h.size ∧ (x ∈ WS ∨ h0.size ≤ x)) → Go l Z EL n0 nr kn y bytes mL ret R h0 WS Q SF h k n pc Ls st) : Go l Z EL n0 nr kn y bytes mL ret R h0 WS Q SF h k n pc Ls st := by
  intro p e s m args below meth c T hR
  obtain ⟨hA, vm0, k0, locs, X, e0, C⟩ := hR
  exact K C.2.2.2.2.2.2.1 C.2.2.2.2.2.2.2.1 (fun x hx => (C.2.2.2.2.1 x hx).1) p e s m args below meth c T ⟨hA, vm0, k0, locs, X, e0, C⟩
theorem Go.more {k' n' : Nat} (hk : k ≤ k') (hn : n ≤ n') (K : Go l Z EL n0 nr kn y bytes mL ret R h0 WS Q SF h k' n' pc Ls st) : Go l Z EL n0 nr kn y bytes mL ret R h0 WS Q SF h k n pc Ls st := by
  intro p e s m args below meth c T hR
  obtain ⟨hA, vm0, k0, locs, X, e0, C⟩ := hR
  exact K p e s m args below meth c T ⟨hA, vm0, k0, locs, X.more hk hn, e0, C⟩
theorem Go.fewer {SF' : List Addr} (hs : ∀ x ∈ SF', x ∈ SF) (K : Go l Z EL n0 nr kn y bytes mL ret R h0 WS Q SF' h k n pc Ls st) : Go l Z EL n0 nr kn y bytes mL ret R h0 WS Q SF h k n pc Ls st := by
  intro p e s m args below meth c T hR
  obtain ⟨hA, vm0, k0, locs, X, e0, c1, c2, c3, c4, c5, r⟩ := hR
  exact K p e s m args below meth c T ⟨hA, vm0, k0, locs, X, e0, c1, c2, c3, c4, fun x hx => c5 x (hs x hx), r⟩
theorem Go.plain {st' : List Value} (H : ∀ (p : Program) (e : Env) (below : List Frame) (T : State) (m : MethodId) (c : Code) (target : State), At T m c below → p.tables.exec = Jvm.exec → c.code = bytes → Steps p.tables e below (T.setTop (mkF m pc' Ls' st')) target → Steps p.tables e below (T.setTop (mkF m pc Ls st)) target)
    (K : Go l Z EL n0 nr kn y bytes mL ret R h0 WS Q SF h k n pc' Ls' st') : Go l Z EL n0 nr kn y bytes mL ret R h0 WS Q SF h k n pc Ls st := by
  intro p e s m args below meth c T hR
  obtain ⟨t, o, hs, r⟩ := K p e s m args below meth c T hR
  obtain ⟨⟨hx, hb, -⟩, vm0, k0, locs, X, -⟩ := hR
  exact ⟨t, o, H p e below T m c t X.here hx hb hs, r⟩

theorem Go.aload_n {i : Fin 4} {v : Value} (hd : decode bytes pc = .ok (.aload_n i, 1)) (hq : pc + 1 = pc') (hl : Ls[i.val]? = some (.val v)) (hv : v.isRef = true) (K : Go l Z EL n0 nr kn y bytes mL ret R h0 WS Q SF h k n pc' Ls (v :: st)) : Go l Z EL n0 nr kn y bytes mL ret R h0 WS Q SF h k n pc Ls st :=
  Go.plain (fun p e below T m c target hA hx hb hk => XS.aloadN hA hx rfl (hb ▸ hd) hl hv (by subst hq; exact hk)) K
theorem Go.aload {i : Nat} {v : Value} (hd : decode bytes pc = .ok (.aload i, 2)) (hq : pc + 2 = pc') (hl : Ls[i]? = some (.val v)) (hv : v.isRef = true) (K : Go l Z EL n0 nr kn y bytes mL ret R h0 WS Q SF h k n pc' Ls (v :: st)) : Go l Z EL n0 nr kn y bytes mL ret R h0 WS Q SF h k n pc Ls st :=
  Go.plain (fun p e below T m c target hA hx hb hk => XS.aload hA hx rfl (hb ▸ hd) hl hv (by subst hq; exact hk)) K
theorem Go.iload_n {i : Fin 4} {v : Int32} (hd : decode bytes pc = .ok (.iload_n i, 1)) (hq : pc + 1 = pc') (hl : Ls[i.val]? = some (.val (.int v))) (K : Go l Z EL n0 nr kn y bytes mL ret R h0 WS Q SF h k n pc' Ls (.int v :: st)) : Go l Z EL n0 nr kn y bytes mL ret R h0 WS Q SF h k n pc Ls st :=
  Go.plain (fun p e below T m c target hA hx hb hk => XS.iloadN hA hx rfl (hb ▸ hd) hl (by subst hq; exact hk)) K
theorem Go.iload {i : Nat} {v : Int32} (hd : decode bytes pc = .ok (.iload i, 2)) (hq : pc + 2 = pc') (hl : Ls[i]? = some (.val (.int v))) (K : Go l Z EL n0 nr kn y bytes mL ret R h0 WS Q SF h k n pc' Ls (.int v :: st)) : Go l Z EL n0 nr kn y bytes mL ret R h0 WS Q SF h k n pc Ls st :=
  Go.plain (fun p e below T m c target hA hx hb hk => XS.iload hA hx rfl (hb ▸ hd) hl (by subst hq; exact hk)) K
theorem Go.lload_n {i : Fin 4} {v : Int64} (hd : decode bytes pc = .ok (.lload_n i, 1)) (hq : pc + 1 = pc') (hl : Ls[i.val]? = some (.val (.long v))) (K : Go l Z EL n0 nr kn y bytes mL ret R h0 WS Q SF h k n pc' Ls (.long v :: st)) : Go l Z EL n0 nr kn y bytes mL ret R h0 WS Q SF h k n pc Ls st :=
  Go.plain (fun p e below T m c target hA hx hb hk => XS.lloadN hA hx rfl (hb ▸ hd) hl (by subst hq; exact hk)) K
theorem Go.iconst {i : Int} {v : Int32} (hd : decode bytes pc = .ok (.iconst i, 1)) (hq : pc + 1 = pc') (hv : Int32.ofInt i = v) (K : Go l Z EL n0 nr kn y bytes mL ret R h0 WS Q SF h k n pc' Ls (.int v :: st)) : Go l Z EL n0 nr kn y bytes mL ret R h0 WS Q SF h k n pc Ls st :=
  Go.plain (fun p e below T m c target hA hx hb hk => XS.iconst hA hx rfl (hb ▸ hd) (by subst hq; subst hv; exact hk)) K
theorem Go.bipush {i : Int} {v : Int32} (hd : decode bytes pc = .ok (.bipush i, 2)) (hq : pc + 2 = pc') (hv : (Int8.ofInt i).toInt32 = v) (K : Go l Z EL n0 nr kn y bytes mL ret R h0 WS Q SF h k n pc' Ls (.int v :: st)) : Go l Z EL n0 nr kn y bytes mL ret R h0 WS Q SF h k n pc Ls st :=
  Go.plain (fun p e below T m c target hA hx hb hk => XS.bipush hA hx rfl (hb ▸ hd) (by subst hq; subst hv; exact hk)) K
theorem Go.sipush {i : Int} {v : Int32} (hd : decode bytes pc = .ok (.sipush i, 3)) (hq : pc + 3 = pc') (hv : (Int16.ofInt i).toInt32 = v) (K : Go l Z EL n0 nr kn y bytes mL ret R h0 WS Q SF h k n pc' Ls (.int v :: st)) : Go l Z EL n0 nr kn y bytes mL ret R h0 WS Q SF h k n pc Ls st :=
  Go.plain (fun p e below T m c target hA hx hb hk => XS.sipush hA hx rfl (hb ▸ hd) (by subst hq; subst hv; exact hk)) K
theorem Go.aconst_null (hd : decode bytes pc = .ok (.aconst_null, 1)) (hq : pc + 1 = pc') (K : Go l Z EL n0 nr kn y bytes mL ret R h0 WS Q SF h k n pc' Ls (.null :: st)) : Go l Z EL n0 nr kn y bytes mL ret R h0 WS Q SF h k n pc Ls st :=
  Go.plain (fun p e below T m c target hA hx hb hk => XS.aconstNull hA hx rfl (hb ▸ hd) (by subst hq; exact hk)) K
theorem Go.iadd {x z : Int32} (hd : decode bytes pc = .ok (.iadd, 1)) (hq : pc + 1 = pc') (K : Go l Z EL n0 nr kn y bytes mL ret R h0 WS Q SF h k n pc' Ls (.int (x + z) :: st)) : Go l Z EL n0 nr kn y bytes mL ret R h0 WS Q SF h k n pc Ls (.int z :: .int x :: st) :=
  Go.plain (fun p e below T m c target hA hx hb hk => XS.iadd hA hx rfl (hb ▸ hd) rfl (by subst hq; exact hk)) K
theorem Go.isub {x z : Int32} (hd : decode bytes pc = .ok (.isub, 1)) (hq : pc + 1 = pc') (K : Go l Z EL n0 nr kn y bytes mL ret R h0 WS Q SF h k n pc' Ls (.int (x - z) :: st)) : Go l Z EL n0 nr kn y bytes mL ret R h0 WS Q SF h k n pc Ls (.int z :: .int x :: st) :=
  Go.plain (fun p e below T m c target hA hx hb hk => XS.isub hA hx rfl (hb ▸ hd) rfl (by subst hq; exact hk)) K
theorem Go.iand {x z : Int32} (hd : decode bytes pc = .ok (.iand, 1)) (hq : pc + 1 = pc') (K : Go l Z EL n0 nr kn y bytes mL ret R h0 WS Q SF h k n pc' Ls (.int (x &&& z) :: st)) : Go l Z EL n0 nr kn y bytes mL ret R h0 WS Q SF h k n pc Ls (.int z :: .int x :: st) :=
  Go.plain (fun p e below T m c target hA hx hb hk => XS.iand hA hx rfl (hb ▸ hd) rfl (by subst hq; exact hk)) K
theorem Go.imul {x z : Int32} (hd : decode bytes pc = .ok (.imul, 1)) (hq : pc + 1 = pc') (K : Go l Z EL n0 nr kn y bytes mL ret R h0 WS Q SF h k n pc' Ls (.int (x * z) :: st)) : Go l Z EL n0 nr kn y bytes mL ret R h0 WS Q SF h k n pc Ls (.int z :: .int x :: st) :=
  Go.plain (fun p e below T m c target hA hx hb hk => XS.imul hA hx rfl (hb ▸ hd) rfl (by subst hq; exact hk)) K
theorem Go.ior {x z : Int32} (hd : decode bytes pc = .ok (.ior, 1)) (hq : pc + 1 = pc') (K : Go l Z EL n0 nr kn y bytes mL ret R h0 WS Q SF h k n pc' Ls (.int (x ||| z) :: st)) : Go l Z EL n0 nr kn y bytes mL ret R h0 WS Q SF h k n pc Ls (.int z :: .int x :: st) :=
  Go.plain (fun p e below T m c target hA hx hb hk => XS.ior hA hx rfl (hb ▸ hd) rfl (by subst hq; exact hk)) K
theorem Go.ixor {x z : Int32} (hd : decode bytes pc = .ok (.ixor, 1)) (hq : pc + 1 = pc') (K : Go l Z EL n0 nr kn y bytes mL ret R h0 WS Q SF h k n pc' Ls (.int (x ^^^ z) :: st)) : Go l Z EL n0 nr kn y bytes mL ret R h0 WS Q SF h k n pc Ls (.int z :: .int x :: st) :=
  Go.plain (fun p e below T m c target hA hx hb hk => XS.ixor hA hx rfl (hb ▸ hd) rfl (by subst hq; exact hk)) K
theorem Go.ishl {x z : Int32} (hd : decode bytes pc = .ok (.ishl, 1)) (hq : pc + 1 = pc') (K : Go l Z EL n0 nr kn y bytes mL ret R h0 WS Q SF h k n pc' Ls (.int (x <<< (z &&& 31)) :: st)) : Go l Z EL n0 nr kn y bytes mL ret R h0 WS Q SF h k n pc Ls (.int z :: .int x :: st) :=
  Go.plain (fun p e below T m c target hA hx hb hk => XS.ishl hA hx rfl (hb ▸ hd) rfl (by subst hq; exact hk)) K
theorem Go.ishr {x z : Int32} (hd : decode bytes pc = .ok (.ishr, 1)) (hq : pc + 1 = pc') (K : Go l Z EL n0 nr kn y bytes mL ret R h0 WS Q SF h k n pc' Ls (.int (x >>> (z &&& 31)) :: st)) : Go l Z EL n0 nr kn y bytes mL ret R h0 WS Q SF h k n pc Ls (.int z :: .int x :: st) :=
  Go.plain (fun p e below T m c target hA hx hb hk => XS.ishr hA hx rfl (hb ▸ hd) rfl (by subst hq; exact hk)) K
theorem Go.iushr {x z : Int32} (hd : decode bytes pc = .ok (.iushr, 1)) (hq : pc + 1 = pc') (K : Go l Z EL n0 nr kn y bytes mL ret R h0 WS Q SF h k n pc' Ls (.int ((x.toUInt32 >>> (z &&& 31).toUInt32).toInt32) :: st)) : Go l Z EL n0 nr kn y bytes mL ret R h0 WS Q SF h k n pc Ls (.int z :: .int x :: st) :=
  Go.plain (fun p e below T m c target hA hx hb hk => XS.iushr hA hx rfl (hb ▸ hd) rfl (by subst hq; exact hk)) K
theorem Go.ineg {x : Int32} (hd : decode bytes pc = .ok (.ineg, 1)) (hq : pc + 1 = pc') (K : Go l Z EL n0 nr kn y bytes mL ret R h0 WS Q SF h k n pc' Ls (.int (-x) :: st)) : Go l Z EL n0 nr kn y bytes mL ret R h0 WS Q SF h k n pc Ls (.int x :: st) :=
  Go.plain (fun p e below T m c target hA hx hb hk => XS.ineg hA hx rfl (hb ▸ hd) rfl (by subst hq; exact hk)) K
theorem Go.i2b {x : Int32} (hd : decode bytes pc = .ok (.i2b, 1)) (hq : pc + 1 = pc') (K : Go l Z EL n0 nr kn y bytes mL ret R h0 WS Q SF h k n pc' Ls (.int x.toInt8.toInt32 :: st)) : Go l Z EL n0 nr kn y bytes mL ret R h0 WS Q SF h k n pc Ls (.int x :: st) :=
  Go.plain (fun p e below T m c target hA hx hb hk => XS.i2b hA hx rfl (hb ▸ hd) rfl (by subst hq; exact hk)) K
theorem Go.i2c {x : Int32} (hd : decode bytes pc = .ok (.i2c, 1)) (hq : pc + 1 = pc') (K : Go l Z EL n0 nr kn y bytes mL ret R h0 WS Q SF h k n pc' Ls (.int x.toUInt32.toUInt16.toUInt32.toInt32 :: st)) : Go l Z EL n0 nr kn y bytes mL ret R h0 WS Q SF h k n pc Ls (.int x :: st) :=
  Go.plain (fun p e below T m c target hA hx hb hk => XS.i2c hA hx rfl (hb ▸ hd) rfl (by subst hq; exact hk)) K
theorem Go.i2l {x : Int32} (hd : decode bytes pc = .ok (.i2l, 1)) (hq : pc + 1 = pc') (K : Go l Z EL n0 nr kn y bytes mL ret R h0 WS Q SF h k n pc' Ls (.long x.toInt64 :: st)) : Go l Z EL n0 nr kn y bytes mL ret R h0 WS Q SF h k n pc Ls (.int x :: st) :=
  Go.plain (fun p e below T m c target hA hx hb hk => XS.i2l hA hx rfl (hb ▸ hd) rfl (by subst hq; exact hk)) K
theorem Go.l2i {x : Int64} (hd : decode bytes pc = .ok (.l2i, 1)) (hq : pc + 1 = pc') (K : Go l Z EL n0 nr kn y bytes mL ret R h0 WS Q SF h k n pc' Ls (.int x.toInt32 :: st)) : Go l Z EL n0 nr kn y bytes mL ret R h0 WS Q SF h k n pc Ls (.long x :: st) :=
  Go.plain (fun p e below T m c target hA hx hb hk => XS.l2i hA hx rfl (hb ▸ hd) rfl (by subst hq; exact hk)) K
theorem Go.ladd {x z : Int64} (hd : decode bytes pc = .ok (.ladd, 1)) (hq : pc + 1 = pc') (K : Go l Z EL n0 nr kn y bytes mL ret R h0 WS Q SF h k n pc' Ls (.long (x + z) :: st)) : Go l Z EL n0 nr kn y bytes mL ret R h0 WS Q SF h k n pc Ls (.long z :: .long x :: st) :=
  Go.plain (fun p e below T m c target hA hx hb hk => XS.ladd hA hx rfl (hb ▸ hd) rfl (by subst hq; exact hk)) K
theorem Go.lsub {x z : Int64} (hd : decode bytes pc = .ok (.lsub, 1)) (hq : pc + 1 = pc') (K : Go l Z EL n0 nr kn y bytes mL ret R h0 WS Q SF h k n pc' Ls (.long (x - z) :: st)) : Go l Z EL n0 nr kn y bytes mL ret R h0 WS Q SF h k n pc Ls (.long z :: .long x :: st) :=
  Go.plain (fun p e below T m c target hA hx hb hk => XS.lsub hA hx rfl (hb ▸ hd) rfl (by subst hq; exact hk)) K
theorem Go.lmul {x z : Int64} (hd : decode bytes pc = .ok (.lmul, 1)) (hq : pc + 1 = pc') (K : Go l Z EL n0 nr kn y bytes mL ret R h0 WS Q SF h k n pc' Ls (.long (x * z) :: st)) : Go l Z EL n0 nr kn y bytes mL ret R h0 WS Q SF h k n pc Ls (.long z :: .long x :: st) :=
  Go.plain (fun p e below T m c target hA hx hb hk => XS.lmul hA hx rfl (hb ▸ hd) rfl (by subst hq; exact hk)) K
theorem Go.lcmp {x z : Int64} (hd : decode bytes pc = .ok (.lcmp, 1)) (hq : pc + 1 = pc') (K : Go l Z EL n0 nr kn y bytes mL ret R h0 WS Q SF h k n pc' Ls (.int (lcmpW x z) :: st)) : Go l Z EL n0 nr kn y bytes mL ret R h0 WS Q SF h k n pc Ls (.long z :: .long x :: st) :=
  Go.plain (fun p e below T m c target hA hx hb hk => XS.lcmp hA hx rfl (hb ▸ hd) rfl (by subst hq; exact hk)) K
theorem Go.dup {v : Value} (hd : decode bytes pc = .ok (.dup, 1)) (hq : pc + 1 = pc') (hc : v.category = 1) (K : Go l Z EL n0 nr kn y bytes mL ret R h0 WS Q SF h k n pc' Ls (v :: v :: st)) : Go l Z EL n0 nr kn y bytes mL ret R h0 WS Q SF h k n pc Ls (v :: st) :=
  Go.plain (fun p e below T m c target hA hx hb hk => XS.dup hA hx rfl (hb ▸ hd) rfl hc (by subst hq; exact hk)) K
theorem Go.pop {v : Value} (hd : decode bytes pc = .ok (.pop, 1)) (hq : pc + 1 = pc') (hc : v.category = 1) (K : Go l Z EL n0 nr kn y bytes mL ret R h0 WS Q SF h k n pc' Ls st) : Go l Z EL n0 nr kn y bytes mL ret R h0 WS Q SF h k n pc Ls (v :: st) :=
  Go.plain (fun p e below T m c target hA hx hb hk => XS.pop hA hx rfl (hb ▸ hd) rfl hc (by subst hq; exact hk)) K
theorem Go.dup_x1 {v u : Value} (hd : decode bytes pc = .ok (.dup_x1, 1)) (hq : pc + 1 = pc') (hc : v.category = 1) (hc' : u.category = 1) (K : Go l Z EL n0 nr kn y bytes mL ret R h0 WS Q SF h k n pc' Ls (v :: u :: v :: st)) : Go l Z EL n0 nr kn y bytes mL ret R h0 WS Q SF h k n pc Ls (v :: u :: st) :=
  Go.plain (fun p e below T m c target hA hx hb hk => XS.dupX1 hA hx rfl (hb ▸ hd) rfl hc hc' (by subst hq; exact hk)) K
theorem Go.istore_n {i : Fin 4} {x : Int32} (hd : decode bytes pc = .ok (.istore_n i, 1)) (hq : pc + 1 = pc') (hl : storeLocals Ls i.val (.int x) = some Ls') (K : Go l Z EL n0 nr kn y bytes mL ret R h0 WS Q SF h k n pc' Ls' st) : Go l Z EL n0 nr kn y bytes mL ret R h0 WS Q SF h k n pc Ls (.int x :: st) :=
  Go.plain (fun p e below T m c target hA hx hb hk => XS.istoreN hA hx rfl (hb ▸ hd) rfl hl (by subst hq; exact hk)) K
theorem Go.istore {i : Nat} {x : Int32} (hd : decode bytes pc = .ok (.istore i, 2)) (hq : pc + 2 = pc') (hl : storeLocals Ls i (.int x) = some Ls') (K : Go l Z EL n0 nr kn y bytes mL ret R h0 WS Q SF h k n pc' Ls' st) : Go l Z EL n0 nr kn y bytes mL ret R h0 WS Q SF h k n pc Ls (.int x :: st) :=
  Go.plain (fun p e below T m c target hA hx hb hk => XS.istore hA hx rfl (hb ▸ hd) rfl hl (by subst hq; exact hk)) K
theorem Go.istoreS {i : Nat} {x : Int32} {o : Slot} (hd : decode bytes pc = .ok (.istore i, 2)) (hq : pc + 2 = pc') (hold : Ls[i]? = some o) (ho : One o) (hl : Ls.setIfInBounds i (.val (.int x)) = Ls') (K : Go l Z EL n0 nr kn y bytes mL ret R h0 WS Q SF h k n pc' Ls' st) : Go l Z EL n0 nr kn y bytes mL ret R h0 WS Q SF h k n pc Ls (.int x :: st) :=
  Go.plain (fun p e below T m c target hA hx hb hk => XS.istoreS hA hx rfl (hb ▸ hd) rfl hold ho (by subst hq; subst hl; exact hk)) K
theorem Go.lstore_n {i : Fin 4} {x : Int64} (hd : decode bytes pc = .ok (.lstore_n i, 1)) (hq : pc + 1 = pc') (hl : storeLocals Ls i.val (.long x) = some Ls') (K : Go l Z EL n0 nr kn y bytes mL ret R h0 WS Q SF h k n pc' Ls' st) : Go l Z EL n0 nr kn y bytes mL ret R h0 WS Q SF h k n pc Ls (.long x :: st) :=
  Go.plain (fun p e below T m c target hA hx hb hk => XS.lstoreN hA hx rfl (hb ▸ hd) rfl hl (by subst hq; exact hk)) K
theorem Go.astore_n {i : Fin 4} {v : Value} (hd : decode bytes pc = .ok (.astore_n i, 1)) (hq : pc + 1 = pc') (hv : v.isRef = true) (hl : storeLocals Ls i.val v = some Ls') (K : Go l Z EL n0 nr kn y bytes mL ret R h0 WS Q SF h k n pc' Ls' st) : Go l Z EL n0 nr kn y bytes mL ret R h0 WS Q SF h k n pc Ls (v :: st) :=
  Go.plain (fun p e below T m c target hA hx hb hk => XS.astoreN hA hx rfl (hb ▸ hd) rfl hv hl (by subst hq; exact hk)) K
theorem Go.astore {i : Nat} {v : Value} (hd : decode bytes pc = .ok (.astore i, 2)) (hq : pc + 2 = pc') (hv : v.isRef = true) (hl : storeLocals Ls i v = some Ls') (K : Go l Z EL n0 nr kn y bytes mL ret R h0 WS Q SF h k n pc' Ls' st) : Go l Z EL n0 nr kn y bytes mL ret R h0 WS Q SF h k n pc Ls (v :: st) :=
  Go.plain (fun p e below T m c target hA hx hb hk => XS.astore hA hx rfl (hb ▸ hd) rfl hv hl (by subst hq; exact hk)) K
theorem Go.iinc {i : Nat} {cst : Int} {x cv : Int32} (hd : decode bytes pc = .ok (.iinc i cst, 3)) (hq : pc + 3 = pc') (hv : Int32.ofInt cst = cv) (hl : Ls[i]? = some (.val (.int x))) (hl' : storeLocals Ls i (.int (x + cv)) = some Ls') (K : Go l Z EL n0 nr kn y bytes mL ret R h0 WS Q SF h k n pc' Ls' st) : Go l Z EL n0 nr kn y bytes mL ret R h0 WS Q SF h k n pc Ls st :=
  Go.plain (fun p e below T m c target hA hx hb hk => XS.iinc hA hx rfl (hb ▸ hd) hl (by subst hv; exact hl') (by subst hq; exact hk)) K
theorem Go.irem {x z : Int32} (hd : decode bytes pc = .ok (.irem, 1)) (hq : pc + 1 = pc') (hz : z ≠ 0) (K : Go l Z EL n0 nr kn y bytes mL ret R h0 WS Q SF h k n pc' Ls (.int (x % z) :: st)) : Go l Z EL n0 nr kn y bytes mL ret R h0 WS Q SF h k n pc Ls (.int z :: .int x :: st) :=
  Go.plain (fun p e below T m c target hA hx hb hk => XS.irem hA hx rfl (hb ▸ hd) rfl hz (by rw [show x - x / z * z = x % z from irem_eq_mod x z]; subst hq; exact hk)) K
theorem Go.idiv {x z : Int32} (hd : decode bytes pc = .ok (.idiv, 1)) (hq : pc + 1 = pc') (hz : z ≠ 0) (K : Go l Z EL n0 nr kn y bytes mL ret R h0 WS Q SF h k n pc' Ls (.int (x / z) :: st)) : Go l Z EL n0 nr kn y bytes mL ret R h0 WS Q SF h k n pc Ls (.int z :: .int x :: st) :=
  Go.plain (fun p e below T m c target hA hx hb hk => XS.idiv hA hx rfl (hb ▸ hd) rfl hz (by subst hq; exact hk)) K
theorem Go.goto {o : Int} (hd : decode bytes pc = .ok (.goto o, 3)) (ho : 0 ≤ (pc : Int) + o) (hq : ((pc : Int) + o).toNat = pc') (K : Go l Z EL n0 nr kn y bytes mL ret R h0 WS Q SF h k n pc' Ls st) : Go l Z EL n0 nr kn y bytes mL ret R h0 WS Q SF h k n pc Ls st :=
  Go.plain (fun p e below T m c target hA hx hb hk => XS.goto hA hx rfl (pc0 := pc) (pc' := pc') rfl (hb ▸ hd) ho hq hk) K
theorem Go.ifY {cd : ClassFile.Cond} {x : Int32} {o : Int} (hd : decode bytes pc = .ok (.ifCond cd o, 3)) (ho : 0 ≤ (pc : Int) + o) (hq : ((pc : Int) + o).toNat = pc') (hc : ifCond.holds cd x = true) (K : Go l Z EL n0 nr kn y bytes mL ret R h0 WS Q SF h k n pc' Ls st) : Go l Z EL n0 nr kn y bytes mL ret R h0 WS Q SF h k n pc Ls (.int x :: st) :=
  Go.plain (fun p e below T m c target hA hx hb hk => XS.ifYes hA hx rfl (pc0 := pc) (pc' := pc') rfl (hb ▸ hd) rfl hc ho hq hk) K
theorem Go.icmpY {cd : ClassFile.Cond} {x z : Int32} {o : Int} (hd : decode bytes pc = .ok (.if_icmp cd o, 3)) (ho : 0 ≤ (pc : Int) + o) (hq : ((pc : Int) + o).toNat = pc') (hc : if_icmp.holds cd x z = true) (K : Go l Z EL n0 nr kn y bytes mL ret R h0 WS Q SF h k n pc' Ls st) : Go l Z EL n0 nr kn y bytes mL ret R h0 WS Q SF h k n pc Ls (.int z :: .int x :: st) :=
  Go.plain (fun p e below T m c target hA hx hb hk => XS.icmpYes hA hx rfl (pc0 := pc) (pc' := pc') rfl (hb ▸ hd) rfl hc ho hq hk) K
theorem Go.ifnullY {o : Int} (hd : decode bytes pc = .ok (.ifnull o, 3)) (ho : 0 ≤ (pc : Int) + o) (hq : ((pc : Int) + o).toNat = pc') (K : Go l Z EL n0 nr kn y bytes mL ret R h0 WS Q SF h k n pc' Ls st) : Go l Z EL n0 nr kn y bytes mL ret R h0 WS Q SF h k n pc Ls (.null :: st) :=
  Go.plain (fun p e below T m c target hA hx hb hk => XS.ifnullYes hA hx rfl (pc0 := pc) (pc' := pc') rfl (hb ▸ hd) rfl ho hq hk) K
theorem Go.ifnonnullY {b : Addr} {o : Int} (hd : decode bytes pc = .ok (.ifnonnull o, 3)) (ho : 0 ≤ (pc : Int) + o) (hq : ((pc : Int) + o).toNat = pc') (K : Go l Z EL n0 nr kn y bytes mL ret R h0 WS Q SF h k n pc' Ls st) : Go l Z EL n0 nr kn y bytes mL ret R h0 WS Q SF h k n pc Ls (.ref b :: st) :=
  Go.plain (fun p e below T m c target hA hx hb hk => XS.ifnonnullYes hA hx rfl (pc0 := pc) (pc' := pc') rfl (hb ▸ hd) rfl ho hq hk) K
theorem Go.ifN {cd : ClassFile.Cond} {o : Int} {x : Int32} (hd : decode bytes pc = .ok (.ifCond cd o, 3)) (hq : pc + 3 = pc') (hc : ifCond.holds cd x = false) (K : Go l Z EL n0 nr kn y bytes mL ret R h0 WS Q SF h k n pc' Ls st) : Go l Z EL n0 nr kn y bytes mL ret R h0 WS Q SF h k n pc Ls (.int x :: st) :=
  Go.plain (fun p e below T m c target hA hx hb hk => XS.ifNo hA hx rfl (hb ▸ hd) rfl hc (by subst hq; exact hk)) K
theorem Go.icmpN {cd : ClassFile.Cond} {o : Int} {x z : Int32} (hd : decode bytes pc = .ok (.if_icmp cd o, 3)) (hq : pc + 3 = pc') (hc : if_icmp.holds cd x z = false) (K : Go l Z EL n0 nr kn y bytes mL ret R h0 WS Q SF h k n pc' Ls st) : Go l Z EL n0 nr kn y bytes mL ret R h0 WS Q SF h k n pc Ls (.int z :: .int x :: st) :=
  Go.plain (fun p e below T m c target hA hx hb hk => XS.icmpNo hA hx rfl (hb ▸ hd) rfl hc (by subst hq; exact hk)) K
theorem Go.ifnullN {o : Int} {b : Addr} (hd : decode bytes pc = .ok (.ifnull o, 3)) (hq : pc + 3 = pc') (K : Go l Z EL n0 nr kn y bytes mL ret R h0 WS Q SF h k n pc' Ls st) : Go l Z EL n0 nr kn y bytes mL ret R h0 WS Q SF h k n pc Ls (.ref b :: st) :=
  Go.plain (fun p e below T m c target hA hx hb hk => XS.ifnullNo hA hx rfl (hb ▸ hd) rfl (by subst hq; exact hk)) K
theorem Go.ifnonnullN {o : Int} (hd : decode bytes pc = .ok (.ifnonnull o, 3)) (hq : pc + 3 = pc') (K : Go l Z EL n0 nr kn y bytes mL ret R h0 WS Q SF h k n pc' Ls st) : Go l Z EL n0 nr kn y bytes mL ret R h0 WS Q SF h k n pc Ls (.null :: st) :=
  Go.plain (fun p e below T m c target hA hx hb hk => XS.ifnonnullNo hA hx rfl (hb ▸ hd) rfl (by subst hq; exact hk)) K
theorem Go.acmp {cd : ACond} {v u : Value} {o : Int} {same : Bool} (hd : decode bytes pc = .ok (.if_acmp cd o, 3)) (hv : v.isRef = true) (hu : u.isRef = true) (hs : decide (v = u) = same) (ho : 0 ≤ (pc : Int) + o) (hq : pc' = if acV cd same = true then ((pc : Int) + o).toNat else pc + 3) (K : Go l Z EL n0 nr kn y bytes mL ret R h0 WS Q SF h k n pc' Ls st) : Go l Z EL n0 nr kn y bytes mL ret R h0 WS Q SF h k n pc Ls (u :: v :: st) := by
  intro p e s m args below meth c T hR
  obtain ⟨t, o, hs', r⟩ := K p e s m args below meth c T hR
  obtain ⟨⟨hx, hb, -⟩, vm0, k0, locs, X, -⟩ := hR
  exact ⟨t, o, Jvm.RoadKit.acmp (g := mkF m pc Ls (u :: v :: st)) X hx rfl hv hu (pc0 := pc) (pc' := pc') (same := same) rfl (hb ▸ hd) rfl hs ho hq hs', r⟩
theorem Go.getF {R0 O nf d host : String} {index : Nat} {a : Addr} {v : Value} (hd : decode bytes pc = .ok (.getfield index, 3)) (hq : pc + 3 = pc') (w : (Jvm.Cond.fieldLink y.cls index R0 nf d).before a0 Z = true ∨ (Jvm.Cond.fieldLinkNest y.cls index R0 nf d host).before a0 Z = true) (via : Via Z R0 O nf d) (F : Fld Z h a O nf d v) (K : Go l Z EL n0 nr kn y bytes mL ret R h0 WS Q SF h k n pc' Ls (v :: st)) : Go l Z EL n0 nr kn y bytes mL ret R h0 WS Q SF h k n pc Ls (.ref a :: st) := by
  intro p e s m args below meth c T hR
  obtain ⟨⟨hx, hby, hml, hown, hnm, hret, hlk, hkn⟩, vm0, k0, locs, X, e0, C⟩ := hR
  have hZ : Z.Warmed39 (s.setVm vm0).vm := C.1
  have hown' : (s.setVm vm0).vm.findClass y.cls = some m.cls := by rw [show (s.setVm vm0).vm = vm0 from rfl, C.2.1.1.1.alike.findClass]; exact hown
  obtain ⟨T', X', e', st'⟩ := Jvm.RoadKit.getF X hx hZ hown' w via e0 F (g := mkF m pc Ls (.ref a :: st)) rfl rfl (hb hby hd)
  obtain ⟨t, o, hs, r⟩ := K p e s m args below meth c T' ⟨⟨hx, hby, hml, hown, hnm, hret, hlk, hkn⟩, vm0, k0, locs, X', e', C⟩
  exact ⟨t, o, st' _ (by subst hq; exact hs), r⟩
theorem Go.getS {R0 O nf d host : String} {index : Nat} {v : Value} (hd : decode bytes pc = .ok (.getstatic index, 3)) (hq : pc + 3 = pc') (w : (Jvm.Cond.fieldLink y.cls index R0 nf d).before a0 Z = true ∨ (Jvm.Cond.fieldLinkNest y.cls index R0 nf d host).before a0 Z = true) (via : Via Z R0 O nf d) (F : Sta Z Z.heap O nf d v) (K : Go l Z EL n0 nr kn y bytes mL ret R h0 WS Q SF h k n pc' Ls (v :: st)) : Go l Z EL n0 nr kn y bytes mL ret R h0 WS Q SF h k n pc Ls st := by
  intro p e s m args below meth c T hR
  obtain ⟨⟨hx, hby, hml, hown, hnm, hret, hlk, hkn⟩, vm0, k0, locs, X, e0, C⟩ := hR
  have hZ : Z.Warmed39 (s.setVm vm0).vm := C.1
  have hown' : (s.setVm vm0).vm.findClass y.cls = some m.cls := by rw [show (s.setVm vm0).vm = vm0 from rfl, C.2.1.1.1.alike.findClass]; exact hown
  obtain ⟨T', X', e', st'⟩ := Jvm.RoadKit.getS2 X hx hZ hown' w via e0 (F.ext C.2.2.2.2.2.2.1.2) (g := mkF m pc Ls st) rfl (hb hby hd)
  obtain ⟨t, o, hs, r⟩ := K p e s m args below meth c T' ⟨⟨hx, hby, hml, hown, hnm, hret, hlk, hkn⟩, vm0, k0, locs, X', e', C⟩
  exact ⟨t, o, st' _ (by subst hq; exact hs), r⟩
theorem Go.castY {D : String} {index : Nat} {a : Addr} (hd : decode bytes pc = .ok (.checkcast index, 3)) (hq : pc + 3 = pc') (w : (Jvm.Cond.classLink y.cls index D).before a0 Z = true) (F : Ins Z h a D true) (K : Go l Z EL n0 nr kn y bytes mL ret R h0 WS Q SF h k n pc' Ls (.ref a :: st)) : Go l Z EL n0 nr kn y bytes mL ret R h0 WS Q SF h k n pc Ls (.ref a :: st) := by
  intro p e s m args below meth c T hR
  obtain ⟨⟨hx, hby, hml, hown, hnm, hret, hlk, hkn⟩, vm0, k0, locs, X, e0, C⟩ := hR
  have hZ : Z.Warmed39 (s.setVm vm0).vm := C.1
  have hown' : (s.setVm vm0).vm.findClass y.cls = some m.cls := by rw [show (s.setVm vm0).vm = vm0 from rfl, C.2.1.1.1.alike.findClass]; exact hown
  obtain ⟨T', X', e', st'⟩ := Jvm.RoadKit.castY X hx hZ hown' w e0 F (g := mkF m pc Ls (.ref a :: st)) rfl rfl (hb hby hd)
  obtain ⟨t, o, hs, r⟩ := K p e s m args below meth c T' ⟨⟨hx, hby, hml, hown, hnm, hret, hlk, hkn⟩, vm0, k0, locs, X', e', C⟩
  exact ⟨t, o, st' _ (by subst hq; exact hs), r⟩
theorem Go.instY {D : String} {index : Nat} {a : Addr} (hd : decode bytes pc = .ok (.instanceof index, 3)) (hq : pc + 3 = pc') (w : (Jvm.Cond.classLink y.cls index D).before a0 Z = true) (F : Ins Z h a D true) (K : Go l Z EL n0 nr kn y bytes mL ret R h0 WS Q SF h k n pc' Ls (.int 1 :: st)) : Go l Z EL n0 nr kn y bytes mL ret R h0 WS Q SF h k n pc Ls (.ref a :: st) := by
  intro p e s m args below meth c T hR
  obtain ⟨⟨hx, hby, hml, hown, hnm, hret, hlk, hkn⟩, vm0, k0, locs, X, e0, C⟩ := hR
  have hZ : Z.Warmed39 (s.setVm vm0).vm := C.1
  have hown' : (s.setVm vm0).vm.findClass y.cls = some m.cls := by rw [show (s.setVm vm0).vm = vm0 from rfl, C.2.1.1.1.alike.findClass]; exact hown
  obtain ⟨T', X', e', st'⟩ := Jvm.RoadKit.instY X hx hZ hown' w e0 F (g := mkF m pc Ls (.ref a :: st)) rfl rfl (hb hby hd)
  obtain ⟨t, o, hs, r⟩ := K p e s m args below meth c T' ⟨⟨hx, hby, hml, hown, hnm, hret, hlk, hkn⟩, vm0, k0, locs, X', e', C⟩
  exact ⟨t, o, st' _ (by subst hq; exact hs), r⟩
theorem Go.instNo {D CC : String} {index : Nat} {a : Addr} (hd : decode bytes pc = .ok (.instanceof index, 3)) (hq : pc + 3 = pc') (w : (Jvm.Cond.classLink y.cls index D).before a0 Z = true) (E : Exa Z h a CC) (F : ∃ c t, Z.vm.findClass CC = some c ∧ Z.vm.findClass D = some t ∧ Z.vm.assignable c t = false) (K : Go l Z EL n0 nr kn y bytes mL ret R h0 WS Q SF h k n pc' Ls (.int 0 :: st)) : Go l Z EL n0 nr kn y bytes mL ret R h0 WS Q SF h k n pc Ls (.ref a :: st) := by
  intro p e s m args below meth c T hR
  obtain ⟨⟨hx, hby, hml, hown, hnm, hret, hlk, hkn⟩, vm0, k0, locs, X, e0, C⟩ := hR
  have hZ : Z.Warmed39 (s.setVm vm0).vm := C.1
  have hown' : (s.setVm vm0).vm.findClass y.cls = some m.cls := by rw [show (s.setVm vm0).vm = vm0 from rfl, C.2.1.1.1.alike.findClass]; exact hown
  obtain ⟨T', X', e', st'⟩ := Jvm.RoadKit.instNo X hx hZ hown' w e0 E F (g := mkF m pc Ls (.ref a :: st)) rfl rfl (hb hby hd)
  obtain ⟨t, o, hs, r⟩ := K p e s m args below meth c T' ⟨⟨hx, hby, hml, hown, hnm, hret, hlk, hkn⟩, vm0, k0, locs, X', e', C⟩
  exact ⟨t, o, st' _ (by subst hq; exact hs), r⟩
theorem Go.initO {index W : Nat} {a : Addr} (hd : decode bytes pc = .ok (.invokespecial index, 3)) (hq : pc + 3 = pc') (w1 : (Jvm.Cond.methodLink y.cls index Lib.objectInit).before a0 Z = true) (w2 : (Jvm.Cond.instanceMethod Lib.objectInit).before a0 Z = true) (w3 : (Jvm.Cond.code Lib.objectInit ⟨#[0xb1]⟩ 1 none).before a0 Z = true) (hsz : Ls.size = mL) (hf : 1 ≤ R.frames) (hW : (st.map fun v => v.category).sum ≤ W) (hl : W + 12 ≤ R.locals) (K : Go l Z EL n0 nr kn y bytes mL ret R h0 WS Q SF h k n pc' Ls st) : Go l Z EL n0 nr kn y bytes mL ret R h0 WS Q SF h k n pc Ls (.ref a :: st) := by
  intro p e s m args below meth c T hR
  obtain ⟨⟨hx, hby, hml, hown, hnm, hret, hlk, hkn⟩, vm0, k0, locs, X, e0, C⟩ := hR
  have hZ : Z.Warmed39 (s.setVm vm0).vm := C.1
  have hown' : (s.setVm vm0).vm.findClass y.cls = some m.cls := by rw [show (s.setVm vm0).vm = vm0 from rfl, C.2.1.1.1.alike.findClass]; exact hown
  obtain ⟨T', X', e', st'⟩ := Jvm.RoadKit.initO X hx hZ hown' w1 w2 w3 e0 (g := mkF m pc Ls (.ref a :: st)) rfl (by rw [hml]; exact hsz) rfl (hb hby hd) hf (W := W) (by show 2 * 0 + _ ≤ _; rw [Nat.mul_zero, Nat.zero_add]; exact hW) hl
  obtain ⟨t, o, hs, r⟩ := K p e s m args below meth c T' ⟨⟨hx, hby, hml, hown, hnm, hret, hlk, hkn⟩, vm0, k0, locs, X', e', C⟩
  exact ⟨t, o, st' _ (by subst hq; exact hs), r⟩
theorem Go.gcls {index W : Nat} {CC : String} {a mr : Addr} (hd : decode bytes pc = .ok (.invokevirtual index, 3)) (hq : pc + 3 = pc') (w1 : (Jvm.Cond.methodLink y.cls index ⟨"java/lang/Object", "getClass", "()Ljava/lang/Class;"⟩).before a0 Z = true) (w2 : (Jvm.Cond.declares ⟨"java/lang/Object", "getClass", "()Ljava/lang/Class;"⟩).before a0 Z = true) (w3 : (Jvm.Cond.noSuperclass "java/lang/Object").before a0 Z = true) (w4 : (Jvm.Cond.selects CC ⟨"java/lang/Object", "getClass", "()Ljava/lang/Class;"⟩ ⟨"java/lang/Object", "getClass", "()Ljava/lang/Class;"⟩).before a0 Z = true)
    (w5 : (Jvm.Cond.instanceMethod ⟨"java/lang/Object", "getClass", "()Ljava/lang/Class;"⟩).before a0 Z = true) (w6 : (Jvm.Cond.native ⟨"java/lang/Object", "getClass", "()Ljava/lang/Class;"⟩).before a0 Z = true) (E : Exa Z h a CC) (M : Mr Z CC mr) (hsz : Ls.size = mL) (hf : 1 ≤ R.frames) (hW : (st.map fun v => v.category).sum ≤ W) (hl : W + (nativeFrameWords "java/lang/Object" "getClass" 1 + 11) ≤ R.locals) (K : Go l Z EL n0 nr kn y bytes mL ret R h0 WS Q SF h k n pc' Ls (.ref mr :: st)) : Go l Z EL n0 nr kn y bytes mL ret R h0 WS Q SF h k n pc Ls (.ref a :: st) := by
  intro p e s m args below meth c T hR
  obtain ⟨⟨hx, hby, hml, hown, hnm, hret, hlk, hkn⟩, vm0, k0, locs, X, e0, C⟩ := hR
  have hZ : Z.Warmed39 (s.setVm vm0).vm := C.1
  have hown' : (s.setVm vm0).vm.findClass y.cls = some m.cls := by rw [show (s.setVm vm0).vm = vm0 from rfl, C.2.1.1.1.alike.findClass]; exact hown
  obtain ⟨cB, kB, i1, i2, i3⟩ := isOf hZ e0 E
  obtain ⟨cc, kc, m1, m2, m3⟩ := M
  rw [hZ.alike.findClass] at i1
  cases i1.symm.trans m1
  obtain ⟨k', q, ek⟩ := hZ.alike.2.2 _ _ m2
  obtain ⟨vm', X', st'⟩ := X.getClassOf hx hown' (mvT hZ w1) (mvT hZ w2) (nf_top (args := #[]) (mvT hZ w3)) (mvT hZ w4) (mvT hZ w5) (mvT hZ w6) (by rw [hZ.alike.findClass]; exact m1) i3 q (by rw [ek]; exact m3) (g := mkF m pc Ls (.ref a :: st)) rfl (by rw [hml]; exact hsz) rfl (hb hby hd) hf (by show 2 * 0 + _ + _ ≤ _; omega)
  obtain ⟨t, o, hs, r⟩ := K p e s m args below meth c _ ⟨⟨hx, hby, hml, hown, hnm, hret, hlk, hkn⟩, vm0, k0, locs, X', e0, C⟩
  exact ⟨t, o, st' _ (by subst hq; exact hs), r⟩
theorem Go.ldcM {index : Nat} {CC : String} {mr : Addr} (hd : decode bytes pc = .ok (.ldc index, 2)) (hq : pc + 2 = pc') (w : (Jvm.Cond.classLink y.cls index CC).before a0 Z = true) (M : Mr Z CC mr) (K : Go l Z EL n0 nr kn y bytes mL ret R h0 WS Q SF h k n pc' Ls (.ref mr :: st)) : Go l Z EL n0 nr kn y bytes mL ret R h0 WS Q SF h k n pc Ls st := by
  intro p e s m args below meth c T hR
  obtain ⟨⟨hx, hby, hml, hown, hnm, hret, hlk, hkn⟩, vm0, k0, locs, X, e0, C⟩ := hR
  have hZ : Z.Warmed39 (s.setVm vm0).vm := C.1
  have hown' : (s.setVm vm0).vm.findClass y.cls = some m.cls := by rw [show (s.setVm vm0).vm = vm0 from rfl, C.2.1.1.1.alike.findClass]; exact hown
  obtain ⟨cc, kc, m1, m2, m3⟩ := M
  obtain ⟨k', q, ek⟩ := hZ.alike.2.2 _ _ m2
  have hev : (Term.mirror CC).eval args (s.setVm vm0) none [] (s.setVm vm0) = some (.ref mr) := by
    have q1 : (s.setVm vm0).vm.findClass CC = some cc := by rw [hZ.alike.findClass]; exact m1
    have q2 : k'.mirror = some mr := by rw [ek]; exact m3
    simp only [Term.eval, q1, q, q2, Option.bind_eq_bind, Option.bind_some, Option.pure_def]
  obtain ⟨vm', X', st'⟩ := X.ldcMirror hx hown' (mvT hZ w) hev (g := mkF m pc Ls st) rfl (hb hby hd)
  obtain ⟨t, o, hs, r⟩ := K p e s m args below meth c _ ⟨⟨hx, hby, hml, hown, hnm, hret, hlk, hkn⟩, vm0, k0, locs, X', e0, C⟩
  exact ⟨t, o, st' _ (by subst hq; exact hs), r⟩
theorem Go.ldcInt {index : Nat} {v : Int32} (hd : decode bytes pc = .ok (.ldc index, 2)) (hq : pc + 2 = pc') (w : (Jvm.Cond.constant y.cls index v).before a0 Z = true) (K : Go l Z EL n0 nr kn y bytes mL ret R h0 WS Q SF h k n pc' Ls (.int v :: st)) : Go l Z EL n0 nr kn y bytes mL ret R h0 WS Q SF h k n pc Ls st := by
  intro p e s m args below meth c T hR
  obtain ⟨⟨hx, hby, hml, hown, hnm, hret, hlk, hkn⟩, vm0, k0, locs, X, e0, C⟩ := hR
  have hZ : Z.Warmed39 (s.setVm vm0).vm := C.1
  have hown' : (s.setVm vm0).vm.findClass y.cls = some m.cls := by rw [show (s.setVm vm0).vm = vm0 from rfl, C.2.1.1.1.alike.findClass]; exact hown
  obtain ⟨t, o, hs, r⟩ := K p e s m args below meth c T ⟨⟨hx, hby, hml, hown, hnm, hret, hlk, hkn⟩, vm0, k0, locs, X, e0, C⟩
  exact ⟨t, o, X.ldcInt hx hown' (mvT hZ w) (g := mkF m pc Ls st) rfl (hb hby hd) _ (by subst hq; exact hs), r⟩
theorem Go.ldc2Long {index : Nat} {v : Int64} (hd : decode bytes pc = .ok (.ldc2_w index, 3)) (hq : pc + 3 = pc') (w : (Jvm.Cond.constantLong y.cls index v).before a0 Z = true) (K : Go l Z EL n0 nr kn y bytes mL ret R h0 WS Q SF h k n pc' Ls (.long v :: st)) : Go l Z EL n0 nr kn y bytes mL ret R h0 WS Q SF h k n pc Ls st := by
  intro p e s m args below meth c T hR
  obtain ⟨⟨hx, hby, hml, hown, hnm, hret, hlk, hkn⟩, vm0, k0, locs, X, e0, C⟩ := hR
  have hZ : Z.Warmed39 (s.setVm vm0).vm := C.1
  have hown' : (s.setVm vm0).vm.findClass y.cls = some m.cls := by rw [show (s.setVm vm0).vm = vm0 from rfl, C.2.1.1.1.alike.findClass]; exact hown
  obtain ⟨t, o, hs, r⟩ := K p e s m args below meth c T ⟨⟨hx, hby, hml, hown, hnm, hret, hlk, hkn⟩, vm0, k0, locs, X, e0, C⟩
  exact ⟨t, o, X.ldc2Long hx hown' (mvT hZ w) (g := mkF m pc Ls st) rfl (hb hby hd) _ (by subst hq; exact hs), r⟩
theorem Go.arraylength {a : Addr} {cl : Cell} {ty : FieldType} {z : Int32} (hd : decode bytes pc = .ok (.arraylength, 1)) (hq : pc + 1 = pc') (F : Arr Z h a cl ty) (hz : cl.slots.size.toInt32 = z) (K : Go l Z EL n0 nr kn y bytes mL ret R h0 WS Q SF h k n pc' Ls (.int z :: st)) : Go l Z EL n0 nr kn y bytes mL ret R h0 WS Q SF h k n pc Ls (.ref a :: st) := by
  intro p e s m args below meth c T hR
  obtain ⟨⟨hx, hby, hml, hown, hnm, hret, hlk, hkn⟩, vm0, k0, locs, X, e0, C⟩ := hR
  have hZ : Z.Warmed39 (s.setVm vm0).vm := C.1
  have hown' : (s.setVm vm0).vm.findClass y.cls = some m.cls := by rw [show (s.setVm vm0).vm = vm0 from rfl, C.2.1.1.1.alike.findClass]; exact hown
  obtain ⟨t, o, hs, r⟩ := K p e s m args below meth c T ⟨⟨hx, hby, hml, hown, hnm, hret, hlk, hkn⟩, vm0, k0, locs, X, e0, C⟩
  exact ⟨t, o, X.arraylength hx (by rw [e0]; exact F.1) (State.isArrayOf_alike hZ.alike F.2.1) (g := mkF m pc Ls (.ref a :: st)) rfl rfl (hb hby hd) _ (by subst hq; rw [hz]; exact hs), r⟩
theorem Go.lenV {a : Addr} {kk : ClassId} {ty : FieldType} {z : Int32} {vs : List Value} {dv : Value} (hd : decode bytes pc = .ok (.arraylength, 1)) (hq : pc + 1 = pc') (F : Arv Z h a kk ty z vs dv) (K : Go l Z EL n0 nr kn y bytes mL ret R h0 WS Q SF h k n pc' Ls (.int z :: st)) : Go l Z EL n0 nr kn y bytes mL ret R h0 WS Q SF h k n pc Ls (.ref a :: st) := by
  intro p e s m args below meth c T hR
  obtain ⟨⟨hx, hby, hml, hown, hnm, hret, hlk, hkn⟩, vm0, k0, locs, X, e0, C⟩ := hR
  have hZ : Z.Warmed39 (s.setVm vm0).vm := C.1
  have hown' : (s.setVm vm0).vm.findClass y.cls = some m.cls := by rw [show (s.setVm vm0).vm = vm0 from rfl, C.2.1.1.1.alike.findClass]; exact hown
  obtain ⟨cl, F, -, S, N, -, -⟩ := F
  obtain ⟨t, o, hs, r⟩ := K p e s m args below meth c T ⟨⟨hx, hby, hml, hown, hnm, hret, hlk, hkn⟩, vm0, k0, locs, X, e0, C⟩
  exact ⟨t, o, X.arraylength hx (by rw [e0]; exact F.1) (State.isArrayOf_alike hZ.alike F.2.1) (g := mkF m pc Ls (.ref a :: st)) rfl rfl (hb hby hd) _ (by subst hq; rw [len_of S N]; exact hs), r⟩
theorem Go.caload {a : Addr} {cl : Cell} {j : Int32} {v : Value} (hd : decode bytes pc = .ok (.caload, 1)) (hq : pc + 1 = pc') (F : Arr Z h a cl .char) (hin : ¬ (j < 0 ∨ cl.slots.size ≤ j.toNatClampNeg)) (hv : cl.slots[j.toNatClampNeg]? = some v) (K : Go l Z EL n0 nr kn y bytes mL ret R h0 WS Q SF h k n pc' Ls (v :: st)) : Go l Z EL n0 nr kn y bytes mL ret R h0 WS Q SF h k n pc Ls (.int j :: .ref a :: st) := by
  intro p e s m args below meth c T hR
  obtain ⟨⟨hx, hby, hml, hown, hnm, hret, hlk, hkn⟩, vm0, k0, locs, X, e0, C⟩ := hR
  have hZ : Z.Warmed39 (s.setVm vm0).vm := C.1
  have hown' : (s.setVm vm0).vm.findClass y.cls = some m.cls := by rw [show (s.setVm vm0).vm = vm0 from rfl, C.2.1.1.1.alike.findClass]; exact hown
  obtain ⟨t, o, hs, r⟩ := K p e s m args below meth c T ⟨⟨hx, hby, hml, hown, hnm, hret, hlk, hkn⟩, vm0, k0, locs, X, e0, C⟩
  exact ⟨t, o, X.caload hx (by rw [e0]; exact F.1) (State.isArrayOf_alike hZ.alike F.2.1) F.2.2 hin hv (g := mkF m pc Ls (.int j :: .ref a :: st)) rfl rfl (hb hby hd) _ (by subst hq; exact hs), r⟩
theorem Go.caloadV {a : Addr} {kk : ClassId} {z j : Int32} {vs : List Value} {v dv : Value} (hd : decode bytes pc = .ok (.caload, 1)) (hq : pc + 1 = pc') (F : Arv Z h a kk .char z vs dv) (hj : ¬ j < 0 ∧ j < z) (hv : vs.getD j.toNatClampNeg dv = v) (K : Go l Z EL n0 nr kn y bytes mL ret R h0 WS Q SF h k n pc' Ls (v :: st)) : Go l Z EL n0 nr kn y bytes mL ret R h0 WS Q SF h k n pc Ls (.int j :: .ref a :: st) := by
  intro p e s m args below meth c T hR
  obtain ⟨⟨hx, hby, hml, hown, hnm, hret, hlk, hkn⟩, vm0, k0, locs, X, e0, C⟩ := hR
  have hZ : Z.Warmed39 (s.setVm vm0).vm := C.1
  have hown' : (s.setVm vm0).vm.findClass y.cls = some m.cls := by rw [show (s.setVm vm0).vm = vm0 from rfl, C.2.1.1.1.alike.findClass]; exact hown
  obtain ⟨cl, F, -, S, N, H, -⟩ := F
  have hin := inb_of S hj
  have hv := Has.at H hin hv
  obtain ⟨t, o, hs, r⟩ := K p e s m args below meth c T ⟨⟨hx, hby, hml, hown, hnm, hret, hlk, hkn⟩, vm0, k0, locs, X, e0, C⟩
  exact ⟨t, o, X.caload hx (by rw [e0]; exact F.1) (State.isArrayOf_alike hZ.alike F.2.1) F.2.2 hin hv (g := mkF m pc Ls (.int j :: .ref a :: st)) rfl rfl (hb hby hd) _ (by subst hq; exact hs), r⟩
theorem Go.baload {a : Addr} {cl : Cell} {j : Int32} {v : Value} (hd : decode bytes pc = .ok (.baload, 1)) (hq : pc + 1 = pc') (F : Arr Z h a cl .byte) (hin : ¬ (j < 0 ∨ cl.slots.size ≤ j.toNatClampNeg)) (hv : cl.slots[j.toNatClampNeg]? = some v) (K : Go l Z EL n0 nr kn y bytes mL ret R h0 WS Q SF h k n pc' Ls (v :: st)) : Go l Z EL n0 nr kn y bytes mL ret R h0 WS Q SF h k n pc Ls (.int j :: .ref a :: st) := by
  intro p e s m args below meth c T hR
  obtain ⟨⟨hx, hby, hml, hown, hnm, hret, hlk, hkn⟩, vm0, k0, locs, X, e0, C⟩ := hR
  have hZ : Z.Warmed39 (s.setVm vm0).vm := C.1
  have hown' : (s.setVm vm0).vm.findClass y.cls = some m.cls := by rw [show (s.setVm vm0).vm = vm0 from rfl, C.2.1.1.1.alike.findClass]; exact hown
  obtain ⟨t, o, hs, r⟩ := K p e s m args below meth c T ⟨⟨hx, hby, hml, hown, hnm, hret, hlk, hkn⟩, vm0, k0, locs, X, e0, C⟩
  exact ⟨t, o, X.baloadBytes hx (by rw [e0]; exact F.1) (State.isArrayOf_alike hZ.alike F.2.1) F.2.2 hin hv (g := mkF m pc Ls (.int j :: .ref a :: st)) rfl rfl (hb hby hd) _ (by subst hq; exact hs), r⟩
theorem Go.baloadV {a : Addr} {kk : ClassId} {z j : Int32} {vs : List Value} {v dv : Value} (hd : decode bytes pc = .ok (.baload, 1)) (hq : pc + 1 = pc') (F : Arv Z h a kk .byte z vs dv) (hj : ¬ j < 0 ∧ j < z) (hv : vs.getD j.toNatClampNeg dv = v) (K : Go l Z EL n0 nr kn y bytes mL ret R h0 WS Q SF h k n pc' Ls (v :: st)) : Go l Z EL n0 nr kn y bytes mL ret R h0 WS Q SF h k n pc Ls (.int j :: .ref a :: st) := by
  intro p e s m args below meth c T hR
  obtain ⟨⟨hx, hby, hml, hown, hnm, hret, hlk, hkn⟩, vm0, k0, locs, X, e0, C⟩ := hR
  have hZ : Z.Warmed39 (s.setVm vm0).vm := C.1
  have hown' : (s.setVm vm0).vm.findClass y.cls = some m.cls := by rw [show (s.setVm vm0).vm = vm0 from rfl, C.2.1.1.1.alike.findClass]; exact hown
  obtain ⟨cl, F, -, S, N, H, -⟩ := F
  have hin := inb_of S hj
  have hv := Has.at H hin hv
  obtain ⟨t, o, hs, r⟩ := K p e s m args below meth c T ⟨⟨hx, hby, hml, hown, hnm, hret, hlk, hkn⟩, vm0, k0, locs, X, e0, C⟩
  exact ⟨t, o, X.baloadBytes hx (by rw [e0]; exact F.1) (State.isArrayOf_alike hZ.alike F.2.1) F.2.2 hin hv (g := mkF m pc Ls (.int j :: .ref a :: st)) rfl rfl (hb hby hd) _ (by subst hq; exact hs), r⟩
theorem Go.iaload {a : Addr} {cl : Cell} {j : Int32} {v : Value} (hd : decode bytes pc = .ok (.iaload, 1)) (hq : pc + 1 = pc') (F : Arr Z h a cl .int) (hin : ¬ (j < 0 ∨ cl.slots.size ≤ j.toNatClampNeg)) (hv : cl.slots[j.toNatClampNeg]? = some v) (K : Go l Z EL n0 nr kn y bytes mL ret R h0 WS Q SF h k n pc' Ls (v :: st)) : Go l Z EL n0 nr kn y bytes mL ret R h0 WS Q SF h k n pc Ls (.int j :: .ref a :: st) := by
  intro p e s m args below meth c T hR
  obtain ⟨⟨hx, hby, hml, hown, hnm, hret, hlk, hkn⟩, vm0, k0, locs, X, e0, C⟩ := hR
  have hZ : Z.Warmed39 (s.setVm vm0).vm := C.1
  have hown' : (s.setVm vm0).vm.findClass y.cls = some m.cls := by rw [show (s.setVm vm0).vm = vm0 from rfl, C.2.1.1.1.alike.findClass]; exact hown
  obtain ⟨t, o, hs, r⟩ := K p e s m args below meth c T ⟨⟨hx, hby, hml, hown, hnm, hret, hlk, hkn⟩, vm0, k0, locs, X, e0, C⟩
  exact ⟨t, o, X.iaload hx (by rw [e0]; exact F.1) (State.isArrayOf_alike hZ.alike F.2.1) F.2.2 hin hv (g := mkF m pc Ls (.int j :: .ref a :: st)) rfl rfl (hb hby hd) _ (by subst hq; exact hs), r⟩
theorem Go.ialoadV {a : Addr} {kk : ClassId} {z j : Int32} {vs : List Value} {v dv : Value} (hd : decode bytes pc = .ok (.iaload, 1)) (hq : pc + 1 = pc') (F : Arv Z h a kk .int z vs dv) (hj : ¬ j < 0 ∧ j < z) (hv : vs.getD j.toNatClampNeg dv = v) (K : Go l Z EL n0 nr kn y bytes mL ret R h0 WS Q SF h k n pc' Ls (v :: st)) : Go l Z EL n0 nr kn y bytes mL ret R h0 WS Q SF h k n pc Ls (.int j :: .ref a :: st) := by
  intro p e s m args below meth c T hR
  obtain ⟨⟨hx, hby, hml, hown, hnm, hret, hlk, hkn⟩, vm0, k0, locs, X, e0, C⟩ := hR
  have hZ : Z.Warmed39 (s.setVm vm0).vm := C.1
  have hown' : (s.setVm vm0).vm.findClass y.cls = some m.cls := by rw [show (s.setVm vm0).vm = vm0 from rfl, C.2.1.1.1.alike.findClass]; exact hown
  obtain ⟨cl, F, -, S, N, H, -⟩ := F
  have hin := inb_of S hj
  have hv := Has.at H hin hv
  obtain ⟨t, o, hs, r⟩ := K p e s m args below meth c T ⟨⟨hx, hby, hml, hown, hnm, hret, hlk, hkn⟩, vm0, k0, locs, X, e0, C⟩
  exact ⟨t, o, X.iaload hx (by rw [e0]; exact F.1) (State.isArrayOf_alike hZ.alike F.2.1) F.2.2 hin hv (g := mkF m pc Ls (.int j :: .ref a :: st)) rfl rfl (hb hby hd) _ (by subst hq; exact hs), r⟩
theorem Go.aaload {ty : FieldType} {a : Addr} {cl : Cell} {j : Int32} {v : Value} (hd : decode bytes pc = .ok (.aaload, 1)) (hq : pc + 1 = pc') (F : Arr Z h a cl ty) (hty : ty.isReference = true) (hin : ¬ (j < 0 ∨ cl.slots.size ≤ j.toNatClampNeg)) (hv : cl.slots[j.toNatClampNeg]? = some v) (K : Go l Z EL n0 nr kn y bytes mL ret R h0 WS Q SF h k n pc' Ls (v :: st)) : Go l Z EL n0 nr kn y bytes mL ret R h0 WS Q SF h k n pc Ls (.int j :: .ref a :: st) := by
  intro p e s m args below meth c T hR
  obtain ⟨⟨hx, hby, hml, hown, hnm, hret, hlk, hkn⟩, vm0, k0, locs, X, e0, C⟩ := hR
  have hZ : Z.Warmed39 (s.setVm vm0).vm := C.1
  have hown' : (s.setVm vm0).vm.findClass y.cls = some m.cls := by rw [show (s.setVm vm0).vm = vm0 from rfl, C.2.1.1.1.alike.findClass]; exact hown
  obtain ⟨t, o, hs, r⟩ := K p e s m args below meth c T ⟨⟨hx, hby, hml, hown, hnm, hret, hlk, hkn⟩, vm0, k0, locs, X, e0, C⟩
  exact ⟨t, o, X.aaload hx (by rw [e0]; exact F.1) (State.isArrayOf_alike hZ.alike F.2.1) hty F.2.2 hin hv (g := mkF m pc Ls (.int j :: .ref a :: st)) rfl rfl (hb hby hd) _ (by subst hq; exact hs), r⟩
theorem Go.aaloadV {ty : FieldType} {a : Addr} {kk : ClassId} {z j : Int32} {vs : List Value} {v dv : Value} (hd : decode bytes pc = .ok (.aaload, 1)) (hq : pc + 1 = pc') (F : Arv Z h a kk ty z vs dv) (hty : ty.isReference = true) (hj : ¬ j < 0 ∧ j < z) (hv : vs.getD j.toNatClampNeg dv = v) (K : Go l Z EL n0 nr kn y bytes mL ret R h0 WS Q SF h k n pc' Ls (v :: st)) : Go l Z EL n0 nr kn y bytes mL ret R h0 WS Q SF h k n pc Ls (.int j :: .ref a :: st) := by
  intro p e s m args below meth c T hR
  obtain ⟨⟨hx, hby, hml, hown, hnm, hret, hlk, hkn⟩, vm0, k0, locs, X, e0, C⟩ := hR
  have hZ : Z.Warmed39 (s.setVm vm0).vm := C.1
  have hown' : (s.setVm vm0).vm.findClass y.cls = some m.cls := by rw [show (s.setVm vm0).vm = vm0 from rfl, C.2.1.1.1.alike.findClass]; exact hown
  obtain ⟨cl, F, -, S, N, H, -⟩ := F
  have hin := inb_of S hj
  have hv := Has.at H hin hv
  obtain ⟨t, o, hs, r⟩ := K p e s m args below meth c T ⟨⟨hx, hby, hml, hown, hnm, hret, hlk, hkn⟩, vm0, k0, locs, X, e0, C⟩
  exact ⟨t, o, X.aaload hx (by rw [e0]; exact F.1) (State.isArrayOf_alike hZ.alike F.2.1) hty F.2.2 hin hv (g := mkF m pc Ls (.int j :: .ref a :: st)) rfl rfl (hb hby hd) _ (by subst hq; exact hs), r⟩
theorem Go.newO {CC : String} {index nn : Nat} (hd : decode bytes pc = .ok (.new index, 3)) (hq : pc + 3 = pc') (w : (Jvm.Cond.classLink y.cls index CC).before a0 Z = true) (wi : (Jvm.Cond.instantiable CC nn).before a0 Z = true) (wz : (Jvm.Cond.initialized CC).before a0 Z = true) (hc : k + 1 ≤ R.cells) (hl : n + nn ≤ R.slots)
    (K : ∀ h' a, h.size = a → h0.size ≤ a → Ext h h' → Exa Z h' a CC → (∀ {O nm d : String} {ty : FieldType}, Laid Z a0 CC O nm d → parseFieldDescriptor d = some ty → Fld Z h' a O nm d (defaultValue ty)) → Unt h' a → Go l Z EL n0 nr kn y bytes mL ret R h0 WS Q (a :: SF) h' (k + 1) (n + nn) pc' Ls (.ref a :: st)) : Go l Z EL n0 nr kn y bytes mL ret R h0 WS Q SF h k n pc Ls st := by
  intro p e s m args below meth c T hR
  obtain ⟨⟨hx, hby, hml, hown, hnm, hret, hlk, hkn⟩, vm0, k0, locs, X, e0, C⟩ := hR
  have hZ : Z.Warmed39 (s.setVm vm0).vm := C.1
  have hown' : (s.setVm vm0).vm.findClass y.cls = some m.cls := by rw [show (s.setVm vm0).vm = vm0 from rfl, C.2.1.1.1.alike.findClass]; exact hown
  obtain ⟨T', h', X', e', E, AA, D, U, st'⟩ := Jvm.RoadKit.newO X hx hZ hown' w wi wz e0 (g := mkF m pc Ls st) rfl (hb hby hd) hc hl
  have hlt : h.size < h'.size := AA.lt
  obtain ⟨t, o, hs, r⟩ := K h' h.size rfl C.2.2.2.2.2.2.2.1.1 E AA D U p e s m args below meth c T' ⟨⟨hx, hby, hml, hown, hnm, hret, hlk, hkn⟩, vm0, k0, locs, X', e', C.push E hlt⟩
  exact ⟨t, o, st' _ (by subst hq; exact hs), r⟩
theorem Go.newP {aty : ArrayType} {z : Int32} {cap : Nat} {ad : String} (hd : decode bytes pc = .ok (.newarray aty, 2)) (hq : pc + 2 = pc') (w : (Jvm.Cond.arrayClass (newarray.typeOf aty)).before a0 Z = true) (had : "[" ++ (newarray.typeOf aty).toString = ad) (hz : ¬ z < 0) (hcap : z.toNatClampNeg ≤ cap) (hbig : cap * 8 ≤ 536870912) (hc : k + 1 ≤ R.cells) (hl : n + cap ≤ R.slots)
    (K : ∀ h' a, h.size = a → h0.size ≤ a → ∀ cA, Ext h h' → Arv Z h' a cA (newarray.typeOf aty) z [] (defaultValue (newarray.typeOf aty)) → Exa Z h' a ad → Go l Z EL n0 nr kn y bytes mL ret R h0 WS Q (a :: SF) h' (k + 1) (n + cap) pc' Ls (.ref a :: st)) : Go l Z EL n0 nr kn y bytes mL ret R h0 WS Q SF h k n pc Ls (.int z :: st) := by
  intro p e s m args below meth c T hR
  obtain ⟨⟨hx, hby, hml, hown, hnm, hret, hlk, hkn⟩, vm0, k0, locs, X, e0, C⟩ := hR
  have hZ : Z.Warmed39 (s.setVm vm0).vm := C.1
  have hown' : (s.setVm vm0).vm.findClass y.cls = some m.cls := by rw [show (s.setVm vm0).vm = vm0 from rfl, C.2.1.1.1.alike.findClass]; exact hown
  obtain ⟨T', h', cA, X', e', E, AA, EE, st'⟩ := Jvm.RoadKit.newPE X hx hZ w e0 (g := mkF m pc Ls (.int z :: st)) rfl (hb hby hd) rfl hz hcap hbig hc hl had
  have hlt : h.size < h'.size := AA.lt
  obtain ⟨t, o, hs, r⟩ := K h' h.size rfl C.2.2.2.2.2.2.2.1.1 cA E (Arv.new AA hz) EE p e s m args below meth c T' ⟨⟨hx, hby, hml, hown, hnm, hret, hlk, hkn⟩, vm0, k0, locs, X', e', C.push E hlt⟩
  exact ⟨t, o, st' _ (by subst hq; exact hs), r⟩
theorem Go.newR {CC : String} {index : Nat} {z : Int32} {cap : Nat} {ad : String} (hd : decode bytes pc = .ok (.anewarray index, 3)) (hq : pc + 3 = pc') (w1 : (Jvm.Cond.classLink y.cls index CC).before a0 Z = true) (w2 : (Jvm.Cond.arrayOver (.object CC)).before a0 Z = true) (had : "[" ++ (FieldType.object CC).toString = ad) (hz : ¬ z < 0) (hcap : z.toNatClampNeg ≤ cap) (hbig : cap * 8 ≤ 536870912) (hc : k + 1 ≤ R.cells) (hl : n + cap ≤ R.slots)
    (K : ∀ h' a, h.size = a → h0.size ≤ a → ∀ cA, Ext h h' → Arv Z h' a cA (.object CC) z [] .null → Exa Z h' a ad → Ovr Z cA CC → Go l Z EL n0 nr kn y bytes mL ret R h0 WS Q (a :: SF) h' (k + 1) (n + cap) pc' Ls (.ref a :: st)) : Go l Z EL n0 nr kn y bytes mL ret R h0 WS Q SF h k n pc Ls (.int z :: st) := by
  intro p e s m args below meth c T hR
  obtain ⟨⟨hx, hby, hml, hown, hnm, hret, hlk, hkn⟩, vm0, k0, locs, X, e0, C⟩ := hR
  have hZ : Z.Warmed39 (s.setVm vm0).vm := C.1
  have hown' : (s.setVm vm0).vm.findClass y.cls = some m.cls := by rw [show (s.setVm vm0).vm = vm0 from rfl, C.2.1.1.1.alike.findClass]; exact hown
  obtain ⟨T', h', cA, X', e', E, AA, EE, OO, st'⟩ := Jvm.RoadKit.newRE X hx hZ hown' w1 w2 e0 (g := mkF m pc Ls (.int z :: st)) rfl (hb hby hd) rfl hz hcap hbig hc hl had
  have hlt : h.size < h'.size := AA.lt
  obtain ⟨t, o, hs, r⟩ := K h' h.size rfl C.2.2.2.2.2.2.2.1.1 cA E (Arv.new AA hz) EE OO p e s m args below meth c T' ⟨⟨hx, hby, hml, hown, hnm, hret, hlk, hkn⟩, vm0, k0, locs, X', e', C.push E hlt⟩
  exact ⟨t, o, st' _ (by subst hq; exact hs), r⟩
theorem Go.clone {index W : Nat} {ad : String} {a : Addr} {ty : FieldType} {kk : ClassId} {z : Int32} {hs0 : List (Int32 × Value)} {vs : List Value} {dv : Value} {cap : Nat} (hd : decode bytes pc = .ok (.invokevirtual index, 3)) (hq : pc + 3 = pc') (w1 : (Jvm.Cond.methodLink y.cls index ⟨ad, "clone", "()Ljava/lang/Object;"⟩).before a0 Z = true) (w2 : (Jvm.Cond.sameMethod ad "java/lang/Object" "clone" "()Ljava/lang/Object;").before a0 Z = true) (w3 : (Jvm.Cond.native ⟨"java/lang/Object", "clone", "()Ljava/lang/Object;"⟩).before a0 Z = true)
    (w4 : (Jvm.Cond.instanceMethod ⟨"java/lang/Object", "clone", "()Ljava/lang/Object;"⟩).before a0 Z = true) (w5 : (Jvm.Cond.selects ad ⟨ad, "clone", "()Ljava/lang/Object;"⟩ ⟨"java/lang/Object", "clone", "()Ljava/lang/Object;"⟩).before a0 Z = true) (w6 : (Jvm.Cond.castable ad "java/lang/Cloneable").before a0 Z = true) (F : Arh Z h a kk ty z hs0 vs dv) (E0 : Exa Z h a ad) (hsz : Ls.size = mL) (hf : 1 ≤ R.frames) (hW : (st.map fun v => v.category).sum ≤ W) (hl : W + 14 ≤ R.locals) (hcap : z.toNatClampNeg ≤ cap) (hc : k + 1 ≤ R.cells) (hsl : n + cap ≤ R.slots)
    (K : ∀ h' a, h.size = a → h0.size ≤ a → Ext h h' → Arh Z h' a kk ty z hs0 vs dv → Exa Z h' a ad → Go l Z EL n0 nr kn y bytes mL ret R h0 WS Q (a :: SF) h' (k + 1) (n + cap) pc' Ls (.ref a :: st)) : Go l Z EL n0 nr kn y bytes mL ret R h0 WS Q SF h k n pc Ls (.ref a :: st) := by
  intro p e s m args below meth c T hR
  obtain ⟨⟨hx, hby, hml, hown, hnm, hret, hlk, hkn⟩, vm0, k0, locs, X, e0, C⟩ := hR
  have hZ : Z.Warmed39 (s.setVm vm0).vm := C.1
  have hown' : (s.setVm vm0).vm.findClass y.cls = some m.cls := by rw [show (s.setVm vm0).vm = vm0 from rfl, C.2.1.1.1.alike.findClass]; exact hown
  obtain ⟨T', h', X', e', E, AA, EE, st'⟩ := Jvm.RoadKit.cloneH X hx hZ hown' w1 w2 w3 w4 w5 w6 e0 F E0 (g := mkF m pc Ls (.ref a :: st)) rfl (by rw [hml]; exact hsz) rfl (hb hby hd) hf (W := W) (cap := cap) (by show 2 * 0 + _ ≤ _; rw [Nat.mul_zero, Nat.zero_add]; exact hW) hl hcap hc hsl
  have hlt : h.size < h'.size := EE.lt
  obtain ⟨t, o, hs, r⟩ := K h' h.size rfl C.2.2.2.2.2.2.2.1.1 E AA EE p e s m args below meth c T' ⟨⟨hx, hby, hml, hown, hnm, hret, hlk, hkn⟩, vm0, k0, locs, X', e', C.push E hlt⟩
  exact ⟨t, o, st' _ (by subst hq; exact hs), r⟩
theorem Go.putF {R0 O nf d host CC : String} {index kk : Nat} {ty : FieldType} {a : Addr} {v old : Value} (hd : decode bytes pc = .ok (.putfield index, 3)) (hq : pc + 3 = pc') (ha : a ∈ SF) (w : (Jvm.Cond.fieldLink y.cls index R0 nf d).before a0 Z = true ∨ (Jvm.Cond.fieldLinkNest y.cls index R0 nf d host).before a0 Z = true) (via : Via Z R0 O nf d) (F : Fld Z h a O nf d old) (E : Exa Z h a CC) (L : (Jvm.Cond.lays CC O nf d).before a0 Z = true ∨ ((Jvm.Cond.laysFinal CC O nf d).before a0 Z = true ∧ y.cls = O ∧ y.name = "<init>")) (wi : (Jvm.Cond.instantiable CC kk).before a0 Z = true) (hty : parseFieldDescriptor d = some ty) (hn : narrow ty v = v) (hf : fits ty v = true)
    (K : ∀ h', Wr h h' a (Jvm.RoadKit.slotOf Z O nf d) v → Go l Z EL n0 nr kn y bytes mL ret R h0 WS Q SF h' k n pc' Ls st) : Go l Z EL n0 nr kn y bytes mL ret R h0 WS Q SF h k n pc Ls (v :: .ref a :: st) := by
  intro p e s m args below meth c T hR
  obtain ⟨⟨hx, hby, hml, hown, hnm, hret, hlk, hkn⟩, vm0, k0, locs, X, e0, C⟩ := hR
  have hZ : Z.Warmed39 (s.setVm vm0).vm := C.1
  have hown' : (s.setVm vm0).vm.findClass y.cls = some m.cls := by rw [show (s.setVm vm0).vm = vm0 from rfl, C.2.1.1.1.alike.findClass]; exact hown
  have L' := L.imp id (fun q => (⟨q.1, q.2.1, hnm.trans q.2.2⟩ : _ ∧ _ ∧ meth.name = "<init>"))
  obtain ⟨T', h', X', e', W', st'⟩ := Jvm.RoadKit.putF X hx hZ hown' w via e0 F E L' wi hty hn hf (g := mkF m pc Ls (v :: .ref a :: st)) rfl rfl (hb hby hd)
  obtain ⟨t, o, hs, r⟩ := K h' W' p e s m args below meth c T' ⟨⟨hx, hby, hml, hown, hnm, hret, hlk, hkn⟩, vm0, k0, _, X', e', C.wr W' ha⟩
  exact ⟨t, o, st' _ (by subst hq; exact hs), r⟩
theorem Go.putFN {R0 O nf d CC : String} {index kk : Nat} {ty : FieldType} {a : Addr} {v v' old : Value} (hd : decode bytes pc = .ok (.putfield index, 3)) (hq : pc + 3 = pc') (ha : a ∈ SF) (w : (Jvm.Cond.fieldLink y.cls index R0 nf d).before a0 Z = true) (via : Via Z R0 O nf d) (F : Fld Z h a O nf d old) (E : Exa Z h a CC) (L : (Jvm.Cond.lays CC O nf d).before a0 Z = true ∨ ((Jvm.Cond.laysFinal CC O nf d).before a0 Z = true ∧ y.cls = O ∧ y.name = "<init>")) (wi : (Jvm.Cond.instantiable CC kk).before a0 Z = true) (hty : parseFieldDescriptor d = some ty) (hn : narrow ty v = v') (hf : fits ty v' = true)
    (K : ∀ h', Wr h h' a (Jvm.RoadKit.slotOf Z O nf d) v' → Go l Z EL n0 nr kn y bytes mL ret R h0 WS Q SF h' k n pc' Ls st) : Go l Z EL n0 nr kn y bytes mL ret R h0 WS Q SF h k n pc Ls (v :: .ref a :: st) := by
  intro p e s m args below meth c T hR
  obtain ⟨⟨hx, hby, hml, hown, hnm, hret, hlk, hkn⟩, vm0, k0, locs, X, e0, C⟩ := hR
  have hZ : Z.Warmed39 (s.setVm vm0).vm := C.1
  have hown' : (s.setVm vm0).vm.findClass y.cls = some m.cls := by rw [show (s.setVm vm0).vm = vm0 from rfl, C.2.1.1.1.alike.findClass]; exact hown
  have L' := L.imp id (fun q => (⟨q.1, q.2.1, hnm.trans q.2.2⟩ : _ ∧ _ ∧ meth.name = "<init>"))
  obtain ⟨T', h', X', e', W', st'⟩ := Jvm.RoadKit.putFN X hx hZ hown' w via e0 F E L' wi hty hn hf (g := mkF m pc Ls (v :: .ref a :: st)) rfl rfl (hb hby hd)
  obtain ⟨t, o, hs, r⟩ := K h' W' p e s m args below meth c T' ⟨⟨hx, hby, hml, hown, hnm, hret, hlk, hkn⟩, vm0, k0, _, X', e', C.wr W' ha⟩
  exact ⟨t, o, st' _ (by subst hq; exact hs), r⟩
theorem Go.castore {a : Addr} {cl : Cell} {j x : Int32} (hd : decode bytes pc = .ok (.castore, 1)) (hq : pc + 1 = pc') (ha : a ∈ SF) (F : Arr Z h a cl .char) (hj : ¬ (j < 0 ∨ cl.slots.size ≤ j.toNatClampNeg))
    (K : ∀ h', Wr h h' a j.toNatClampNeg (.int (nar .char x)) → Go l Z EL n0 nr kn y bytes mL ret R h0 WS Q SF h' k n pc' Ls st) : Go l Z EL n0 nr kn y bytes mL ret R h0 WS Q SF h k n pc Ls (.int x :: .int j :: .ref a :: st) := by
  intro p e s m args below meth c T hR
  obtain ⟨⟨hx, hby, hml, hown, hnm, hret, hlk, hkn⟩, vm0, k0, locs, X, e0, C⟩ := hR
  have hZ : Z.Warmed39 (s.setVm vm0).vm := C.1
  have hown' : (s.setVm vm0).vm.findClass y.cls = some m.cls := by rw [show (s.setVm vm0).vm = vm0 from rfl, C.2.1.1.1.alike.findClass]; exact hown
  obtain ⟨T', h', X', e', W', st'⟩ := Jvm.RoadKit.stC X hx hZ e0 F hj (g := mkF m pc Ls (.int x :: .int j :: .ref a :: st)) rfl rfl (hb hby hd)
  obtain ⟨t, o, hs, r⟩ := K h' W' p e s m args below meth c T' ⟨⟨hx, hby, hml, hown, hnm, hret, hlk, hkn⟩, vm0, k0, _, X', e', C.wr W' ha⟩
  exact ⟨t, o, st' _ (by subst hq; exact hs), r⟩
theorem Go.castoreV {a : Addr} {cA : ClassId} {z j x : Int32} {vs : List Value} {dv : Value} {i : Nat} (hd : decode bytes pc = .ok (.castore, 1)) (hq : pc + 1 = pc') (ha : a ∈ SF) (F : Arv Z h a cA .char z vs dv) (hj : ¬ j < 0 ∧ j < z) (hji : j.toNatClampNeg = i) (hi : i < vs.length)
    (K : ∀ h', Wr h h' a j.toNatClampNeg (.int (nar .char x)) → Arv Z h' a cA .char z (vs.set i (.int (nar .char x))) dv → Go l Z EL n0 nr kn y bytes mL ret R h0 WS Q SF h' k n pc' Ls st) : Go l Z EL n0 nr kn y bytes mL ret R h0 WS Q SF h k n pc Ls (.int x :: .int j :: .ref a :: st) := by
  intro p e s m args below meth c T hR
  obtain ⟨⟨hx, hby, hml, hown, hnm, hret, hlk, hkn⟩, vm0, k0, locs, X, e0, C⟩ := hR
  have hZ : Z.Warmed39 (s.setVm vm0).vm := C.1
  have hown' : (s.setVm vm0).vm.findClass y.cls = some m.cls := by rw [show (s.setVm vm0).vm = vm0 from rfl, C.2.1.1.1.alike.findClass]; exact hown
  obtain ⟨cl, F, q1, S, q3, H, G⟩ := F
  obtain ⟨T', h', X', e', W', st'⟩ := Jvm.RoadKit.stC X hx hZ e0 F (inb_of S hj) (g := mkF m pc Ls (.int x :: .int j :: .ref a :: st)) rfl rfl (hb hby hd)
  obtain ⟨t, o, hs, r⟩ := K h' W' (Arv.set F q1 S q3 H G (fits_nar_char x) W' i hji hi) p e s m args below meth c T' ⟨⟨hx, hby, hml, hown, hnm, hret, hlk, hkn⟩, vm0, k0, _, X', e', C.wr W' ha⟩
  exact ⟨t, o, st' _ (by subst hq; exact hs), r⟩
theorem Go.bastore {a : Addr} {cl : Cell} {j x : Int32} (hd : decode bytes pc = .ok (.bastore, 1)) (hq : pc + 1 = pc') (ha : a ∈ SF) (F : Arr Z h a cl .byte) (hj : ¬ (j < 0 ∨ cl.slots.size ≤ j.toNatClampNeg))
    (K : ∀ h', Wr h h' a j.toNatClampNeg (.int (nar .byte x)) → Go l Z EL n0 nr kn y bytes mL ret R h0 WS Q SF h' k n pc' Ls st) : Go l Z EL n0 nr kn y bytes mL ret R h0 WS Q SF h k n pc Ls (.int x :: .int j :: .ref a :: st) := by
  intro p e s m args below meth c T hR
  obtain ⟨⟨hx, hby, hml, hown, hnm, hret, hlk, hkn⟩, vm0, k0, locs, X, e0, C⟩ := hR
  have hZ : Z.Warmed39 (s.setVm vm0).vm := C.1
  have hown' : (s.setVm vm0).vm.findClass y.cls = some m.cls := by rw [show (s.setVm vm0).vm = vm0 from rfl, C.2.1.1.1.alike.findClass]; exact hown
  obtain ⟨T', h', X', e', W', st'⟩ := Jvm.RoadKit.stB X hx hZ e0 F hj (g := mkF m pc Ls (.int x :: .int j :: .ref a :: st)) rfl rfl (hb hby hd)
  obtain ⟨t, o, hs, r⟩ := K h' W' p e s m args below meth c T' ⟨⟨hx, hby, hml, hown, hnm, hret, hlk, hkn⟩, vm0, k0, _, X', e', C.wr W' ha⟩
  exact ⟨t, o, st' _ (by subst hq; exact hs), r⟩
theorem Go.bastoreV {a : Addr} {cA : ClassId} {z j x : Int32} {vs : List Value} {dv : Value} {i : Nat} (hd : decode bytes pc = .ok (.bastore, 1)) (hq : pc + 1 = pc') (ha : a ∈ SF) (F : Arv Z h a cA .byte z vs dv) (hj : ¬ j < 0 ∧ j < z) (hji : j.toNatClampNeg = i) (hi : i < vs.length)
    (K : ∀ h', Wr h h' a j.toNatClampNeg (.int (nar .byte x)) → Arv Z h' a cA .byte z (vs.set i (.int (nar .byte x))) dv → Go l Z EL n0 nr kn y bytes mL ret R h0 WS Q SF h' k n pc' Ls st) : Go l Z EL n0 nr kn y bytes mL ret R h0 WS Q SF h k n pc Ls (.int x :: .int j :: .ref a :: st) := by
  intro p e s m args below meth c T hR
  obtain ⟨⟨hx, hby, hml, hown, hnm, hret, hlk, hkn⟩, vm0, k0, locs, X, e0, C⟩ := hR
  have hZ : Z.Warmed39 (s.setVm vm0).vm := C.1
  have hown' : (s.setVm vm0).vm.findClass y.cls = some m.cls := by rw [show (s.setVm vm0).vm = vm0 from rfl, C.2.1.1.1.alike.findClass]; exact hown
  obtain ⟨cl, F, q1, S, q3, H, G⟩ := F
  obtain ⟨T', h', X', e', W', st'⟩ := Jvm.RoadKit.stB X hx hZ e0 F (inb_of S hj) (g := mkF m pc Ls (.int x :: .int j :: .ref a :: st)) rfl rfl (hb hby hd)
  obtain ⟨t, o, hs, r⟩ := K h' W' (Arv.set F q1 S q3 H G (fits_nar_byte x) W' i hji hi) p e s m args below meth c T' ⟨⟨hx, hby, hml, hown, hnm, hret, hlk, hkn⟩, vm0, k0, _, X', e', C.wr W' ha⟩
  exact ⟨t, o, st' _ (by subst hq; exact hs), r⟩
theorem Go.aastore {a : Addr} {cl : Cell} {ty : FieldType} {j : Int32} {v : Value} (hd : decode bytes pc = .ok (.aastore, 1)) (hq : pc + 1 = pc') (ha : a ∈ SF) (F : Arr Z h a cl ty) (hj : ¬ (j < 0 ∨ cl.slots.size ≤ j.toNatClampNeg)) (hty : ty.isReference = true) (S : Sto Z h a v)
    (K : ∀ h', Wr h h' a j.toNatClampNeg v → Go l Z EL n0 nr kn y bytes mL ret R h0 WS Q SF h' k n pc' Ls st) : Go l Z EL n0 nr kn y bytes mL ret R h0 WS Q SF h k n pc Ls (v :: .int j :: .ref a :: st) := by
  intro p e s m args below meth c T hR
  obtain ⟨⟨hx, hby, hml, hown, hnm, hret, hlk, hkn⟩, vm0, k0, locs, X, e0, C⟩ := hR
  have hZ : Z.Warmed39 (s.setVm vm0).vm := C.1
  have hown' : (s.setVm vm0).vm.findClass y.cls = some m.cls := by rw [show (s.setVm vm0).vm = vm0 from rfl, C.2.1.1.1.alike.findClass]; exact hown
  obtain ⟨T', h', X', e', W', st'⟩ := Jvm.RoadKit.stR X hx hZ e0 F hj hty S (g := mkF m pc Ls (v :: .int j :: .ref a :: st)) rfl rfl (hb hby hd)
  obtain ⟨t, o, hs, r⟩ := K h' W' p e s m args below meth c T' ⟨⟨hx, hby, hml, hown, hnm, hret, hlk, hkn⟩, vm0, k0, _, X', e', C.wr W' ha⟩
  exact ⟨t, o, st' _ (by subst hq; exact hs), r⟩
theorem Go.aastoreV {a : Addr} {cA : ClassId} {ty : FieldType} {z j : Int32} {v : Value} {vs : List Value} {dv : Value} {i : Nat} (hd : decode bytes pc = .ok (.aastore, 1)) (hq : pc + 1 = pc') (ha : a ∈ SF) (F : Arv Z h a cA ty z vs dv) (hty : ty.isReference = true) (hft : fits ty v = true) (S : ∀ cl, Arr Z h a cl ty → cl.cls = cA → Sto Z h a v) (hj : ¬ j < 0 ∧ j < z) (hji : j.toNatClampNeg = i) (hi : i < vs.length)
    (K : ∀ h', Wr h h' a j.toNatClampNeg v → Arv Z h' a cA ty z (vs.set i v) dv → Go l Z EL n0 nr kn y bytes mL ret R h0 WS Q SF h' k n pc' Ls st) : Go l Z EL n0 nr kn y bytes mL ret R h0 WS Q SF h k n pc Ls (v :: .int j :: .ref a :: st) := by
  intro p e s m args below meth c T hR
  obtain ⟨⟨hx, hby, hml, hown, hnm, hret, hlk, hkn⟩, vm0, k0, locs, X, e0, C⟩ := hR
  have hZ : Z.Warmed39 (s.setVm vm0).vm := C.1
  have hown' : (s.setVm vm0).vm.findClass y.cls = some m.cls := by rw [show (s.setVm vm0).vm = vm0 from rfl, C.2.1.1.1.alike.findClass]; exact hown
  obtain ⟨cl, F, q1, S0, q3, H, G⟩ := F
  obtain ⟨T', h', X', e', W', st'⟩ := Jvm.RoadKit.stR X hx hZ e0 F (inb_of S0 hj) hty (S cl F q1) (g := mkF m pc Ls (v :: .int j :: .ref a :: st)) rfl rfl (hb hby hd)
  obtain ⟨t, o, hs, r⟩ := K h' W' (Arv.set F q1 S0 q3 H G hft W' i hji hi) p e s m args below meth c T' ⟨⟨hx, hby, hml, hown, hnm, hret, hlk, hkn⟩, vm0, k0, _, X', e', C.wr W' ha⟩
  exact ⟨t, o, st' _ (by subst hq; exact hs), r⟩
theorem Go.cpA {index W : Nat} {a b : Addr} {kk k' : ClassId} {ty ty' : FieldType} {z z' sp dp nn : Int32} {vs vd us : List Value} {dv dd : Value} (hd : decode bytes pc = .ok (.invokestatic index, 3)) (hq : pc + 3 = pc') (hb' : b ∈ SF) (w1 : (Jvm.Cond.methodLink y.cls index Jvm.Stand.acN).before a0 Z = true) (w2 : (Jvm.Cond.native Jvm.Stand.acN).before a0 Z = true) (w3 : (Jvm.Cond.static Jvm.Stand.acN).before a0 Z = true) (w4 : (Jvm.Cond.initialized "java/lang/System").before a0 Z = true)
    (AA : Arv Z h a kk ty z vs dv) (BB : Arv Z h b k' ty' z' vd dd) (hty : (ty = ty' ∧ refKind ty = false) ∨ (refKind ty = true ∧ refKind ty' = true ∧ StoL Z h b us)) (h1 : ¬ sp < 0) (h2 : ¬ dp < 0) (h3 : ¬ nn < 0) (h4 : sp.toNatClampNeg + nn.toNatClampNeg ≤ z.toNatClampNeg) (h5 : dp.toNatClampNeg + nn.toNatClampNeg ≤ z'.toNatClampNeg)
    (hus : us = (List.range nn.toNatClampNeg).map fun i => vs.getD (sp.toNatClampNeg + i) dv) (hvl : dp.toNatClampNeg + nn.toNatClampNeg ≤ vd.length) (hsz : Ls.size = mL) (hf : 1 ≤ R.frames) (hW : (st.map fun v => v.category).sum ≤ W) (hl : W + (nativeFrameWords "java/lang/System" "arraycopy" 5 + 11) ≤ R.locals)
    (K : ∀ h', Keep h h' [b] → Arv Z h' b k' ty' z' (vd.take dp.toNatClampNeg ++ us ++ vd.drop (dp.toNatClampNeg + nn.toNatClampNeg)) dd → Go l Z EL n0 nr kn y bytes mL ret R h0 WS Q SF h' k n pc' Ls st) : Go l Z EL n0 nr kn y bytes mL ret R h0 WS Q SF h k n pc Ls (.int nn :: .int dp :: .ref b :: .int sp :: .ref a :: st) := by
  intro p e s m args below meth c T hR
  obtain ⟨⟨hx, hby, hml, hown, hnm, hret, hlk, hkn⟩, vm0, k0, locs, X, e0, C⟩ := hR
  have hZ : Z.Warmed39 (s.setVm vm0).vm := C.1
  have hown' : (s.setVm vm0).vm.findClass y.cls = some m.cls := by rw [show (s.setVm vm0).vm = vm0 from rfl, C.2.1.1.1.alike.findClass]; exact hown
  have N := C.2.2.1
  have ge := (C.2.2.2.2.1 b hb').1.1
  obtain ⟨T', h', L, X', e', FL, KK, BB', st'⟩ := Jvm.RoadKit.cpA X hx hZ hown' w1 w2 w3 w4 e0 AA BB hty h1 h2 h3 h4 h5 hus hvl N ge (g := mkF m pc Ls (.int nn :: .int dp :: .ref b :: .int sp :: .ref a :: st)) rfl (by rw [hml]; exact hsz) rfl (hb hby hd) hf (W := W) (by show 2 * 0 + _ ≤ _; rw [Nat.mul_zero, Nat.zero_add]; exact hW) hl
  have hSb := (C.2.2.2.2.1 b hb').2
  have C' : Cor Z EL n0 nr h0 WS SF h' s vm0 k0 L := by
    have q := C.keep (SN := []) (L := []) KK (fun x hx => by cases List.mem_singleton.mp hx; exact hb') (Fr.nil n0) (CHr.keep KK (fun x hx => by cases List.mem_singleton.mp hx; exact hSb) C.2.2.2.1.1) C.1 C.2.1.1 (Nat.le_trans C.2.1.2 KK.1) C.2.2.2.2.2.1 (fun x hx => nomatch hx)
    exact ⟨q.1, q.2.1, FL, q.2.2.2⟩
  obtain ⟨t, o, hs, r⟩ := K h' KK BB' p e s m args below meth c T' ⟨⟨hx, hby, hml, hown, hnm, hret, hlk, hkn⟩, vm0, k0, L, X', e', C'⟩
  exact ⟨t, o, st' _ (by subst hq; exact hs), r⟩
theorem Go.ldcS {text : String} {index nn : Nat} {vs : List Value} {z : Int32} (hnr : nr = false) (hd : decode bytes pc = .ok (.ldc index, 2)) (hq : pc + 2 = pc') (w : (Jvm.Cond.stringLink y.cls index text).before a0 Z = true) (wS : ∀ a ∈ Bundle.stringAtoms, a.before a0 Z = true) (hmem : (y.cls, index) ∈ EL) (ht : (∀ c ∈ text.toList, c.toNat < 256) ∧ text.toList.map (fun c => Value.int (Jvm.Lit.byteI c.toNat.toUInt16)) = vs) (hz : ¬ z < 0) (hzl : z.toNatClampNeg = vs.length) (hn : 4 * text.toList.length ≤ nn) (hbig : nn ≤ 536870912) (hc : k + 2 ≤ R.cells) (hl : n + (nn + 4) ≤ R.slots)
    (K : ∀ h' a b kb, Ext h h' → Exa Z h' a "java/lang/String" → Fld Z h' a "java/lang/String" "coder" "B" (.int 0) → Fld Z h' a "java/lang/String" "value" "[B" (.ref b) → Arv Z h' b kb .byte z vs (.int 0) → (∀ x ∈ SF, x ≠ a ∧ x ≠ b) → Go l Z EL n0 nr kn y bytes mL ret R h0 WS Q SF h' (k + 2) (n + (nn + 4)) pc' Ls (.ref a :: st)) : Go l Z EL n0 nr kn y bytes mL ret R h0 WS Q SF h k n pc Ls st := by
  intro p e s m args below meth c T hR
  obtain ⟨⟨hx, hby, hml, hown, hnm, hret, hlk, hkn⟩, vm0, k0, locs, X, e0, C⟩ := hR
  have hZ : Z.Warmed39 (s.setVm vm0).vm := C.1
  have hown' : (s.setVm vm0).vm.findClass y.cls = some m.cls := by rw [show (s.setVm vm0).vm = vm0 from rfl, C.2.1.1.1.alike.findClass]; exact hown
  obtain ⟨c1, ⟨c2, c2'⟩, c3, c4, c5, c6, c7, c8, c9, a1, hEL⟩ := C
  have hEL' : EW Z a0 EL := fun q hq => by
    obtain ⟨tx, hx1, hx2⟩ := hEL q hq
    exact ⟨tx, (by simpa [Jvm.Cond.before, Jvm.Cond.holds, Jvm.Cond.value] using hx1), hx2⟩
  obtain ⟨a, T', h', k1, b, kb, X', e', E, hS, hk, hW, hf, E1, E2, E3, E4, -, -, hC, -, hne, st'⟩ := Jvm.RoadKit.ldcCH X hx c1 hown' w wS e0 c2 c2' hEL' hmem c4.1 ht hz hzl (g := mkF m pc Ls st) rfl (hb hby hd) hn hbig hc hl
  have C' : Cor Z EL n0 nr h0 WS SF h' s T'.vm k1 locs := by
    refine ⟨hW, ⟨hS, hk⟩, c3, c4.trans hC, fun x hx => ⟨⟨(c5 x hx).1.1, Nat.lt_of_lt_of_le (c5 x hx).1.2.1 E.1, (c5 x hx).1.2.2⟩, hC.safe (c5 x hx).1.2.1 (c5 x hx).2⟩, (fun q => by rw [hnr] at q; cases q), ⟨c7.1, Nat.le_trans c7.2.1 E.1, fun a c q => E.2 a c (c7.2.2 a c q)⟩, c8.ext E, c9, a1, hEL⟩
  obtain ⟨t, o, hs, r⟩ := K h' a b kb E E1 E2 E3 E4 (fun x hx => hne x (C'.2.2.2.2.1 x hx).2) p e s m args below meth c T' ⟨⟨hx, hby, hml, hown, hnm, hret, hlk, hkn⟩, T'.vm, k1, locs, X', e', C'⟩
  exact ⟨t, o, st' _ (by subst hq; exact hs), r⟩
theorem Go.ldcO {text : String} {index nn : Nat} (hnr : nr = false) (hd : decode bytes pc = .ok (.ldc index, 2)) (hq : pc + 2 = pc') (w : (Jvm.Cond.stringLink y.cls index text).before a0 Z = true) (wS : ∀ a ∈ Bundle.stringAtoms, a.before a0 Z = true) (hn : 4 * text.toList.length ≤ nn) (hbig : nn ≤ 536870912) (hc : k + 2 ≤ R.cells) (hl : n + (nn + 4) ≤ R.slots)
    (K : ∀ h' a, Ext h h' → Go l Z EL n0 nr kn y bytes mL ret R h0 WS Q SF h' (k + 2) (n + (nn + 4)) pc' Ls (.ref a :: st)) : Go l Z EL n0 nr kn y bytes mL ret R h0 WS Q SF h k n pc Ls st := by
  intro p e s m args below meth c T hR
  obtain ⟨⟨hx, hby, hml, hown, hnm, hret, hlk, hkn⟩, vm0, k0, locs, X, e0, C⟩ := hR
  have hZ : Z.Warmed39 (s.setVm vm0).vm := C.1
  have hown' : (s.setVm vm0).vm.findClass y.cls = some m.cls := by rw [show (s.setVm vm0).vm = vm0 from rfl, C.2.1.1.1.alike.findClass]; exact hown
  obtain ⟨c1, ⟨c2, c2'⟩, c3, c4, c5, c6, c7, c8, c9, a1, hEL⟩ := C
  have hEL' : EW Z a0 EL := fun q hq => by
    obtain ⟨tx, hx1, hx2⟩ := hEL q hq
    exact ⟨tx, (by simpa [Jvm.Cond.before, Jvm.Cond.holds, Jvm.Cond.value] using hx1), hx2⟩
  obtain ⟨a, T', h', k1, X', e', E, hS, hk, hW, hf, hC, -, st'⟩ := Jvm.RoadKit.ldcOH X hx c1 hown' w wS e0 c2 c2' hEL' c4.1 (g := mkF m pc Ls st) rfl (hb hby hd) hn hbig hc hl
  have C' : Cor Z EL n0 nr h0 WS SF h' s T'.vm k1 locs := by
    refine ⟨hW, ⟨hS, hk⟩, c3, c4.trans hC, fun x hx => ⟨⟨(c5 x hx).1.1, Nat.lt_of_lt_of_le (c5 x hx).1.2.1 E.1, (c5 x hx).1.2.2⟩, hC.safe (c5 x hx).1.2.1 (c5 x hx).2⟩, (fun q => by rw [hnr] at q; cases q), ⟨c7.1, Nat.le_trans c7.2.1 E.1, fun a c q => E.2 a c (c7.2.2 a c q)⟩, c8.ext E, c9, a1, hEL⟩
  obtain ⟨t, o, hs, r⟩ := K h' a E p e s m args below meth c T' ⟨⟨hx, hby, hml, hown, hnm, hret, hlk, hkn⟩, T'.vm, k1, locs, X', e', C'⟩
  exact ⟨t, o, st' _ (by subst hq; exact hs), r⟩
theorem Go.tsw {i : Int32} {dflt low high : Int} {offs : Array Int} {len : Nat} {o : Int} (hd : decode bytes pc = .ok (.tableswitch dflt low high offs, len)) (hin : ¬ (i.toInt < low ∨ i.toInt > high)) (hoff : offs[(i.toInt - low).toNat]? = some o) (ho : 0 ≤ (pc : Int) + o) (hq : ((pc : Int) + o).toNat = pc') (K : Go l Z EL n0 nr kn y bytes mL ret R h0 WS Q SF h k n pc' Ls st) : Go l Z EL n0 nr kn y bytes mL ret R h0 WS Q SF h k n pc Ls (.int i :: st) :=
  Go.plain (fun p e below T m c target hA hx hb hk => XS.tswIn hA hx rfl (pc0 := pc) (pc' := pc') rfl (hb ▸ hd) rfl hin hoff ho hq hk) K
theorem Go.retV (hd : decode bytes pc = .ok (.return_, 1)) (hr0 : ret = none) (hk : k ≤ R.cells) (hn : n ≤ R.slots) (SN : List Addr) (hSN : ∀ x ∈ SN, x ∈ SF ∧ h0.size ≤ x) (hQ : Q none h SN) : Go l Z EL n0 nr kn y bytes mL ret R h0 WS Q SF h k n pc Ls [] := by
  intro p e s m args below meth c T hR
  obtain ⟨⟨hx, hby, hml, hown, hnm, hret, hlk, hkn⟩, vm0, k0, locs, X, e0, C⟩ := hR
  have hZ : Z.Warmed39 (s.setVm vm0).vm := C.1
  have hown' : (s.setVm vm0).vm.findClass y.cls = some m.cls := by rw [show (s.setVm vm0).vm = vm0 from rfl, C.2.1.1.1.alike.findClass]; exact hown
  obtain ⟨c1, ⟨c2, c2'⟩, c3, c4, c5, c6, c7, c8, c9, a1, hEL⟩ := C
  obtain ⟨fs, hr, hrun, hended, hE⟩ := X.leaveW c2 (by rw [e0]; exact c2') (v := none) (fun _ => rfl) hlk
  have A1 := CHv.at X c1 hEL c4.1
  refine ⟨_, _, X.returnOut hx (hret.trans hr0) (hb hby hd) hr, hrun, hended, _, locs, SN, rfl, by show Q _ T.heap SN; rw [e0]; exact hQ, c3, by show Keep h0 T.heap WS; rw [e0]; exact c8, fun x hx => ?_, ?_, fun q => State.WarmedH.trans (t := s.setVm vm0) (c6 q) X.warmed, ⟨hE.1, hE.2.1, hE.2.2.1, hE.2.2.2.mono hk hn⟩⟩
  · show (h0.size ≤ x ∧ x < T.heap.size) ∧ Safe Z EL T.vm T.heap x
    rw [e0]
    exact ⟨⟨(hSN x hx).2, (c5 x (hSN x hx).1).1.2.1⟩, A1.safe (c5 x (hSN x hx).1).1.2.1 (c5 x (hSN x hx).1).2⟩
  · show CHr Z EL s.vm h0 T.vm T.heap
    rw [e0]
    exact c4.trans A1
theorem Go.retW {v : Value} {ty : FieldType} {i : Instr} (hd : decode bytes pc = .ok (i, 1)) (hr0 : ret = some ty) (hnw : narrow ty v = v) (hi : (i = .ireturn ∧ (ty = .int ∨ ty = .boolean ∨ ty = .byte ∨ ty = .char ∨ ty = .short) ∧ ∃ z, v = .int z) ∨ (i = .lreturn ∧ ty = .long ∧ ∃ z, v = .long z) ∨ (i = .dreturn ∧ ty = .double ∧ ∃ z, v = .double z) ∨ (i = .freturn ∧ ty = .float ∧ ∃ z, v = .float z) ∨ (i = .areturn ∧ ty.isReference = true ∧ v.isRef = true)) (hk : k ≤ R.cells) (hn : n ≤ R.slots) (SN : List Addr) (hSN : ∀ x ∈ SN, x ∈ SF ∧ h0.size ≤ x) (hQ : Q (some v) h SN) : Go l Z EL n0 nr kn y bytes mL ret R h0 WS Q SF h k n pc Ls (v :: st) := by
  intro p e s m args below meth c T hR
  obtain ⟨⟨hx, hby, hml, hown, hnm, hret, hlk, hkn⟩, vm0, k0, locs, X, e0, C⟩ := hR
  have hZ : Z.Warmed39 (s.setVm vm0).vm := C.1
  have hown' : (s.setVm vm0).vm.findClass y.cls = some m.cls := by rw [show (s.setVm vm0).vm = vm0 from rfl, C.2.1.1.1.alike.findClass]; exact hown
  obtain ⟨c1, ⟨c2, c2'⟩, c3, c4, c5, c6, c7, c8, c9, a1, hEL⟩ := C
  obtain ⟨fs, hr, hrun, hended, hE⟩ := X.leaveW c2 (by rw [e0]; exact c2') (v := some v) (fun q => by rw [hret, hr0] at q; cases q) hlk
  have A1 := CHv.at X c1 hEL c4.1
  refine ⟨_, _, Jvm.RoadKit.retOut X hx (hret.trans hr0) hnw hi (hb hby hd) hr, hrun, hended, _, locs, SN, rfl, by show Q _ T.heap SN; rw [e0]; exact hQ, c3, by show Keep h0 T.heap WS; rw [e0]; exact c8, fun x hx => ?_, ?_, fun q => State.WarmedH.trans (t := s.setVm vm0) (c6 q) X.warmed, ⟨hE.1, hE.2.1, hE.2.2.1, hE.2.2.2.mono hk hn⟩⟩
  · show (h0.size ≤ x ∧ x < T.heap.size) ∧ Safe Z EL T.vm T.heap x
    rw [e0]
    exact ⟨⟨(hSN x hx).2, (c5 x (hSN x hx).1).1.2.1⟩, A1.safe (c5 x (hSN x hx).1).1.2.1 (c5 x (hSN x hx).1).2⟩
  · show CHr Z EL s.vm h0 T.vm T.heap
    rw [e0]
    exact c4.trans A1
theorem Go.retI {z : Int32} (hd : decode bytes pc = .ok (.ireturn, 1)) (hr0 : ret = some .int) (hk : k ≤ R.cells) (hn : n ≤ R.slots) (SN : List Addr) (hSN : ∀ x ∈ SN, x ∈ SF ∧ h0.size ≤ x) (hQ : Q (some (.int z)) h SN) : Go l Z EL n0 nr kn y bytes mL ret R h0 WS Q SF h k n pc Ls (.int z :: st) :=
  Go.retW hd hr0 rfl (Or.inl ⟨rfl, Or.inl rfl, z, rfl⟩) hk hn SN hSN hQ
theorem Go.retA {v : Value} {ty : FieldType} (hd : decode bytes pc = .ok (.areturn, 1)) (hr0 : ret = some ty) (hty : ty.isReference = true) (hv : v.isRef = true) (hk : k ≤ R.cells) (hn : n ≤ R.slots) (SN : List Addr) (hSN : ∀ x ∈ SN, x ∈ SF ∧ h0.size ≤ x) (hQ : Q (some v) h SN) : Go l Z EL n0 nr kn y bytes mL ret R h0 WS Q SF h k n pc Ls (v :: st) :=
  Go.retW hd hr0 (by cases ty <;> first | (cases hty; done) | (rcases ref_cases hv with rfl | ⟨a, rfl⟩ <;> rfl)) (Or.inr (Or.inr (Or.inr (Or.inr ⟨rfl, hty, hv⟩)))) hk hn SN hSN hQ
theorem Go.retS {z : Int32} {ty : FieldType} (hd : decode bytes pc = .ok (.ireturn, 1)) (hr0 : ret = some ty) (hty : ty = .boolean ∨ ty = .byte ∨ ty = .char ∨ ty = .short) (hnw : narrow ty (.int z) = .int z) (hk : k ≤ R.cells) (hn : n ≤ R.slots) (SN : List Addr) (hSN : ∀ x ∈ SN, x ∈ SF ∧ h0.size ≤ x) (hQ : Q (some (.int z)) h SN) : Go l Z EL n0 nr kn y bytes mL ret R h0 WS Q SF h k n pc Ls (.int z :: st) :=
  Go.retW hd hr0 hnw (Or.inl ⟨rfl, Or.inr hty, z, rfl⟩) hk hn SN hSN hQ
theorem Met.of_go {as' : Array Value} (hpl : plainFor y = true) (hef : ∀ m, entryFrame m as' mL = mkF m 0 Ls []) (G : (Z.heap.size = n0 ∧ Ext Z.heap h0) → (∀ x ∈ WS, n0 ≤ x ∧ x < h0.size) → Go l Z EL n0 nr kn y bytes mL ret R h0 WS Q WS h0 0 0 0 Ls []) : Met l Z EL n0 nr kn y bytes mL ret R WS as' h0 Q := by
  intro ws
  refine MetFree.of_bodySF hpl hisR ?_
  intro p e s m args below meth c s₁ Bd hml0 hP hK
  obtain ⟨rfl, hZ, hh, hC, hS, hO, hEL⟩ := hP
  have X0 : Stand p l e R s m args below meth c s₁ [] 0 0 := Stand.of_body Bd
  have e0 : s₁.heap = h0 := by rw [← hh, Bd.state]; rfl
  have hnm := (name_of_methodNamed Bd.named Bd.method).1
  rw [hef m]
  exact G hO (fun x hx => (hS x hx).1) p e s m args below meth c s₁ ⟨⟨Bd.exec, Bd.bytes, hml0, findClass_of_methodNamed Bd.named, hnm, Bd.returns, BodyLoose.notSynchronized Bd, hK⟩, s.vm, 0, [], X0, e0,
    hZ, ⟨(State.WarmedH.refl s).since 0, Nat.zero_le _⟩, Fr.nil n0, CHr.refl hC, fun x hx => ⟨⟨(hS x hx).1.1, (hS x hx).1.2, Or.inl hx⟩, (hS x hx).2⟩, fun _ => State.WarmedH.refl s, hO, Keep.refl _ _, hh, hEL⟩
theorem Pays.of_met {z : MethodName} {zb : ByteArray} {zL : Nat} {zr : Option FieldType} {rm : Room} {len W : Nat} {ws : List Addr} {as' : Array Value} {Q' : Option Value → Heap → List Addr → Prop} (M : Met l Z EL n0 nr kn z zb zL zr rm ws as' h Q') (wc : (Jvm.Cond.code z zb zL zr).before a0 Z = true) (wz : (Jvm.Cond.initialized z.cls).before a0 Z = true) (hf : rm.frames + 1 ≤ R.frames) (hl : W + (zL + 11) + rm.locals ≤ R.locals) :
    Pays l Z EL n0 nr kn R len z W rm.cells rm.slots ws as' h Q' := by
  intro p e below s args vm0 hx hZ hC hS hO hEL hkn
  obtain ⟨a1, hE1⟩ := hEL
  refine BackS.of_freeWG (bytes := zb) (maxL := zL) (ret := zr) (E := fun _ first o t L kk nn => kk = rm.cells ∧ nn = rm.slots ∧ ∃ v SN, o = .returned v ∧ Q' v t.heap SN ∧ Fr n0 L ∧ Keep h t.heap ws ∧ (∀ x ∈ SN, (h.size ≤ x ∧ x < t.heap.size) ∧ Safe Z EL t.vm t.heap x) ∧ CHr Z EL first.vm h t.vm t.heap ∧ (nr = true → first.WarmedH t.vm)) (M []) hf hl ?_ ?_ ?_ ?_ ?_
  · intro m meth c A a Y hp
    have hU : Z.Warmed39 A.U.vm := wtrans (s := s.setVm vm0) hZ Y.warmed
    exact ⟨by show (Jvm.Cond.and _ .tt).before a A.U = true; rw [Cond.before_and, mv hU wc]; rfl, mv hU wc, mv hU wz, hp.2.2.1, hp.2.2.2⟩
  · intro m meth c A a g mk Y hp
    have A1 := CHv.at Y hZ hE1 hC
    exact ⟨hp.1, wtrans (s := s.setVm vm0) hZ Y.warmed, hp.2.1, A1.1, fun x hx => ⟨(hS x hx).1, A1.safe (hS x hx).1.2 (hS x hx).2⟩, hO, a1, hE1⟩
  · intro m meth c A a g mk Y hp hg q
    exact known_frames Y hg (hkn q).1 (hkn q).2
  · rintro a first o t ⟨v, L, SN, h1, h2, h3, h4, h5, h6, h7, h8⟩
    exact ⟨L, _, _, h8, rfl, rfl, v, SN, h1, h2, h3, h4, h5, h6, h7⟩
  · rintro m meth c A a g mk v t L kk nn Y hp - - ⟨e1, e2, v', SN, e3, e4, e5, e6, e7, e8, e9⟩
    cases e3
    subst e1 e2
    exact ⟨L, SN, e4, e5, e6, e7, (CHv.at Y hZ hE1 hC).trans e8, fun q => State.WarmedH.trans (t := A.U) Y.warmed (e9 q), rfl, rfl, rfl⟩
theorem Pays.of_back {z : MethodName} {len W ck cn : Nat} {ws : List Addr} {as' : Array Value} {Q' : Option Value → Heap → List Addr → Prop}
    (B : ∀ (p : Program) (e : Env) (below : List Frame) (s : State) (args : Array Value), p.tables.exec = Jvm.exec → Z.Warmed39 s.vm → (Z.heap.size = n0 ∧ Ext Z.heap h) → (∀ x ∈ ws, n0 ≤ x ∧ x < h.size) → Back l R p e below s args z len W (fun A a => a = as' ∧ A.U.heap = h ∧ A.cells + ck ≤ R.cells ∧ A.slots + cn ≤ R.slots) (fun A _ v B => ∃ L, Q' v B.U.heap [] ∧ Fr n0 L ∧ Keep h B.U.heap ws ∧ B.locs = A.locs ++ L ∧ B.cells = A.cells + ck ∧ B.slots = A.slots + cn)) :
    Pays l Z EL n0 nr kn R len z W ck cn ws as' h Q' := by
  intro p e below s args vm0 hx hZ hC hS hO hEL hkn
  obtain ⟨a1, hE1⟩ := hEL
  intro m meth c A g ig mk a X hg hsize hdg hW hn hp
  obtain ⟨v, B', X', ⟨L, q1, q2, q3, q4, q5, q6⟩, hst⟩ := B p e below (s.setVm vm0) args hx hZ hO (fun x hx => (hS x hx).1) m meth c A g ig mk a X hg hsize hdg hW hn hp
  have A1 : CHr Z EL vm0 h vm0 B'.U.heap := CHr.keep q3 (fun x hx => (hS x hx).2) hC
  have A2 := CHv.at X' hZ hE1 A1.1
  exact ⟨v, B', X'.retabled X'.warmed.wide, X'.warmed.since _, by rw [hp.2.1]; exact q3.1, ⟨L, [], q1, q2, q3, fun x hx => (nomatch hx), A1.trans A2, fun _ => X'.warmed, q4, q5, q6⟩, hst⟩
theorem Go.after {p : Program} {e : Env} {m : MethodId} {args : Array Value} {below : List Frame} {meth : Method} {c : Code} {T : State} {len ck cn : Nat} {ws : List Addr} {as' : Array Value} {Q' : Option Value → Heap → List Addr → Prop} {s₀ : State}
    (hA : p.tables.exec = Jvm.exec ∧ c.code = bytes ∧ c.maxLocals = mL ∧ s.vm.findClass y.cls = some m.cls ∧ meth.name = y.name ∧ meth.sig.returnType = ret ∧ meth.locks = false ∧ (kn = true → s.vm.MethodsKnown ∧ s.vm.FramesKnown below)) (e0 : T.heap = h) (C : Cor Z EL n0 nr h0 WS SF h s vm0 k0 locs) (hws : ∀ x ∈ ws, x ∈ SF)
    (H : ∃ (v : Option Value) (vm₁ : Vm) (B : Pt), (s.setVm vm0).WarmedH vm₁ ∧ Stand p l e R ((s.setVm vm0).setVm B.U.vm) m args below meth c B.U B.locs B.cells B.slots ∧ (s.setVm vm0).Since B.U.vm B.U.heap.size ∧ T.heap.size ≤ B.U.heap.size ∧ (∃ L SN, Q' v B.U.heap SN ∧ Fr n0 L ∧ Keep h B.U.heap ws ∧ (∀ x ∈ SN, (h.size ≤ x ∧ x < B.U.heap.size) ∧ Safe Z EL B.U.vm B.U.heap x) ∧ CHr Z EL vm0 h B.U.vm B.U.heap ∧ (nr = true → (s.setVm vm0).WarmedH B.U.vm) ∧ B.locs = locs ++ L ∧ B.cells = k + ck ∧ B.slots = n + cn) ∧
      Steps p.tables e below s₀ (B.U.setTop { mkF m pc Ls st with pc := pc + len, stack := v.toList ++ rest }))
    (hq : pc + len = pc') (K : ∀ v h' SN, Keep h h' ws → h0.size ≤ h.size → Q' v h' SN → Go l Z EL n0 nr kn y bytes mL ret R h0 WS Q (SN ++ SF) h' (k + ck) (n + cn) pc' Ls (v.toList ++ rest)) : ∃ t o, Steps p.tables e below s₀ t ∧ t.status = .running ∧ Ended t below o ∧ Pst Z EL n0 nr R h0 WS Q s o t := by
  obtain ⟨v, vm₁, ⟨T', L', kk, nn⟩, -, X', hS, hle, ⟨L, SN, h1, h2, h3, h4, h5, h6, h7, h8, h9⟩, hst⟩ := H
  dsimp only [Pt.U, Pt.locs, Pt.cells, Pt.slots] at X' hS hle h1 h3 h4 h5 h6 h7 h8 h9 hst
  subst h7 h8 h9 hq
  obtain ⟨t, o, hs, r⟩ := K v T'.heap SN h3 C.2.2.2.2.2.2.2.1.1 h1 p e s m args below meth c T' ⟨hA, T'.vm, T'.heap.size, _, X', rfl, C.keep h3 hws h2 h5 (State.Warmed39.trans (t := s.setVm vm0) C.1 hS.1) (C.2.1.1.trans hS (Nat.le_trans C.2.1.2 h3.1)) (Nat.le_refl _) (fun q => State.WarmedH.trans (t := s.setVm vm0) (C.2.2.2.2.2.1 q) (h6 q)) h4⟩
  exact ⟨t, o, hst.trans hs, r⟩
theorem Go.callS {ck cn W : Nat} {ws : List Addr} {as' : Array Value} {Q' : Option Value → Heap → List Addr → Prop} {index : Nat} {z : MethodName} {zb : ByteArray} {zL : Nat} {zr : Option FieldType} {argsL : List Value} (hd : decode bytes pc = .ok (.invokestatic index, 3)) (hq : pc + 3 = pc') (w1 : (Jvm.Cond.methodLink y.cls index z).before a0 Z = true) (w2 : (Jvm.Cond.static z).before a0 Z = true) (w3 : (Jvm.Cond.initialized z.cls).before a0 Z = true) (w4 : (Jvm.Cond.code z zb zL zr).before a0 Z = true) (hy : z.cls ≠ "java/lang/invoke/MethodHandle" ∧ z.cls ≠ "java/lang/invoke/VarHandle") (PP : Pays l Z EL n0 nr kn R 3 z W ck cn ws as' h Q') (hsz : Ls.size = mL) (hst : st = argsL.reverse ++ rest) (hlen : ∀ sig, parseMethodDescriptor z.desc = some sig → argsL.length = sig.parameters.length) (has : argsL.toArray = as') (hW : (rest.map fun v => v.category).sum ≤ W) (hws : ∀ x ∈ ws, x ∈ SF) (hc : k + ck ≤ R.cells) (hl : n + cn ≤ R.slots)
    (K : ∀ v h' SN, Keep h h' ws → h0.size ≤ h.size → Q' v h' SN → Go l Z EL n0 nr kn y bytes mL ret R h0 WS Q (SN ++ SF) h' (k + ck) (n + cn) pc' Ls (v.toList ++ rest)) : Go l Z EL n0 nr kn y bytes mL ret R h0 WS Q SF h k n pc Ls st := by
  intro p e s m args below meth c T hR
  obtain ⟨⟨hx, hby, hml, hown, hnm, hret, hlk, hkn⟩, vm0, k0, locs, X, e0, C⟩ := hR
  have hZ : Z.Warmed39 (s.setVm vm0).vm := C.1
  have hown' : (s.setVm vm0).vm.findClass y.cls = some m.cls := by rw [show (s.setVm vm0).vm = vm0 from rfl, C.2.1.1.1.alike.findClass]; exact hown
  have hBK := PP p e below s args vm0 hx C.1 C.2.2.2.1.1 (fun x hx => ⟨⟨(C.2.2.2.2.1 x (hws x hx)).1.1, (C.2.2.2.2.1 x (hws x hx)).1.2.1⟩, (C.2.2.2.2.1 x (hws x hx)).2⟩) C.2.2.2.2.2.2.1 C.2.2.2.2.2.2.2.2.2 (fun q => ⟨Vm.MethodsKnown.alikeC C.2.1.1.1.alike (hkn q).1, Vm.FramesKnown.alikeC C.2.1.1.1.alike (hkn q).2⟩)
  refine Go.after (st := st) (args := args) (ck := ck) (cn := cn) (ws := ws) (as' := as') (Q' := Q') (rest := rest) ⟨hx, hby, hml, hown, hnm, hret, hlk, hkn⟩ e0 C hws ?_ hq K
  exact callSS X hx (y := z) hown' (mvT hZ w1) (mvT hZ w2) (mvT hZ w3) (mvT hZ w4) hy hBK (g := mkF m pc Ls st) rfl (by rw [hml]; exact hsz) (argsL := argsL) (rest := rest) hlen hst (by show 2 * 0 + _ ≤ _; rw [Nat.mul_zero, Nat.zero_add]; exact hW) (hb hby hd) (fun _ _ => ⟨has, e0, hc, hl⟩)
theorem Go.callI {ck cn W : Nat} {ws : List Addr} {as' : Array Value} {Q' : Option Value → Heap → List Addr → Prop} {index : Nat} {z : MethodName} {zb : ByteArray} {zL : Nat} {a : Addr} {argsL : List Value} (hd : decode bytes pc = .ok (.invokespecial index, 3)) (hq : pc + 3 = pc') (hi : z.name = "<init>") (w1 : (Jvm.Cond.methodLink y.cls index z).before a0 Z = true) (w2 : (Jvm.Cond.instanceMethod z).before a0 Z = true) (w4 : (Jvm.Cond.code z zb zL none).before a0 Z = true) (hy : z.cls ≠ "java/lang/invoke/MethodHandle" ∧ z.cls ≠ "java/lang/invoke/VarHandle") (PP : Pays l Z EL n0 nr kn R 3 z W ck cn ws as' h Q') (hsz : Ls.size = mL) (hst : st = argsL.reverse ++ .ref a :: rest) (hlen : ∀ sig, parseMethodDescriptor z.desc = some sig → argsL.length = sig.parameters.length) (has : (.ref a :: argsL).toArray = as') (hW : (rest.map fun v => v.category).sum ≤ W) (hws : ∀ x ∈ ws, x ∈ SF) (hc : k + ck ≤ R.cells) (hl : n + cn ≤ R.slots)
    (K : ∀ v h' SN, Keep h h' ws → h0.size ≤ h.size → Q' v h' SN → Go l Z EL n0 nr kn y bytes mL ret R h0 WS Q (SN ++ SF) h' (k + ck) (n + cn) pc' Ls (v.toList ++ rest)) : Go l Z EL n0 nr kn y bytes mL ret R h0 WS Q SF h k n pc Ls st := by
  intro p e s m args below meth c T hR
  obtain ⟨⟨hx, hby, hml, hown, hnm, hret, hlk, hkn⟩, vm0, k0, locs, X, e0, C⟩ := hR
  have hZ : Z.Warmed39 (s.setVm vm0).vm := C.1
  have hown' : (s.setVm vm0).vm.findClass y.cls = some m.cls := by rw [show (s.setVm vm0).vm = vm0 from rfl, C.2.1.1.1.alike.findClass]; exact hown
  have hBK := PP p e below s args vm0 hx C.1 C.2.2.2.1.1 (fun x hx => ⟨⟨(C.2.2.2.2.1 x (hws x hx)).1.1, (C.2.2.2.2.1 x (hws x hx)).1.2.1⟩, (C.2.2.2.2.1 x (hws x hx)).2⟩) C.2.2.2.2.2.2.1 C.2.2.2.2.2.2.2.2.2 (fun q => ⟨Vm.MethodsKnown.alikeC C.2.1.1.1.alike (hkn q).1, Vm.FramesKnown.alikeC C.2.1.1.1.alike (hkn q).2⟩)
  refine Go.after (st := st) (args := args) (ck := ck) (cn := cn) (ws := ws) (as' := as') (Q' := Q') (rest := rest) ⟨hx, hby, hml, hown, hnm, hret, hlk, hkn⟩ e0 C hws ?_ hq K
  exact X.specialBackS hx (y := z) hi hown' (mvT hZ w1) (mvT hZ w2) (mvT hZ w4) hy hBK (g := mkF m pc Ls st) rfl (by rw [hml]; exact hsz) (Steps.refl _) (a := a) (argsL := argsL) (rest := rest) hlen hst (by show 2 * 0 + _ ≤ _; rw [Nat.mul_zero, Nat.zero_add]; exact hW) (hb hby hd) (fun _ _ => ⟨has, e0, hc, hl⟩)
theorem Go.callV {ck cn W : Nat} {ws : List Addr} {as' : Array Value} {Q' : Option Value → Heap → List Addr → Prop} {index : Nat} {u z : MethodName} {CC : String} {a : Addr} {argsL : List Value} (hd : decode bytes pc = .ok (.invokevirtual index, 3)) (hq : pc + 3 = pc') (w1 : (Jvm.Cond.methodLink y.cls index u).before a0 Z = true) (w2 : (Jvm.Cond.declares u).before a0 Z = true) (hnf : ∀ (s : State), Z.Warmed39 s.vm → NotFace s u) (w3 : (Jvm.Cond.selects CC u z).before a0 Z = true) (w4 : (Jvm.Cond.instanceMethod z).before a0 Z = true) (hy : u.cls ≠ "java/lang/invoke/MethodHandle" ∧ u.cls ≠ "java/lang/invoke/VarHandle") (E : Exa Z h a CC) (PP : Pays l Z EL n0 nr kn R 3 z W ck cn ws as' h Q') (hsz : Ls.size = mL) (hst : st = argsL.reverse ++ .ref a :: rest) (hlen : ∀ sig, parseMethodDescriptor u.desc = some sig → argsL.length = sig.parameters.length) (has : (.ref a :: argsL).toArray = as') (hW : (rest.map fun v => v.category).sum ≤ W) (hws : ∀ x ∈ ws, x ∈ SF) (hc : k + ck ≤ R.cells) (hl : n + cn ≤ R.slots)
    (K : ∀ v h' SN, Keep h h' ws → h0.size ≤ h.size → Q' v h' SN → Go l Z EL n0 nr kn y bytes mL ret R h0 WS Q (SN ++ SF) h' (k + ck) (n + cn) pc' Ls (v.toList ++ rest)) : Go l Z EL n0 nr kn y bytes mL ret R h0 WS Q SF h k n pc Ls st := by
  intro p e s m args below meth c T hR
  obtain ⟨⟨hx, hby, hml, hown, hnm, hret, hlk, hkn⟩, vm0, k0, locs, X, e0, C⟩ := hR
  have hZ : Z.Warmed39 (s.setVm vm0).vm := C.1
  have hown' : (s.setVm vm0).vm.findClass y.cls = some m.cls := by rw [show (s.setVm vm0).vm = vm0 from rfl, C.2.1.1.1.alike.findClass]; exact hown
  have hBK := PP p e below s args vm0 hx C.1 C.2.2.2.1.1 (fun x hx => ⟨⟨(C.2.2.2.2.1 x (hws x hx)).1.1, (C.2.2.2.2.1 x (hws x hx)).1.2.1⟩, (C.2.2.2.2.1 x (hws x hx)).2⟩) C.2.2.2.2.2.2.1 C.2.2.2.2.2.2.2.2.2 (fun q => ⟨Vm.MethodsKnown.alikeC C.2.1.1.1.alike (hkn q).1, Vm.FramesKnown.alikeC C.2.1.1.1.alike (hkn q).2⟩)
  obtain ⟨cB, kB, qa, qb, qc⟩ := isOf hZ e0 E
  refine Go.after (st := st) (args := args) (ck := ck) (cn := cn) (ws := ws) (as' := as') (Q' := Q') (rest := rest) ⟨hx, hby, hml, hown, hnm, hret, hlk, hkn⟩ e0 C hws ?_ hq K
  exact X.virtualBackS hx (y := u) (z := z) hown' (mvT hZ w1) (mvT hZ w2) (hnf _ hZ) (mvT hZ w3) (mvT hZ w4) hy hBK qa qc (g := mkF m pc Ls st) rfl (by rw [hml]; exact hsz) (Steps.refl _) (argsL := argsL) (rest := rest) hlen hst (by show 2 * 0 + _ ≤ _; rw [Nat.mul_zero, Nat.zero_add]; exact hW) (hb hby hd) (fun _ _ => ⟨has, e0, hc, hl⟩)
theorem Go.callU {ck cn W : Nat} {ws : List Addr} {as' : Array Value} {Q' : Option Value → Heap → List Addr → Prop} {index : Nat} {u z : MethodName} {CC owner : String} {a : Addr} {argsL : List Value} (hd : decode bytes pc = .ok (.invokevirtual index, 3)) (hq : pc + 3 = pc') (w1 : (Jvm.Cond.methodLink y.cls index u).before a0 Z = true) (w5 : (Jvm.Cond.sameMethod u.cls owner u.name u.desc).before a0 Z = true) (w2 : (Jvm.Cond.declares ⟨owner, u.name, u.desc⟩).before a0 Z = true) (ho : owner ≠ "java/lang/invoke/MethodHandle" ∧ owner ≠ "java/lang/invoke/VarHandle") (w3 : (Jvm.Cond.selects CC u z).before a0 Z = true) (w4 : (Jvm.Cond.instanceMethod z).before a0 Z = true) (E : Exa Z h a CC) (PP : Pays l Z EL n0 nr kn R 3 z W ck cn ws as' h Q') (hsz : Ls.size = mL) (hst : st = argsL.reverse ++ .ref a :: rest) (hlen : ∀ sig, parseMethodDescriptor u.desc = some sig → argsL.length = sig.parameters.length) (has : (.ref a :: argsL).toArray = as') (hW : (rest.map fun v => v.category).sum ≤ W) (hws : ∀ x ∈ ws, x ∈ SF) (hc : k + ck ≤ R.cells) (hl : n + cn ≤ R.slots)
    (K : ∀ v h' SN, Keep h h' ws → h0.size ≤ h.size → Q' v h' SN → Go l Z EL n0 nr kn y bytes mL ret R h0 WS Q (SN ++ SF) h' (k + ck) (n + cn) pc' Ls (v.toList ++ rest)) : Go l Z EL n0 nr kn y bytes mL ret R h0 WS Q SF h k n pc Ls st := by
  intro p e s m args below meth c T hR
  obtain ⟨⟨hx, hby, hml, hown, hnm, hret, hlk, hkn⟩, vm0, k0, locs, X, e0, C⟩ := hR
  have hZ : Z.Warmed39 (s.setVm vm0).vm := C.1
  have hown' : (s.setVm vm0).vm.findClass y.cls = some m.cls := by rw [show (s.setVm vm0).vm = vm0 from rfl, C.2.1.1.1.alike.findClass]; exact hown
  have hBK := PP p e below s args vm0 hx C.1 C.2.2.2.1.1 (fun x hx => ⟨⟨(C.2.2.2.2.1 x (hws x hx)).1.1, (C.2.2.2.2.1 x (hws x hx)).1.2.1⟩, (C.2.2.2.2.1 x (hws x hx)).2⟩) C.2.2.2.2.2.2.1 C.2.2.2.2.2.2.2.2.2 (fun q => ⟨Vm.MethodsKnown.alikeC C.2.1.1.1.alike (hkn q).1, Vm.FramesKnown.alikeC C.2.1.1.1.alike (hkn q).2⟩)
  obtain ⟨cB, kB, qa, qb, qc⟩ := isOf hZ e0 E
  refine Go.after (st := st) (args := args) (ck := ck) (cn := cn) (ws := ws) (as' := as') (Q' := Q') (rest := rest) ⟨hx, hby, hml, hown, hnm, hret, hlk, hkn⟩ e0 C hws ?_ hq K
  exact X.virtualBackUpS hx (x := u) (y := z) (owner := owner) hown' (mvT hZ w1) (mvT hZ w5) (mvT hZ w2) ho (mvT hZ w3) (mvT hZ w4) hBK qa qc (g := mkF m pc Ls st) rfl (by rw [hml]; exact hsz) (Steps.refl _) (argsL := argsL) (rest := rest) hlen hst (by show 2 * 0 + _ ≤ _; rw [Nat.mul_zero, Nat.zero_add]; exact hW) (hb hby hd) (fun _ _ => ⟨has, e0, hc, hl⟩)
theorem Go.callF {ck cn W : Nat} {ws : List Addr} {as' : Array Value} {Q' : Option Value → Heap → List Addr → Prop} {index count : Nat} {u z : MethodName} {CC : String} {a : Addr} {argsL : List Value} (hd : decode bytes pc = .ok (.invokeinterface index count, 5)) (hq : pc + 5 = pc') (w1 : (Jvm.Cond.methodLink y.cls index u).before a0 Z = true) (w2 : (Jvm.Cond.declares u).before a0 Z = true) (w5 : (Jvm.Cond.interfaceMethod u.cls u.cls u.name u.desc).before a0 Z = true) (w3 : (Jvm.Cond.selects CC u z).before a0 Z = true) (w4 : (Jvm.Cond.instanceMethod z).before a0 Z = true) (w6 : (Jvm.Cond.publicMethod z).before a0 Z = true) (w7 : (Jvm.Cond.unhidden CC u.name u.desc).before a0 Z = true) (w8 : (Jvm.Cond.castable CC u.cls).before a0 Z = true) (hy : u.cls ≠ "java/lang/invoke/MethodHandle" ∧ u.cls ≠ "java/lang/invoke/VarHandle") (E : Exa Z h a CC) (PP : Pays l Z EL n0 nr kn R 5 z W ck cn ws as' h Q') (hsz : Ls.size = mL) (hst : st = argsL.reverse ++ .ref a :: rest) (hlen : ∀ sig, parseMethodDescriptor u.desc = some sig → argsL.length = sig.parameters.length) (has : (.ref a :: argsL).toArray = as') (hW : (rest.map fun v => v.category).sum ≤ W) (hws : ∀ x ∈ ws, x ∈ SF) (hc : k + ck ≤ R.cells) (hl : n + cn ≤ R.slots)
    (K : ∀ v h' SN, Keep h h' ws → h0.size ≤ h.size → Q' v h' SN → Go l Z EL n0 nr kn y bytes mL ret R h0 WS Q (SN ++ SF) h' (k + ck) (n + cn) pc' Ls (v.toList ++ rest)) : Go l Z EL n0 nr kn y bytes mL ret R h0 WS Q SF h k n pc Ls st := by
  intro p e s m args below meth c T hR
  obtain ⟨⟨hx, hby, hml, hown, hnm, hret, hlk, hkn⟩, vm0, k0, locs, X, e0, C⟩ := hR
  have hZ : Z.Warmed39 (s.setVm vm0).vm := C.1
  have hown' : (s.setVm vm0).vm.findClass y.cls = some m.cls := by rw [show (s.setVm vm0).vm = vm0 from rfl, C.2.1.1.1.alike.findClass]; exact hown
  have hBK := PP p e below s args vm0 hx C.1 C.2.2.2.1.1 (fun x hx => ⟨⟨(C.2.2.2.2.1 x (hws x hx)).1.1, (C.2.2.2.2.1 x (hws x hx)).1.2.1⟩, (C.2.2.2.2.1 x (hws x hx)).2⟩) C.2.2.2.2.2.2.1 C.2.2.2.2.2.2.2.2.2 (fun q => ⟨Vm.MethodsKnown.alikeC C.2.1.1.1.alike (hkn q).1, Vm.FramesKnown.alikeC C.2.1.1.1.alike (hkn q).2⟩)
  obtain ⟨cB, kB, qa, qb, qc⟩ := isOf hZ e0 E
  refine Go.after (st := st) (args := args) (ck := ck) (cn := cn) (ws := ws) (as' := as') (Q' := Q') (rest := rest) ⟨hx, hby, hml, hown, hnm, hret, hlk, hkn⟩ e0 C hws ?_ hq K
  exact X.interfaceBackS hx (xi := u) (y := z) hown' (mvT hZ w1) (mvT hZ w2) (mvT hZ w5 (by simp [Cond.onTables, Cond.keepsFace, Cond.keeps, Cond.steady, Cond.faceAtom]; exact hy)) (mvT hZ w3) (mvT hZ w4) (mvT hZ w6) (mvT hZ w7) (mvT hZ w8) hy hBK qa qb qc (g := mkF m pc Ls st) rfl (by rw [hml]; exact hsz) (Steps.refl _) (argsL := argsL) (rest := rest) hlen hst (by show 2 * 0 + _ ≤ _; rw [Nat.mul_zero, Nat.zero_add]; exact hW) (hb hby hd) (fun _ _ => ⟨has, e0, hc, hl⟩)
theorem Go.callP {ck cn W : Nat} {ws : List Addr} {as' : Array Value} {Q' : Option Value → Heap → List Addr → Prop} {index : Nat} {z : MethodName} {zb : ByteArray} {zL : Nat} {zr : Option FieldType} {CC : String} {a : Addr} {argsL : List Value} (hd : decode bytes pc = .ok (.invokevirtual index, 3)) (hq : pc + 3 = pc') (w1 : (Jvm.Cond.methodLink y.cls index z).before a0 Z = true) (w2 : (Jvm.Cond.instanceMethod z).before a0 Z = true) (w3 : (Jvm.Cond.selects z.cls z z).before a0 Z = true) (w5 : (Jvm.Cond.privateMethod z).before a0 Z = true) (w4 : (Jvm.Cond.code z zb zL zr).before a0 Z = true) (hy : z.cls ≠ "java/lang/invoke/MethodHandle" ∧ z.cls ≠ "java/lang/invoke/VarHandle") (E : Exa Z h a CC) (PP : Pays l Z EL n0 nr kn R 3 z W ck cn ws as' h Q') (hsz : Ls.size = mL) (hst : st = argsL.reverse ++ .ref a :: rest) (hlen : ∀ sig, parseMethodDescriptor z.desc = some sig → argsL.length = sig.parameters.length) (has : (.ref a :: argsL).toArray = as') (hW : (rest.map fun v => v.category).sum ≤ W) (hws : ∀ x ∈ ws, x ∈ SF) (hc : k + ck ≤ R.cells) (hl : n + cn ≤ R.slots)
    (K : ∀ v h' SN, Keep h h' ws → h0.size ≤ h.size → Q' v h' SN → Go l Z EL n0 nr kn y bytes mL ret R h0 WS Q (SN ++ SF) h' (k + ck) (n + cn) pc' Ls (v.toList ++ rest)) : Go l Z EL n0 nr kn y bytes mL ret R h0 WS Q SF h k n pc Ls st := by
  intro p e s m args below meth c T hR
  obtain ⟨⟨hx, hby, hml, hown, hnm, hret, hlk, hkn⟩, vm0, k0, locs, X, e0, C⟩ := hR
  have hZ : Z.Warmed39 (s.setVm vm0).vm := C.1
  have hown' : (s.setVm vm0).vm.findClass y.cls = some m.cls := by rw [show (s.setVm vm0).vm = vm0 from rfl, C.2.1.1.1.alike.findClass]; exact hown
  have hBK := PP p e below s args vm0 hx C.1 C.2.2.2.1.1 (fun x hx => ⟨⟨(C.2.2.2.2.1 x (hws x hx)).1.1, (C.2.2.2.2.1 x (hws x hx)).1.2.1⟩, (C.2.2.2.2.1 x (hws x hx)).2⟩) C.2.2.2.2.2.2.1 C.2.2.2.2.2.2.2.2.2 (fun q => ⟨Vm.MethodsKnown.alikeC C.2.1.1.1.alike (hkn q).1, Vm.FramesKnown.alikeC C.2.1.1.1.alike (hkn q).2⟩)
  obtain ⟨cq, q1, q2⟩ := E.cell
  refine Go.after (st := st) (args := args) (ck := ck) (cn := cn) (ws := ws) (as' := as') (Q' := Q') (rest := rest) ⟨hx, hby, hml, hown, hnm, hret, hlk, hkn⟩ e0 C hws ?_ hq K
  exact X.privateBackS hx (y := z) hown' (mvT hZ w1) (mvT hZ w2) (mvT hZ w3) (Cond.privateMethod_at (mvP hZ w5 (args := #[]))) (mvT hZ w4) hy hBK (g := mkF m pc Ls st) rfl (by rw [hml]; exact hsz) (Steps.refl _) (a := a) (by rw [e0]; exact q1) q2 (argsL := argsL) (rest := rest) hlen hst (by show 2 * 0 + _ ≤ _; rw [Nat.mul_zero, Nat.zero_add]; exact hW) (hb hby hd) (fun _ _ => ⟨has, e0, hc, hl⟩)
theorem nf {u z : MethodName} {CC : String} (w : (Jvm.Cond.selects CC u z).before a0 Z = true) (e : u = z) : ∀ (s : State), Z.Warmed39 s.vm → NotFace s u := fun s hZ => by
  subst e
  exact notFace_of_selects (args := #[]) (mvT hZ w)
theorem mem0 {SF : List Addr} : ∀ x ∈ ([] : List Addr), x ∈ SF := fun _ q => nomatch q
theorem memS {SF L : List Addr} {a : Addr} (q : a ∈ SF) (r : ∀ x ∈ L, x ∈ SF) : ∀ x ∈ a :: L, x ∈ SF := fun x z => (List.mem_cons.mp z).elim (fun u => u ▸ q) (r x)
theorem sn0 {SF : List Addr} {h0 : Heap} : ∀ x ∈ ([] : List Addr), x ∈ SF ∧ h0.size ≤ x := fun _ q => nomatch q
theorem snS {SF L : List Addr} {h0 : Heap} {a : Addr} (q : a ∈ SF ∧ h0.size ≤ a) (r : ∀ x ∈ L, x ∈ SF ∧ h0.size ≤ x) : ∀ x ∈ a :: L, x ∈ SF ∧ h0.size ≤ x := fun x z => (List.mem_cons.mp z).elim (fun u => u ▸ q) (r x)
theorem Ext.refl (h : Heap) : Ext h h := ⟨Nat.le_refl _, fun _ _ q => q⟩
theorem Ext.trans {h1 h2 h3 : Heap} (E : Ext h1 h2) (F : Ext h2 h3) : Ext h1 h3 := ⟨Nat.le_trans E.1 F.1, fun a c q => F.2 a c (E.2 a c q)⟩
theorem Keep.toExt {h1 h2 : Heap} (K : Keep h1 h2 []) : Ext h1 h2 := ⟨K.1, fun a c q => K.2.1 a c q (fun z => nomatch z)⟩
end Rules
end Jvm.OwnK
namespace Jvm.OwnK
open Jvm Sem ClassFile Op Lib Jvm.Free Jvm.Stand Jvm.LawKit Jvm.RoadKit Bundle
/-! plain facts on numbers and lists -/
def lowV (c : Int32) : Value := .int c.toInt8.toInt32
theorem byte_idem (c : Int32) : c.toInt8.toInt32.toInt8.toInt32 = c.toInt8.toInt32 := by
  rw [Int8.toInt8_toInt32]
theorem nar_byte (c : Int32) : nar .byte c.toInt8.toInt32 = c.toInt8.toInt32 := byte_idem c
theorem shr0 (x : Int32) : x >>> ((0 : Int32) &&& 31) = x := by
  apply Int32.toInt_inj.mp
  rw [c_ishr x 0 0 (by decide)]
  simp
theorem mask255 (x : Int32) : ¬ (x &&& 255) < 0 ∧ ¬ 255 < (x &&& 255) := by
  have h := c_and x 255 (by decide)
  rw [Int32.lt_iff_toInt_lt, Int32.lt_iff_toInt_lt]
  have e1 : (255 : Int32).toInt = 255 := by decide
  have e0 : (0 : Int32).toInt = 0 := by decide
  omega
theorem i2c_in {x : Int32} (h1 : ¬ x < 0) (h2 : ¬ 65535 < x) : x.toUInt32.toUInt16.toUInt32.toInt32 = x := by
  apply Int32.toInt_inj.mp
  have h := c_i2c x
  rw [Int32.lt_iff_toInt_lt] at h1 h2
  have e1 : (65535 : Int32).toInt = 65535 := by decide
  have e0 : (0 : Int32).toInt = 0 := by decide
  omega
theorem nar_char {x : Int32} (h1 : ¬ x < 0) (h2 : ¬ 65535 < x) : nar .char x = x := i2c_in h1 h2
theorem le255 {x : Int32} (h : ¬ 255 < x) : ¬ 65535 < x := by
  rw [Int32.lt_iff_toInt_lt] at h ⊢
  have e1 : (65535 : Int32).toInt = 65535 := by decide
  have e0 : (255 : Int32).toInt = 255 := by decide
  omega
theorem own_lowback {c : Int32} (h1 : ¬ c < 0) (h2 : ¬ 255 < c) : (c.toInt8.toInt32 &&& 255).toUInt32.toUInt16.toUInt32.toInt32 = c := by
  have m := mask255 c.toInt8.toInt32
  rw [i2c_in m.1 (le255 m.2)]
  apply Int32.toInt_inj.mp
  have e := c_mask c.toInt8.toInt32 255 8 (by decide) (by decide)
  have b := c_i2b c
  rw [Int32.lt_iff_toInt_lt] at h1 h2
  have e1 : (255 : Int32).toInt = 255 := by decide
  have e0 : (0 : Int32).toInt = 0 := by decide
  have e2 : ((2 ^ 8 : Nat) : Int) = 256 := by decide
  rw [e, e2]
  omega
theorem ofNat_succ (i : Nat) : Int32.ofNat i + 1 = Int32.ofNat (i + 1) := by
  rw [Int32.ofNat_add]; rfl
theorem ofNat_toInt {i : Nat} (h : i < 2 ^ 31) : (Int32.ofNat i).toInt = i := Int32.toInt_ofNat_small h
theorem ofNat_clamp {i : Nat} (h : i < 2 ^ 31) : (Int32.ofNat i).toNatClampNeg = i := by
  simp only [Int32.toNatClampNeg, ofNat_toInt h, Int.toNat_natCast]
theorem ofNat_nn {i : Nat} (h : i < 2 ^ 31) : ¬ Int32.ofNat i < 0 := by
  rw [Int32.lt_iff_toInt_lt, ofNat_toInt h]
  have e0 : (0 : Int32).toInt = 0 := by decide
  omega
theorem clamp_toInt {z : Int32} (h : ¬ z < 0) : z.toInt = z.toNatClampNeg := nat_of h
theorem ofNat_lt {i : Nat} {z : Int32} (hz : ¬ z < 0) (h : i < z.toNatClampNeg) : Int32.ofNat i < z := by
  have q := (back32 hz).2
  rw [Int32.lt_iff_toInt_lt, ofNat_toInt (by omega), clamp_toInt hz]
  omega
theorem ofNat_ge {i : Nat} {z : Int32} (hz : ¬ z < 0) (hi : i < 2 ^ 31) (h : z.toNatClampNeg ≤ i) : ¬ Int32.ofNat i < z := by
  rw [Int32.lt_iff_toInt_lt, ofNat_toInt hi, clamp_toInt hz]
  omega
theorem arv_nn {Z : State} {h : Heap} {a : Addr} {k : ClassId} {ty : FieldType} {z : Int32} {vs : List Value} {d : Value} (F : Arv Z h a k ty z vs d) : ¬ z < 0 := by obtain ⟨_, _, _, _, q, _⟩ := F; exact q
theorem getD_int (cs : List Int32) (i : Nat) : (cs.map Value.int).getD i (.int 0) = .int (cs.getD i 0) := by
  simp only [List.getD_eq_getElem?_getD, List.getElem?_map]
  cases cs[i]? <;> rfl
theorem getD_low (cs : List Int32) (i : Nat) (h : i < cs.length) : (cs.map lowV).getD i (.int 0) = .int (cs.getD i 0).toInt8.toInt32 := by
  simp only [List.getD_eq_getElem?_getD, List.getElem?_map, List.getElem?_eq_getElem h]
  rfl
theorem set_low (cs : List Int32) (i m : Nat) (h : i < cs.length) (z : Value) : ((cs.take i).map lowV ++ List.replicate (m + 1) z).set i (lowV (cs.getD i 0)) = (cs.take (i + 1)).map lowV ++ List.replicate m z := by
  have hl : ((cs.take i).map lowV).length = i := by simp; omega
  have e : cs.getD i 0 = cs[i] := by simp [List.getD_eq_getElem?_getD, List.getElem?_eq_getElem h]
  rw [List.set_append_right _ _ (by omega), hl, Nat.sub_self, List.replicate_succ, List.set_cons_zero, List.take_succ_eq_append_getElem h, List.map_append, List.append_assoc, e]
  rfl
theorem getD_mem {cs : List Int32} {P : Int32 → Prop} (h : ∀ x ∈ cs, P x) {i : Nat} (hi : i < cs.length) : P (cs.getD i 0) := by
  have e : cs.getD i 0 = cs[i] := by simp [List.getD_eq_getElem?_getD, List.getElem?_eq_getElem hi]
  rw [e]; exact h _ (List.getElem_mem hi)
theorem own_back (x : Int32) : x + (128 : Int32) - (128 : Int32) = x := Int32.add_sub_cancel x 128
theorem own_cache {x : Int32} {n : Nat} (h1 : ¬ x < (-128 : Int32)) (h2 : ¬ (127 : Int32) < x) (hn : n = (256 : Int32).toNatClampNeg) : ¬ (x + (128 : Int32) < 0 ∨ n ≤ (x + (128 : Int32)).toNatClampNeg) := by
  have c := c_iadd x 128
  have r := rng32 (x + 128)
  rw [Int32.lt_iff_toInt_lt] at h1 h2 ⊢
  have e1 : (-128 : Int32).toInt = -128 := by decide
  have e2 : (127 : Int32).toInt = 127 := by decide
  have e3 : (128 : Int32).toInt = 128 := by decide
  have e0 : (0 : Int32).toInt = 0 := by decide
  have e4 : (256 : Int32).toNatClampNeg = 256 := by decide
  simp only [Int32.toNatClampNeg] at hn e4 ⊢
  omega
theorem own_coder0 {z : Int32} : ((z - z).toUInt32 >>> ((31 : Int32) &&& 31).toUInt32).toInt32.toInt8.toInt32 = (0 : Int32) := by
  rw [Int32.sub_self]; decide
theorem own_nz {z : Int32} {cs : List Int32} (hz : z.toNatClampNeg = cs.length) (h : cs ≠ []) : ¬ z = (0 : Int32) := fun e => by
  subst e
  have : (0 : Int32).toNatClampNeg = 0 := by decide
  rw [this] at hz
  exact h (List.length_eq_zero_iff.mp hz.symm)
theorem own_narc (u : Int32) : narrow .char (.int (u &&& (255 : Int32)).toUInt32.toUInt16.toUInt32.toInt32) = .int (u &&& (255 : Int32)).toUInt32.toUInt16.toUInt32.toInt32 := by
  show Value.int _ = _
  have m := mask255 u
  rw [i2c_in m.1 (le255 m.2), i2c_in m.1 (le255 m.2)]
theorem own_one {P : Int32 → Prop} {a : Int32} (h : P a) : ∀ x ∈ [a], P x := fun x hx => by cases List.mem_singleton.mp hx; exact h
theorem own_cons {P : Int32 → Prop} {a : Int32} {L : List Int32} (h : P a) (r : ∀ x ∈ L, P x) : ∀ x ∈ a :: L, P x := fun x hx => (List.mem_cons.mp hx).elim (fun e => e ▸ h) (r x)
theorem own_two {P : Int32 → Prop} {a b : Int32} (h : P a) (h' : P b) : ∀ x ∈ [a, b], P x := own_cons h (own_one h')
def stRef (Z : State) (C n d : String) : Addr := match (Term.static C n d).eval #[] Z none [] Z with
  | some (.ref a) => a
  | _ => 0
theorem stRef_of {Z : State} {args : Array Value} {C n d : String} {a : Addr} (h : (Term.static C n d).eval args Z none [] Z = some (.ref a)) : stRef Z C n d = a := by
  have q : (Term.static C n d).eval #[] Z none [] Z = some (.ref a) := h
  simp only [stRef, q]
theorem arv_of_arr {Z : State} {h : Heap} {a : Addr} {cl : Cell} {ty : FieldType} {z : Int32} {vs : List Value} {d : Value} (A : Arr Z h a cl ty) (hz : ¬ z < 0) (hs : cl.slots.size = z.toNatClampNeg) (H : ∀ i, i < cl.slots.size → cl.slots[i]? = some (vs.getD i d) ∧ fits ty (vs.getD i d) = true) : Arv Z h a cl.cls ty z vs d :=
  ⟨cl, A, rfl, hs, hz, fun i hi => (H i hi).1, fun i hi => (H i hi).2⟩
theorem arv_ext {Z : State} {h h' : Heap} {a : Addr} {k : ClassId} {ty : FieldType} {z : Int32} {vs : List Value} {d : Value} (F : Arv Z h a k ty z vs d) (E : Ext h h') : Arv Z h' a k ty z vs d := F.ext E
theorem own_len {Z : State} {args : Array Value} {t : Term} {a : Addr} {cl : Cell} {ty : FieldType} {z : Int32} (e : t.eval args Z none [] Z = some (.ref a)) (A : Arr Z Z.heap a cl ty) (h : (Term.length t).eval args Z none [] Z = some (.int z)) : cl.slots.size < 2 ^ 31 ∧ cl.slots.size.toInt32 = z := by
  have q := A.fin (Vm.Alike.refl _)
  simp only [Term.eval, e, q, Option.bind_eq_bind, Option.bind_some] at h
  split at h
  · rename_i hl
    exact ⟨hl, by simpa using h⟩
  · cases h
theorem unt_ext {h h' : Heap} {a : Addr} (E : Ext h h') (U : Unt h a) : Unt h' a := by obtain ⟨c, q, r⟩ := U; exact ⟨c, E.2 _ _ q, r⟩
end Jvm.OwnK

namespace Jvm.Pilot.@@N@@
open Jvm Jvm.ClassFile Sem Op Lib Jvm.Free Jvm.Stand Jvm.LawKit Jvm.RoadKit Bundle Jvm.OwnK Jvm.Pilot.@@N@@.Jvm.D
abbrev EL0 : List (String × Nat) := []
abbrev NR0 : Bool := true
abbrev KN0 : Bool := false
def Stat (Z : State) : Prop := (∃ zc : Int32, Sta Z Z.heap "java/lang/String" "COMPACT_STRINGS" "Z" (.int zc) ∧ ¬ zc = 0) ∧ (∃ fm : Value, Sta Z Z.heap "jdk/internal/util/Preconditions" "SIOOBE_FORMATTER" "Ljava/util/function/BiFunction;" fm ∧ fm.isRef = true) ∧ (Sta Z Z.heap "java/lang/Integer$IntegerCache" "high" "I" (.int (127 : Int32)) ∧ ∃ (ca : Addr) (cl : Cell), Sta Z Z.heap "java/lang/Integer$IntegerCache" "cache" "[Ljava/lang/Integer;" (.ref ca) ∧ Bxs Z ca cl "java/lang/Integer" "I" (256 : Int32) (fun j => .int (j - 128))) ∧ True
theorem hs_c {Z : State} (h : Stat Z) : (∃ zc : Int32, Sta Z Z.heap "java/lang/String" "COMPACT_STRINGS" "Z" (.int zc) ∧ ¬ zc = 0) := h.1
theorem hs_f {Z : State} (h : Stat Z) : (∃ fm : Value, Sta Z Z.heap "jdk/internal/util/Preconditions" "SIOOBE_FORMATTER" "Ljava/util/function/BiFunction;" fm ∧ fm.isRef = true) := h.2.1
theorem hs_i {Z : State} (h : Stat Z) : (Sta Z Z.heap "java/lang/Integer$IntegerCache" "high" "I" (.int (127 : Int32)) ∧ ∃ (ca : Addr) (cl : Cell), Sta Z Z.heap "java/lang/Integer$IntegerCache" "cache" "[Ljava/lang/Integer;" (.ref ca) ∧ Bxs Z ca cl "java/lang/Integer" "I" (256 : Int32) (fun j => .int (j - 128))) := h.2.2.1
abbrev CAP : Nat := 2
theorem own_mod3 (x : Int32) : (x &&& (2147483647 : Int32)) % (3 : Int32) = (0 : Int32) ∨ (x &&& (2147483647 : Int32)) % (3 : Int32) = (1 : Int32) ∨ (x &&& (2147483647 : Int32)) % (3 : Int32) = (2 : Int32) := by
  have h := c_and x 2147483647 (by decide)
  have q := (c_irem (x &&& 2147483647) 3 3 (by decide)).1 h.1
  simp only [← Int32.toInt_inj]
  rw [q]
  have e0 : (0 : Int32).toInt = 0 := by decide
  have e1 : (1 : Int32).toInt = 1 := by decide
  have e2 : (2 : Int32).toInt = 2 := by decide
  omega
abbrev N_0 : MethodName := ⟨"java/lang/Record", "<init>", "()V"⟩
abbrev N_1 : MethodName := ⟨"java/lang/Number", "<init>", "()V"⟩
abbrev N_2 : MethodName := ⟨"java/lang/Integer", "<init>", "(I)V"⟩
abbrev N_3 : MethodName := ⟨"java/lang/Integer", "intValue", "()I"⟩
abbrev N_4 : MethodName := ⟨"java/lang/Integer", "valueOf", "(I)Ljava/lang/Integer;"⟩
abbrev N_5 : MethodName := ⟨"com/example/tapstone/tapstone/store/TokenStore$Outcome", "<init>", "(Ljava/lang/Object;Lcom/example/tapstone/tapstone/store/TokenRefusedException$Refusal;)V"⟩
abbrev N_6 : MethodName := ⟨"com/example/tapstone/tapstone/store/TokenStore$Outcome", "orRefused", "()Ljava/lang/Object;"⟩
abbrev N_7 : MethodName := ⟨"java/lang/StringUTF16", "compress", "([CI[BII)I"⟩
abbrev N_8 : MethodName := ⟨"java/lang/StringUTF16", "compress", "([CII)[B"⟩
abbrev N_9 : MethodName := ⟨"java/lang/StringUTF16", "coderFromArrayLen", "([BI)B"⟩
abbrev N_10 : MethodName := ⟨"java/lang/String", "<init>", "([CIILjava/lang/Void;)V"⟩
abbrev N_11 : MethodName := ⟨"java/lang/String", "<init>", "([C)V"⟩
abbrev N_12 : MethodName := ⟨"java/lang/String", "coder", "()B"⟩
abbrev N_13 : MethodName := ⟨"java/lang/String", "isLatin1", "()Z"⟩
abbrev N_14 : MethodName := ⟨"java/lang/String", "length", "()I"⟩
abbrev N_15 : MethodName := ⟨"jdk/internal/util/Preconditions", "checkIndex", "(IILjava/util/function/BiFunction;)I"⟩
abbrev N_16 : MethodName := ⟨"java/lang/String", "checkIndex", "(II)V"⟩
abbrev N_17 : MethodName := ⟨"java/lang/StringLatin1", "charAt", "([BI)C"⟩
abbrev N_18 : MethodName := ⟨"java/lang/String", "charAt", "(I)C"⟩
theorem pd_0 : parseMethodDescriptor "()V" = some ⟨[], none⟩ := by decide +kernel
theorem pd_1 : parseMethodDescriptor "(I)V" = some ⟨[.int], none⟩ := by decide +kernel
theorem pd_2 : parseMethodDescriptor "([CI[BII)I" = some ⟨[(.array .char), .int, (.array .byte), .int, .int], some .int⟩ := by decide +kernel
theorem pd_3 : parseMethodDescriptor "([CII)[B" = some ⟨[(.array .char), .int, .int], some (.array .byte)⟩ := by decide +kernel
theorem pd_4 : parseMethodDescriptor "([BI)B" = some ⟨[(.array .byte), .int], some .byte⟩ := by decide +kernel
theorem pd_5 : parseMethodDescriptor "([CIILjava/lang/Void;)V" = some ⟨[(.array .char), .int, .int, (.object "java/lang/Void")], none⟩ := by decide +kernel
theorem pd_6 : parseMethodDescriptor "()B" = some ⟨[], some .byte⟩ := by decide +kernel
theorem pd_7 : parseMethodDescriptor "(IILjava/util/function/BiFunction;)I" = some ⟨[.int, .int, (.object "java/util/function/BiFunction")], some .int⟩ := by decide +kernel
theorem pd_8 : parseMethodDescriptor "(II)V" = some ⟨[.int, .int], none⟩ := by decide +kernel
theorem pd_9 : parseMethodDescriptor "()Z" = some ⟨[], some .boolean⟩ := by decide +kernel
theorem pd_10 : parseMethodDescriptor "([BI)C" = some ⟨[(.array .byte), .int], some .char⟩ := by decide +kernel
theorem pd_11 : parseMethodDescriptor "(Ljava/lang/Object;Lcom/example/tapstone/tapstone/store/TokenRefusedException$Refusal;)V" = some ⟨[(.object "java/lang/Object"), (.object "com/example/tapstone/tapstone/store/TokenRefusedException$Refusal")], none⟩ := by decide +kernel
theorem pd_12 : parseMethodDescriptor "()Ljava/lang/Object;" = some ⟨[], some (.object "java/lang/Object")⟩ := by decide +kernel
theorem pd_13 : parseMethodDescriptor "(I)Ljava/lang/Integer;" = some ⟨[.int], some (.object "java/lang/Integer")⟩ := by decide +kernel
theorem pd_14 : parseMethodDescriptor "()I" = some ⟨[], some .int⟩ := by decide +kernel
theorem pd_15 : parseMethodDescriptor "([C)V" = some ⟨[(.array .char)], none⟩ := by decide +kernel
theorem pd_16 : parseMethodDescriptor "(I)C" = some ⟨[.int], some .char⟩ := by decide +kernel
theorem ic_0 : Int32.ofInt (0) = (0 : Int32) := by decide
theorem ic_1 : Int32.ofInt (1) = (1 : Int32) := by decide
theorem ic_2 : Int32.ofInt (2) = (2 : Int32) := by decide
theorem ic_3 : Int32.ofInt (3) = (3 : Int32) := by decide
theorem icb_m128 : (Int8.ofInt (-128)).toInt32 = (-128 : Int32) := by decide
theorem icb_31 : (Int8.ofInt (31)).toInt32 = (31 : Int32) := by decide
theorem ics_128 : (Int16.ofInt (128)).toInt32 = (128 : Int32) := by decide
theorem ics_255 : (Int16.ofInt (255)).toInt32 = (255 : Int32) := by decide
theorem d_prog_63_method_1_0 : decode prog_63_method_1_code 0 = .ok (.aload_n 0, 1) := by decide +kernel
theorem d_prog_63_method_1_1 : decode prog_63_method_1_code 1 = .ok (.invokespecial 1, 3) := by decide +kernel
theorem d_prog_63_method_1_4 : decode prog_63_method_1_code 4 = .ok (.aload_n 0, 1) := by decide +kernel
theorem d_prog_63_method_1_5 : decode prog_63_method_1_code 5 = .ok (.aload_n 1, 1) := by decide +kernel
theorem d_prog_63_method_1_6 : decode prog_63_method_1_code 6 = .ok (.putfield 7, 3) := by decide +kernel
theorem d_prog_63_method_1_9 : decode prog_63_method_1_code 9 = .ok (.aload_n 0, 1) := by decide +kernel
theorem d_prog_63_method_1_10 : decode prog_63_method_1_code 10 = .ok (.aload_n 2, 1) := by decide +kernel
theorem d_prog_63_method_1_11 : decode prog_63_method_1_code 11 = .ok (.putfield 13, 3) := by decide +kernel
theorem d_prog_63_method_1_14 : decode prog_63_method_1_code 14 = .ok (.return_, 1) := by decide +kernel
theorem d_prog_63_method_4_0 : decode prog_63_method_4_code 0 = .ok (.aload_n 0, 1) := by decide +kernel
theorem d_prog_63_method_4_1 : decode prog_63_method_4_code 1 = .ok (.getfield 13, 3) := by decide +kernel
theorem d_prog_63_method_4_4 : decode prog_63_method_4_code 4 = .ok (.ifnull 15, 3) := by decide +kernel
theorem d_prog_63_method_4_19 : decode prog_63_method_4_code 19 = .ok (.aload_n 0, 1) := by decide +kernel
theorem d_prog_63_method_4_20 : decode prog_63_method_4_code 20 = .ok (.getfield 7, 3) := by decide +kernel
theorem d_prog_63_method_4_23 : decode prog_63_method_4_code 23 = .ok (.areturn, 1) := by decide +kernel
theorem d_jdk_33_method_23_0 : decode jdk_33_method_23_code 0 = .ok (.aload_n 0, 1) := by decide +kernel
theorem d_jdk_33_method_23_1 : decode jdk_33_method_23_code 1 = .ok (.invokespecial 202, 3) := by decide +kernel
theorem d_jdk_33_method_23_4 : decode jdk_33_method_23_code 4 = .ok (.aload_n 0, 1) := by decide +kernel
theorem d_jdk_33_method_23_5 : decode jdk_33_method_23_code 5 = .ok (.iload_n 1, 1) := by decide +kernel
theorem d_jdk_33_method_23_6 : decode jdk_33_method_23_code 6 = .ok (.putfield 205, 3) := by decide +kernel
theorem d_jdk_33_method_23_9 : decode jdk_33_method_23_code 9 = .ok (.return_, 1) := by decide +kernel
theorem d_jdk_33_method_27_0 : decode jdk_33_method_27_code 0 = .ok (.aload_n 0, 1) := by decide +kernel
theorem d_jdk_33_method_27_1 : decode jdk_33_method_27_code 1 = .ok (.getfield 205, 3) := by decide +kernel
theorem d_jdk_33_method_27_4 : decode jdk_33_method_27_code 4 = .ok (.ireturn, 1) := by decide +kernel
theorem d_jdk_33_method_22_0 : decode jdk_33_method_22_code 0 = .ok (.iload_n 0, 1) := by decide +kernel
theorem d_jdk_33_method_22_1 : decode jdk_33_method_22_code 1 = .ok (.bipush (-128), 2) := by decide +kernel
theorem d_jdk_33_method_22_3 : decode jdk_33_method_22_code 3 = .ok (.if_icmp .lt 20, 3) := by decide +kernel
theorem d_jdk_33_method_22_6 : decode jdk_33_method_22_code 6 = .ok (.iload_n 0, 1) := by decide +kernel
theorem d_jdk_33_method_22_7 : decode jdk_33_method_22_code 7 = .ok (.getstatic 191, 3) := by decide +kernel
theorem d_jdk_33_method_22_10 : decode jdk_33_method_22_code 10 = .ok (.if_icmp .gt 13, 3) := by decide +kernel
theorem d_jdk_33_method_22_13 : decode jdk_33_method_22_code 13 = .ok (.getstatic 195, 3) := by decide +kernel
theorem d_jdk_33_method_22_16 : decode jdk_33_method_22_code 16 = .ok (.iload_n 0, 1) := by decide +kernel
theorem d_jdk_33_method_22_17 : decode jdk_33_method_22_code 17 = .ok (.sipush 128, 3) := by decide +kernel
theorem d_jdk_33_method_22_20 : decode jdk_33_method_22_code 20 = .ok (.iadd, 1) := by decide +kernel
theorem d_jdk_33_method_22_21 : decode jdk_33_method_22_code 21 = .ok (.aaload, 1) := by decide +kernel
theorem d_jdk_33_method_22_22 : decode jdk_33_method_22_code 22 = .ok (.areturn, 1) := by decide +kernel
theorem d_jdk_33_method_22_23 : decode jdk_33_method_22_code 23 = .ok (.new 1, 3) := by decide +kernel
theorem d_jdk_33_method_22_26 : decode jdk_33_method_22_code 26 = .ok (.dup, 1) := by decide +kernel
theorem d_jdk_33_method_22_27 : decode jdk_33_method_22_code 27 = .ok (.iload_n 0, 1) := by decide +kernel
theorem d_jdk_33_method_22_28 : decode jdk_33_method_22_code 28 = .ok (.invokespecial 199, 3) := by decide +kernel
theorem d_jdk_33_method_22_31 : decode jdk_33_method_22_code 31 = .ok (.areturn, 1) := by decide +kernel
theorem d_jdk_18_method_1_0 : decode jdk_18_method_1_code 0 = .ok (.aload_n 0, 1) := by decide +kernel
theorem d_jdk_18_method_1_1 : decode jdk_18_method_1_code 1 = .ok (.invokespecial 1, 3) := by decide +kernel
theorem d_jdk_18_method_1_4 : decode jdk_18_method_1_code 4 = .ok (.return_, 1) := by decide +kernel
theorem d_jdk_30_method_1_0 : decode jdk_30_method_1_code 0 = .ok (.aload_n 0, 1) := by decide +kernel
theorem d_jdk_30_method_1_1 : decode jdk_30_method_1_code 1 = .ok (.invokespecial 1, 3) := by decide +kernel
theorem d_jdk_30_method_1_4 : decode jdk_30_method_1_code 4 = .ok (.return_, 1) := by decide +kernel
theorem d_jdk_42_method_3_0 : decode jdk_42_method_3_code 0 = .ok (.aload_n 0, 1) := by decide +kernel
theorem d_jdk_42_method_3_1 : decode jdk_42_method_3_code 1 = .ok (.aload_n 1, 1) := by decide +kernel
theorem d_jdk_42_method_3_2 : decode jdk_42_method_3_code 2 = .ok (.iconst 0, 1) := by decide +kernel
theorem d_jdk_42_method_3_3 : decode jdk_42_method_3_code 3 = .ok (.aload_n 1, 1) := by decide +kernel
theorem d_jdk_42_method_3_4 : decode jdk_42_method_3_code 4 = .ok (.arraylength, 1) := by decide +kernel
theorem d_jdk_42_method_3_5 : decode jdk_42_method_3_code 5 = .ok (.aconst_null, 1) := by decide +kernel
theorem d_jdk_42_method_3_6 : decode jdk_42_method_3_code 6 = .ok (.invokespecial 27, 3) := by decide +kernel
theorem d_jdk_42_method_3_9 : decode jdk_42_method_3_code 9 = .ok (.return_, 1) := by decide +kernel
theorem d_jdk_42_method_149_0 : decode jdk_42_method_149_code 0 = .ok (.aload_n 0, 1) := by decide +kernel
theorem d_jdk_42_method_149_1 : decode jdk_42_method_149_code 1 = .ok (.invokespecial 1, 3) := by decide +kernel
theorem d_jdk_42_method_149_4 : decode jdk_42_method_149_code 4 = .ok (.iload_n 3, 1) := by decide +kernel
theorem d_jdk_42_method_149_5 : decode jdk_42_method_149_code 5 = .ok (.ifCond .ne 22, 3) := by decide +kernel
theorem d_jdk_42_method_149_27 : decode jdk_42_method_149_code 27 = .ok (.getstatic 38, 3) := by decide +kernel
theorem d_jdk_42_method_149_30 : decode jdk_42_method_149_code 30 = .ok (.ifCond .eq 28, 3) := by decide +kernel
theorem d_jdk_42_method_149_33 : decode jdk_42_method_149_code 33 = .ok (.aload_n 1, 1) := by decide +kernel
theorem d_jdk_42_method_149_34 : decode jdk_42_method_149_code 34 = .ok (.iload_n 2, 1) := by decide +kernel
theorem d_jdk_42_method_149_35 : decode jdk_42_method_149_code 35 = .ok (.iload_n 3, 1) := by decide +kernel
theorem d_jdk_42_method_149_36 : decode jdk_42_method_149_code 36 = .ok (.invokestatic 177, 3) := by decide +kernel
theorem d_jdk_42_method_149_39 : decode jdk_42_method_149_code 39 = .ok (.astore 5, 2) := by decide +kernel
theorem d_jdk_42_method_149_41 : decode jdk_42_method_149_code 41 = .ok (.aload_n 0, 1) := by decide +kernel
theorem d_jdk_42_method_149_42 : decode jdk_42_method_149_code 42 = .ok (.aload 5, 2) := by decide +kernel
theorem d_jdk_42_method_149_44 : decode jdk_42_method_149_code 44 = .ok (.iload_n 3, 1) := by decide +kernel
theorem d_jdk_42_method_149_45 : decode jdk_42_method_149_code 45 = .ok (.invokestatic 47, 3) := by decide +kernel
theorem d_jdk_42_method_149_48 : decode jdk_42_method_149_code 48 = .ok (.putfield 15, 3) := by decide +kernel
theorem d_jdk_42_method_149_51 : decode jdk_42_method_149_code 51 = .ok (.aload_n 0, 1) := by decide +kernel
theorem d_jdk_42_method_149_52 : decode jdk_42_method_149_code 52 = .ok (.aload 5, 2) := by decide +kernel
theorem d_jdk_42_method_149_54 : decode jdk_42_method_149_code 54 = .ok (.putfield 9, 3) := by decide +kernel
theorem d_jdk_42_method_149_57 : decode jdk_42_method_149_code 57 = .ok (.return_, 1) := by decide +kernel
theorem d_jdk_42_method_56_0 : decode jdk_42_method_56_code 0 = .ok (.aload_n 0, 1) := by decide +kernel
theorem d_jdk_42_method_56_1 : decode jdk_42_method_56_code 1 = .ok (.invokevirtual 492, 3) := by decide +kernel
theorem d_jdk_42_method_56_4 : decode jdk_42_method_56_code 4 = .ok (.ifCond .eq 12, 3) := by decide +kernel
theorem d_jdk_42_method_56_7 : decode jdk_42_method_56_code 7 = .ok (.aload_n 0, 1) := by decide +kernel
theorem d_jdk_42_method_56_8 : decode jdk_42_method_56_code 8 = .ok (.getfield 9, 3) := by decide +kernel
theorem d_jdk_42_method_56_11 : decode jdk_42_method_56_code 11 = .ok (.iload_n 1, 1) := by decide +kernel
theorem d_jdk_42_method_56_12 : decode jdk_42_method_56_code 12 = .ok (.invokestatic 495, 3) := by decide +kernel
theorem d_jdk_42_method_56_15 : decode jdk_42_method_56_code 15 = .ok (.ireturn, 1) := by decide +kernel
theorem d_jdk_42_method_155_0 : decode jdk_42_method_155_code 0 = .ok (.iload_n 0, 1) := by decide +kernel
theorem d_jdk_42_method_155_1 : decode jdk_42_method_155_code 1 = .ok (.iload_n 1, 1) := by decide +kernel
theorem d_jdk_42_method_155_2 : decode jdk_42_method_155_code 2 = .ok (.getstatic 1053, 3) := by decide +kernel
theorem d_jdk_42_method_155_5 : decode jdk_42_method_155_code 5 = .ok (.invokestatic 1059, 3) := by decide +kernel
theorem d_jdk_42_method_155_8 : decode jdk_42_method_155_code 8 = .ok (.pop, 1) := by decide +kernel
theorem d_jdk_42_method_155_9 : decode jdk_42_method_155_code 9 = .ok (.return_, 1) := by decide +kernel
theorem d_jdk_42_method_152_0 : decode jdk_42_method_152_code 0 = .ok (.getstatic 38, 3) := by decide +kernel
theorem d_jdk_42_method_152_3 : decode jdk_42_method_152_code 3 = .ok (.ifCond .eq 10, 3) := by decide +kernel
theorem d_jdk_42_method_152_6 : decode jdk_42_method_152_code 6 = .ok (.aload_n 0, 1) := by decide +kernel
theorem d_jdk_42_method_152_7 : decode jdk_42_method_152_code 7 = .ok (.getfield 15, 3) := by decide +kernel
theorem d_jdk_42_method_152_10 : decode jdk_42_method_152_code 10 = .ok (.goto 4, 3) := by decide +kernel
theorem d_jdk_42_method_152_14 : decode jdk_42_method_152_code 14 = .ok (.ireturn, 1) := by decide +kernel
theorem d_jdk_42_method_154_0 : decode jdk_42_method_154_code 0 = .ok (.getstatic 38, 3) := by decide +kernel
theorem d_jdk_42_method_154_3 : decode jdk_42_method_154_code 3 = .ok (.ifCond .eq 14, 3) := by decide +kernel
theorem d_jdk_42_method_154_6 : decode jdk_42_method_154_code 6 = .ok (.aload_n 0, 1) := by decide +kernel
theorem d_jdk_42_method_154_7 : decode jdk_42_method_154_code 7 = .ok (.getfield 15, 3) := by decide +kernel
theorem d_jdk_42_method_154_10 : decode jdk_42_method_154_code 10 = .ok (.ifCond .ne 7, 3) := by decide +kernel
theorem d_jdk_42_method_154_13 : decode jdk_42_method_154_code 13 = .ok (.iconst 1, 1) := by decide +kernel
theorem d_jdk_42_method_154_14 : decode jdk_42_method_154_code 14 = .ok (.goto 4, 3) := by decide +kernel
theorem d_jdk_42_method_154_18 : decode jdk_42_method_154_code 18 = .ok (.ireturn, 1) := by decide +kernel
theorem d_jdk_42_method_54_0 : decode jdk_42_method_54_code 0 = .ok (.aload_n 0, 1) := by decide +kernel
theorem d_jdk_42_method_54_1 : decode jdk_42_method_54_code 1 = .ok (.getfield 9, 3) := by decide +kernel
theorem d_jdk_42_method_54_4 : decode jdk_42_method_54_code 4 = .ok (.arraylength, 1) := by decide +kernel
theorem d_jdk_42_method_54_5 : decode jdk_42_method_54_code 5 = .ok (.aload_n 0, 1) := by decide +kernel
theorem d_jdk_42_method_54_6 : decode jdk_42_method_54_code 6 = .ok (.invokevirtual 335, 3) := by decide +kernel
theorem d_jdk_42_method_54_9 : decode jdk_42_method_54_code 9 = .ok (.ishr, 1) := by decide +kernel
theorem d_jdk_42_method_54_10 : decode jdk_42_method_54_code 10 = .ok (.ireturn, 1) := by decide +kernel
theorem d_jdk_43_method_2_0 : decode jdk_43_method_2_code 0 = .ok (.iload_n 1, 1) := by decide +kernel
theorem d_jdk_43_method_2_1 : decode jdk_43_method_2_code 1 = .ok (.aload_n 0, 1) := by decide +kernel
theorem d_jdk_43_method_2_2 : decode jdk_43_method_2_code 2 = .ok (.arraylength, 1) := by decide +kernel
theorem d_jdk_43_method_2_3 : decode jdk_43_method_2_code 3 = .ok (.invokestatic 9, 3) := by decide +kernel
theorem d_jdk_43_method_2_6 : decode jdk_43_method_2_code 6 = .ok (.aload_n 0, 1) := by decide +kernel
theorem d_jdk_43_method_2_7 : decode jdk_43_method_2_code 7 = .ok (.iload_n 1, 1) := by decide +kernel
theorem d_jdk_43_method_2_8 : decode jdk_43_method_2_code 8 = .ok (.baload, 1) := by decide +kernel
theorem d_jdk_43_method_2_9 : decode jdk_43_method_2_code 9 = .ok (.sipush 255, 3) := by decide +kernel
theorem d_jdk_43_method_2_12 : decode jdk_43_method_2_code 12 = .ok (.iand, 1) := by decide +kernel
theorem d_jdk_43_method_2_13 : decode jdk_43_method_2_code 13 = .ok (.i2c, 1) := by decide +kernel
theorem d_jdk_43_method_2_14 : decode jdk_43_method_2_code 14 = .ok (.ireturn, 1) := by decide +kernel
theorem d_jdk_52_method_15_0 : decode jdk_52_method_15_code 0 = .ok (.iload_n 1, 1) := by decide +kernel
theorem d_jdk_52_method_15_1 : decode jdk_52_method_15_code 1 = .ok (.aload_n 0, 1) := by decide +kernel
theorem d_jdk_52_method_15_2 : decode jdk_52_method_15_code 2 = .ok (.arraylength, 1) := by decide +kernel
theorem d_jdk_52_method_15_3 : decode jdk_52_method_15_code 3 = .ok (.isub, 1) := by decide +kernel
theorem d_jdk_52_method_15_4 : decode jdk_52_method_15_code 4 = .ok (.bipush 31, 2) := by decide +kernel
theorem d_jdk_52_method_15_6 : decode jdk_52_method_15_code 6 = .ok (.iushr, 1) := by decide +kernel
theorem d_jdk_52_method_15_7 : decode jdk_52_method_15_code 7 = .ok (.i2b, 1) := by decide +kernel
theorem d_jdk_52_method_15_8 : decode jdk_52_method_15_code 8 = .ok (.ireturn, 1) := by decide +kernel
theorem d_jdk_52_method_16_0 : decode jdk_52_method_16_code 0 = .ok (.iload_n 2, 1) := by decide +kernel
theorem d_jdk_52_method_16_1 : decode jdk_52_method_16_code 1 = .ok (.newarray .byte, 2) := by decide +kernel
theorem d_jdk_52_method_16_3 : decode jdk_52_method_16_code 3 = .ok (.astore_n 3, 1) := by decide +kernel
theorem d_jdk_52_method_16_4 : decode jdk_52_method_16_code 4 = .ok (.aload_n 0, 1) := by decide +kernel
theorem d_jdk_52_method_16_5 : decode jdk_52_method_16_code 5 = .ok (.iload_n 1, 1) := by decide +kernel
theorem d_jdk_52_method_16_6 : decode jdk_52_method_16_code 6 = .ok (.aload_n 3, 1) := by decide +kernel
theorem d_jdk_52_method_16_7 : decode jdk_52_method_16_code 7 = .ok (.iconst 0, 1) := by decide +kernel
theorem d_jdk_52_method_16_8 : decode jdk_52_method_16_code 8 = .ok (.iload_n 2, 1) := by decide +kernel
theorem d_jdk_52_method_16_9 : decode jdk_52_method_16_code 9 = .ok (.invokestatic 115, 3) := by decide +kernel
theorem d_jdk_52_method_16_12 : decode jdk_52_method_16_code 12 = .ok (.istore 4, 2) := by decide +kernel
theorem d_jdk_52_method_16_14 : decode jdk_52_method_16_code 14 = .ok (.iload 4, 2) := by decide +kernel
theorem d_jdk_52_method_16_16 : decode jdk_52_method_16_code 16 = .ok (.iload_n 2, 1) := by decide +kernel
theorem d_jdk_52_method_16_17 : decode jdk_52_method_16_code 17 = .ok (.if_icmp .eq 40, 3) := by decide +kernel
theorem d_jdk_52_method_16_57 : decode jdk_52_method_16_code 57 = .ok (.aload_n 3, 1) := by decide +kernel
theorem d_jdk_52_method_16_58 : decode jdk_52_method_16_code 58 = .ok (.areturn, 1) := by decide +kernel
theorem d_jdk_52_method_21_0 : decode jdk_52_method_21_code 0 = .ok (.iconst 0, 1) := by decide +kernel
theorem d_jdk_52_method_21_1 : decode jdk_52_method_21_code 1 = .ok (.istore 5, 2) := by decide +kernel
theorem d_jdk_52_method_21_3 : decode jdk_52_method_21_code 3 = .ok (.iload 5, 2) := by decide +kernel
theorem d_jdk_52_method_21_5 : decode jdk_52_method_21_code 5 = .ok (.iload 4, 2) := by decide +kernel
theorem d_jdk_52_method_21_7 : decode jdk_52_method_21_code 7 = .ok (.if_icmp .ge 37, 3) := by decide +kernel
theorem d_jdk_52_method_21_10 : decode jdk_52_method_21_code 10 = .ok (.aload_n 0, 1) := by decide +kernel
theorem d_jdk_52_method_21_11 : decode jdk_52_method_21_code 11 = .ok (.iload_n 1, 1) := by decide +kernel
theorem d_jdk_52_method_21_12 : decode jdk_52_method_21_code 12 = .ok (.caload, 1) := by decide +kernel
theorem d_jdk_52_method_21_13 : decode jdk_52_method_21_code 13 = .ok (.istore 6, 2) := by decide +kernel
theorem d_jdk_52_method_21_15 : decode jdk_52_method_21_code 15 = .ok (.iload 6, 2) := by decide +kernel
theorem d_jdk_52_method_21_17 : decode jdk_52_method_21_code 17 = .ok (.sipush 255, 3) := by decide +kernel
theorem d_jdk_52_method_21_20 : decode jdk_52_method_21_code 20 = .ok (.if_icmp .le 6, 3) := by decide +kernel
theorem d_jdk_52_method_21_26 : decode jdk_52_method_21_code 26 = .ok (.aload_n 2, 1) := by decide +kernel
theorem d_jdk_52_method_21_27 : decode jdk_52_method_21_code 27 = .ok (.iload_n 3, 1) := by decide +kernel
theorem d_jdk_52_method_21_28 : decode jdk_52_method_21_code 28 = .ok (.iload 6, 2) := by decide +kernel
theorem d_jdk_52_method_21_30 : decode jdk_52_method_21_code 30 = .ok (.i2b, 1) := by decide +kernel
theorem d_jdk_52_method_21_31 : decode jdk_52_method_21_code 31 = .ok (.bastore, 1) := by decide +kernel
theorem d_jdk_52_method_21_32 : decode jdk_52_method_21_code 32 = .ok (.iinc 1 1, 3) := by decide +kernel
theorem d_jdk_52_method_21_35 : decode jdk_52_method_21_code 35 = .ok (.iinc 3 1, 3) := by decide +kernel
theorem d_jdk_52_method_21_38 : decode jdk_52_method_21_code 38 = .ok (.iinc 5 1, 3) := by decide +kernel
theorem d_jdk_52_method_21_41 : decode jdk_52_method_21_code 41 = .ok (.goto (-38), 3) := by decide +kernel
theorem d_jdk_52_method_21_44 : decode jdk_52_method_21_code 44 = .ok (.iload 4, 2) := by decide +kernel
theorem d_jdk_52_method_21_46 : decode jdk_52_method_21_code 46 = .ok (.ireturn, 1) := by decide +kernel
theorem d_jdk_41_method_11_0 : decode jdk_41_method_11_code 0 = .ok (.iload_n 0, 1) := by decide +kernel
theorem d_jdk_41_method_11_1 : decode jdk_41_method_11_code 1 = .ok (.ifCond .lt 8, 3) := by decide +kernel
theorem d_jdk_41_method_11_4 : decode jdk_41_method_11_code 4 = .ok (.iload_n 0, 1) := by decide +kernel
theorem d_jdk_41_method_11_5 : decode jdk_41_method_11_code 5 = .ok (.iload_n 1, 1) := by decide +kernel
theorem d_jdk_41_method_11_6 : decode jdk_41_method_11_code 6 = .ok (.if_icmp .lt 10, 3) := by decide +kernel
theorem d_jdk_41_method_11_16 : decode jdk_41_method_11_code 16 = .ok (.iload_n 0, 1) := by decide +kernel
theorem d_jdk_41_method_11_17 : decode jdk_41_method_11_code 17 = .ok (.ireturn, 1) := by decide +kernel
theorem w_0 {Z : State} {a0 : Array Value} (hw : ∀ d ∈ tables_1, d.before a0 Z = true) : (Jvm.Cond.constant "com/example/tapstone/tapstone/store/OutcomeOrRefusedPinLaw" (7 : Nat) (2147483647 : Int32)).before a0 Z = true := hw _ (List.mem_of_getElem? (i := 0) rfl)
theorem w_1 {Z : State} {a0 : Array Value} (hw : ∀ d ∈ tables_1, d.before a0 Z = true) : (Jvm.Cond.arrayClass Jvm.ClassFile.FieldType.char).before a0 Z = true := hw _ (List.mem_of_getElem? (i := 1) rfl)
theorem w_2 {Z : State} {a0 : Array Value} (hw : ∀ d ∈ tables_1, d.before a0 Z = true) : (Jvm.Cond.classLink "com/example/tapstone/tapstone/store/OutcomeOrRefusedPinLaw" (19 : Nat) "com/example/tapstone/tapstone/store/TokenStore$Outcome").before a0 Z = true := hw _ (List.mem_of_getElem? (i := 2) rfl)
theorem w_3 {Z : State} {a0 : Array Value} (hw : ∀ d ∈ tables_1, d.before a0 Z = true) : (Jvm.Cond.instantiable "com/example/tapstone/tapstone/store/TokenStore$Outcome" (2 : Nat)).before a0 Z = true := hw _ (List.mem_of_getElem? (i := 3) rfl)
theorem w_4 {Z : State} {a0 : Array Value} (hw : ∀ d ∈ tables_1, d.before a0 Z = true) : (Jvm.Cond.initialized "com/example/tapstone/tapstone/store/TokenStore$Outcome").before a0 Z = true := hw _ (List.mem_of_getElem? (i := 4) rfl)
theorem w_5 {Z : State} {a0 : Array Value} (hw : ∀ d ∈ tables_1, d.before a0 Z = true) : (Jvm.Cond.methodLink "com/example/tapstone/tapstone/store/OutcomeOrRefusedPinLaw" (21 : Nat) ({ cls := "com/example/tapstone/tapstone/store/TokenStore$Outcome", name := "<init>", desc := "(Ljava/lang/Object;Lcom/example/tapstone/tapstone/store/TokenRefusedException$Refusal;)V" } : Jvm.MethodName)).before a0 Z = true := hw _ (List.mem_of_getElem? (i := 5) rfl)
theorem w_6 {Z : State} {a0 : Array Value} (hw : ∀ d ∈ tables_1, d.before a0 Z = true) : (Jvm.Cond.instanceMethod ({ cls := "com/example/tapstone/tapstone/store/TokenStore$Outcome", name := "<init>", desc := "(Ljava/lang/Object;Lcom/example/tapstone/tapstone/store/TokenRefusedException$Refusal;)V" } : Jvm.MethodName)).before a0 Z = true := hw _ (List.mem_of_getElem? (i := 6) rfl)
theorem w_7 {Z : State} {a0 : Array Value} (hw : ∀ d ∈ tables_1, d.before a0 Z = true) : (Jvm.Cond.code ({ cls := "com/example/tapstone/tapstone/store/TokenStore$Outcome", name := "<init>", desc := "(Ljava/lang/Object;Lcom/example/tapstone/tapstone/store/TokenRefusedException$Refusal;)V" } : Jvm.MethodName) prog_63_method_1_code (3 : Nat) (Option.none : Option Jvm.ClassFile.FieldType)).before a0 Z = true := hw _ (List.mem_of_getElem? (i := 7) rfl)
theorem w_8 {Z : State} {a0 : Array Value} (hw : ∀ d ∈ tables_1, d.before a0 Z = true) : (Jvm.Cond.methodLink "com/example/tapstone/tapstone/store/TokenStore$Outcome" (1 : Nat) ({ cls := "java/lang/Record", name := "<init>", desc := "()V" } : Jvm.MethodName)).before a0 Z = true := hw _ (List.mem_of_getElem? (i := 8) rfl)
theorem w_9 {Z : State} {a0 : Array Value} (hw : ∀ d ∈ tables_1, d.before a0 Z = true) : (Jvm.Cond.instanceMethod ({ cls := "java/lang/Record", name := "<init>", desc := "()V" } : Jvm.MethodName)).before a0 Z = true := hw _ (List.mem_of_getElem? (i := 9) rfl)
theorem w_11 {Z : State} {a0 : Array Value} (hw : ∀ d ∈ tables_1, d.before a0 Z = true) : (Jvm.Cond.initialized "java/lang/Record").before a0 Z = true := hw _ (List.mem_of_getElem? (i := 11) rfl)
theorem w_12 {Z : State} {a0 : Array Value} (hw : ∀ d ∈ tables_1, d.before a0 Z = true) : (Jvm.Cond.code ({ cls := "java/lang/Record", name := "<init>", desc := "()V" } : Jvm.MethodName) jdk_30_method_1_code (1 : Nat) (Option.none : Option Jvm.ClassFile.FieldType)).before a0 Z = true := hw _ (List.mem_of_getElem? (i := 12) rfl)
theorem w_13 {Z : State} {a0 : Array Value} (hw : ∀ d ∈ tables_1, d.before a0 Z = true) : (Jvm.Cond.methodLink "java/lang/Record" (1 : Nat) ({ cls := "java/lang/Object", name := "<init>", desc := "()V" } : Jvm.MethodName)).before a0 Z = true := hw _ (List.mem_of_getElem? (i := 13) rfl)
theorem w_14 {Z : State} {a0 : Array Value} (hw : ∀ d ∈ tables_1, d.before a0 Z = true) : (Jvm.Cond.instanceMethod ({ cls := "java/lang/Object", name := "<init>", desc := "()V" } : Jvm.MethodName)).before a0 Z = true := hw _ (List.mem_of_getElem? (i := 14) rfl)
theorem w_15 {Z : State} {a0 : Array Value} (hw : ∀ d ∈ tables_1, d.before a0 Z = true) : (Jvm.Cond.code ({ cls := "java/lang/Object", name := "<init>", desc := "()V" } : Jvm.MethodName) object_method_1_code (1 : Nat) (Option.none : Option Jvm.ClassFile.FieldType)).before a0 Z = true := hw _ (List.mem_of_getElem? (i := 15) rfl)
theorem w_16 {Z : State} {a0 : Array Value} (hw : ∀ d ∈ tables_1, d.before a0 Z = true) : (Jvm.Cond.fieldLink "com/example/tapstone/tapstone/store/TokenStore$Outcome" (7 : Nat) "com/example/tapstone/tapstone/store/TokenStore$Outcome" "value" "Ljava/lang/Object;").before a0 Z = true := hw _ (List.mem_of_getElem? (i := 16) rfl)
theorem w_17 {Z : State} {a0 : Array Value} (hw : ∀ d ∈ tables_1, d.before a0 Z = true) : (Jvm.Cond.laysFinal "com/example/tapstone/tapstone/store/TokenStore$Outcome" "com/example/tapstone/tapstone/store/TokenStore$Outcome" "value" "Ljava/lang/Object;").before a0 Z = true := hw _ (List.mem_of_getElem? (i := 17) rfl)
theorem w_18 {Z : State} {a0 : Array Value} (hw : ∀ d ∈ tables_1, d.before a0 Z = true) : (Jvm.Cond.fieldLink "com/example/tapstone/tapstone/store/TokenStore$Outcome" (13 : Nat) "com/example/tapstone/tapstone/store/TokenStore$Outcome" "refusal" "Lcom/example/tapstone/tapstone/store/TokenRefusedException$Refusal;").before a0 Z = true := hw _ (List.mem_of_getElem? (i := 18) rfl)
theorem w_19 {Z : State} {a0 : Array Value} (hw : ∀ d ∈ tables_1, d.before a0 Z = true) : (Jvm.Cond.laysFinal "com/example/tapstone/tapstone/store/TokenStore$Outcome" "com/example/tapstone/tapstone/store/TokenStore$Outcome" "refusal" "Lcom/example/tapstone/tapstone/store/TokenRefusedException$Refusal;").before a0 Z = true := hw _ (List.mem_of_getElem? (i := 19) rfl)
theorem w_20 {Z : State} {a0 : Array Value} (hw : ∀ d ∈ tables_1, d.before a0 Z = true) : (Jvm.Cond.methodLink "com/example/tapstone/tapstone/store/OutcomeOrRefusedPinLaw" (24 : Nat) ({ cls := "com/example/tapstone/tapstone/store/TokenStore$Outcome", name := "orRefused", desc := "()Ljava/lang/Object;" } : Jvm.MethodName)).before a0 Z = true := hw _ (List.mem_of_getElem? (i := 20) rfl)
theorem w_21 {Z : State} {a0 : Array Value} (hw : ∀ d ∈ tables_1, d.before a0 Z = true) : (Jvm.Cond.declares ({ cls := "com/example/tapstone/tapstone/store/TokenStore$Outcome", name := "orRefused", desc := "()Ljava/lang/Object;" } : Jvm.MethodName)).before a0 Z = true := hw _ (List.mem_of_getElem? (i := 21) rfl)
theorem w_22 {Z : State} {a0 : Array Value} (hw : ∀ d ∈ tables_1, d.before a0 Z = true) : (Jvm.Cond.instanceMethod ({ cls := "com/example/tapstone/tapstone/store/TokenStore$Outcome", name := "orRefused", desc := "()Ljava/lang/Object;" } : Jvm.MethodName)).before a0 Z = true := hw _ (List.mem_of_getElem? (i := 22) rfl)
theorem w_23 {Z : State} {a0 : Array Value} (hw : ∀ d ∈ tables_1, d.before a0 Z = true) : (Jvm.Cond.selects "com/example/tapstone/tapstone/store/TokenStore$Outcome" ({ cls := "com/example/tapstone/tapstone/store/TokenStore$Outcome", name := "orRefused", desc := "()Ljava/lang/Object;" } : Jvm.MethodName) ({ cls := "com/example/tapstone/tapstone/store/TokenStore$Outcome", name := "orRefused", desc := "()Ljava/lang/Object;" } : Jvm.MethodName)).before a0 Z = true := hw _ (List.mem_of_getElem? (i := 23) rfl)
theorem w_24 {Z : State} {a0 : Array Value} (hw : ∀ d ∈ tables_1, d.before a0 Z = true) : (Jvm.Cond.code ({ cls := "com/example/tapstone/tapstone/store/TokenStore$Outcome", name := "orRefused", desc := "()Ljava/lang/Object;" } : Jvm.MethodName) prog_63_method_4_code (1 : Nat) (Option.some (Jvm.ClassFile.FieldType.object "java/lang/Object"))).before a0 Z = true := hw _ (List.mem_of_getElem? (i := 24) rfl)
theorem w_25 {Z : State} {a0 : Array Value} (hw : ∀ d ∈ tables_1, d.before a0 Z = true) : (Jvm.Cond.methodLink "com/example/tapstone/tapstone/store/OutcomeOrRefusedPinLaw" (8 : Nat) ({ cls := "java/lang/Integer", name := "valueOf", desc := "(I)Ljava/lang/Integer;" } : Jvm.MethodName)).before a0 Z = true := hw _ (List.mem_of_getElem? (i := 25) rfl)
theorem w_26 {Z : State} {a0 : Array Value} (hw : ∀ d ∈ tables_1, d.before a0 Z = true) : (Jvm.Cond.static ({ cls := "java/lang/Integer", name := "valueOf", desc := "(I)Ljava/lang/Integer;" } : Jvm.MethodName)).before a0 Z = true := hw _ (List.mem_of_getElem? (i := 26) rfl)
theorem w_27 {Z : State} {a0 : Array Value} (hw : ∀ d ∈ tables_1, d.before a0 Z = true) : (Jvm.Cond.initialized "java/lang/Integer").before a0 Z = true := hw _ (List.mem_of_getElem? (i := 27) rfl)
theorem w_28 {Z : State} {a0 : Array Value} (hw : ∀ d ∈ tables_1, d.before a0 Z = true) : (Jvm.Cond.code ({ cls := "java/lang/Integer", name := "valueOf", desc := "(I)Ljava/lang/Integer;" } : Jvm.MethodName) jdk_33_method_22_code (1 : Nat) (Option.some (Jvm.ClassFile.FieldType.object "java/lang/Integer"))).before a0 Z = true := hw _ (List.mem_of_getElem? (i := 28) rfl)
theorem w_29 {Z : State} {a0 : Array Value} (hw : ∀ d ∈ tables_1, d.before a0 Z = true) : (Jvm.Cond.fieldLink "java/lang/Integer" (191 : Nat) "java/lang/Integer$IntegerCache" "high" "I").before a0 Z = true := hw _ (List.mem_of_getElem? (i := 29) rfl)
theorem w_30 {Z : State} {a0 : Array Value} (hw : ∀ d ∈ tables_1, d.before a0 Z = true) : (Jvm.Cond.initialized "java/lang/Integer$IntegerCache").before a0 Z = true := hw _ (List.mem_of_getElem? (i := 30) rfl)
theorem w_31 {Z : State} {a0 : Array Value} (hw : ∀ d ∈ tables_1, d.before a0 Z = true) : (Jvm.Cond.classLink "java/lang/Integer" (1 : Nat) "java/lang/Integer").before a0 Z = true := hw _ (List.mem_of_getElem? (i := 31) rfl)
theorem w_32 {Z : State} {a0 : Array Value} (hw : ∀ d ∈ tables_1, d.before a0 Z = true) : (Jvm.Cond.instantiable "java/lang/Integer" (1 : Nat)).before a0 Z = true := hw _ (List.mem_of_getElem? (i := 32) rfl)
theorem w_33 {Z : State} {a0 : Array Value} (hw : ∀ d ∈ tables_1, d.before a0 Z = true) : (Jvm.Cond.methodLink "java/lang/Integer" (199 : Nat) ({ cls := "java/lang/Integer", name := "<init>", desc := "(I)V" } : Jvm.MethodName)).before a0 Z = true := hw _ (List.mem_of_getElem? (i := 33) rfl)
theorem w_34 {Z : State} {a0 : Array Value} (hw : ∀ d ∈ tables_1, d.before a0 Z = true) : (Jvm.Cond.instanceMethod ({ cls := "java/lang/Integer", name := "<init>", desc := "(I)V" } : Jvm.MethodName)).before a0 Z = true := hw _ (List.mem_of_getElem? (i := 34) rfl)
theorem w_36 {Z : State} {a0 : Array Value} (hw : ∀ d ∈ tables_1, d.before a0 Z = true) : (Jvm.Cond.code ({ cls := "java/lang/Integer", name := "<init>", desc := "(I)V" } : Jvm.MethodName) jdk_33_method_23_code (2 : Nat) (Option.none : Option Jvm.ClassFile.FieldType)).before a0 Z = true := hw _ (List.mem_of_getElem? (i := 36) rfl)
theorem w_37 {Z : State} {a0 : Array Value} (hw : ∀ d ∈ tables_1, d.before a0 Z = true) : (Jvm.Cond.methodLink "java/lang/Integer" (202 : Nat) ({ cls := "java/lang/Number", name := "<init>", desc := "()V" } : Jvm.MethodName)).before a0 Z = true := hw _ (List.mem_of_getElem? (i := 37) rfl)
theorem w_38 {Z : State} {a0 : Array Value} (hw : ∀ d ∈ tables_1, d.before a0 Z = true) : (Jvm.Cond.instanceMethod ({ cls := "java/lang/Number", name := "<init>", desc := "()V" } : Jvm.MethodName)).before a0 Z = true := hw _ (List.mem_of_getElem? (i := 38) rfl)
theorem w_41 {Z : State} {a0 : Array Value} (hw : ∀ d ∈ tables_1, d.before a0 Z = true) : (Jvm.Cond.initialized "java/lang/Number").before a0 Z = true := hw _ (List.mem_of_getElem? (i := 41) rfl)
theorem w_42 {Z : State} {a0 : Array Value} (hw : ∀ d ∈ tables_1, d.before a0 Z = true) : (Jvm.Cond.code ({ cls := "java/lang/Number", name := "<init>", desc := "()V" } : Jvm.MethodName) jdk_18_method_1_code (1 : Nat) (Option.none : Option Jvm.ClassFile.FieldType)).before a0 Z = true := hw _ (List.mem_of_getElem? (i := 42) rfl)
theorem w_43 {Z : State} {a0 : Array Value} (hw : ∀ d ∈ tables_1, d.before a0 Z = true) : (Jvm.Cond.methodLink "java/lang/Number" (1 : Nat) ({ cls := "java/lang/Object", name := "<init>", desc := "()V" } : Jvm.MethodName)).before a0 Z = true := hw _ (List.mem_of_getElem? (i := 43) rfl)
theorem w_44 {Z : State} {a0 : Array Value} (hw : ∀ d ∈ tables_1, d.before a0 Z = true) : (Jvm.Cond.fieldLink "java/lang/Integer" (205 : Nat) "java/lang/Integer" "value" "I").before a0 Z = true := hw _ (List.mem_of_getElem? (i := 44) rfl)
theorem w_45 {Z : State} {a0 : Array Value} (hw : ∀ d ∈ tables_1, d.before a0 Z = true) : (Jvm.Cond.laysFinal "java/lang/Integer" "java/lang/Integer" "value" "I").before a0 Z = true := hw _ (List.mem_of_getElem? (i := 45) rfl)
theorem w_46 {Z : State} {a0 : Array Value} (hw : ∀ d ∈ tables_1, d.before a0 Z = true) : (Jvm.Cond.classLink "com/example/tapstone/tapstone/store/OutcomeOrRefusedPinLaw" (9 : Nat) "java/lang/Integer").before a0 Z = true := hw _ (List.mem_of_getElem? (i := 46) rfl)
theorem w_47 {Z : State} {a0 : Array Value} (hw : ∀ d ∈ tables_1, d.before a0 Z = true) : (Jvm.Cond.methodLink "com/example/tapstone/tapstone/store/OutcomeOrRefusedPinLaw" (28 : Nat) ({ cls := "java/lang/Integer", name := "intValue", desc := "()I" } : Jvm.MethodName)).before a0 Z = true := hw _ (List.mem_of_getElem? (i := 47) rfl)
theorem w_48 {Z : State} {a0 : Array Value} (hw : ∀ d ∈ tables_1, d.before a0 Z = true) : (Jvm.Cond.declares ({ cls := "java/lang/Integer", name := "intValue", desc := "()I" } : Jvm.MethodName)).before a0 Z = true := hw _ (List.mem_of_getElem? (i := 48) rfl)
theorem w_49 {Z : State} {a0 : Array Value} (hw : ∀ d ∈ tables_1, d.before a0 Z = true) : (Jvm.Cond.instanceMethod ({ cls := "java/lang/Integer", name := "intValue", desc := "()I" } : Jvm.MethodName)).before a0 Z = true := hw _ (List.mem_of_getElem? (i := 49) rfl)
theorem w_50 {Z : State} {a0 : Array Value} (hw : ∀ d ∈ tables_1, d.before a0 Z = true) : (Jvm.Cond.selects "java/lang/Integer" ({ cls := "java/lang/Integer", name := "intValue", desc := "()I" } : Jvm.MethodName) ({ cls := "java/lang/Integer", name := "intValue", desc := "()I" } : Jvm.MethodName)).before a0 Z = true := hw _ (List.mem_of_getElem? (i := 50) rfl)
theorem w_51 {Z : State} {a0 : Array Value} (hw : ∀ d ∈ tables_1, d.before a0 Z = true) : (Jvm.Cond.code ({ cls := "java/lang/Integer", name := "intValue", desc := "()I" } : Jvm.MethodName) jdk_33_method_27_code (1 : Nat) (Option.some Jvm.ClassFile.FieldType.int)).before a0 Z = true := hw _ (List.mem_of_getElem? (i := 51) rfl)
theorem w_52 {Z : State} {a0 : Array Value} (hw : ∀ d ∈ tables_1, d.before a0 Z = true) : (Jvm.Cond.fieldLink "java/lang/Integer" (195 : Nat) "java/lang/Integer$IntegerCache" "cache" "[Ljava/lang/Integer;").before a0 Z = true := hw _ (List.mem_of_getElem? (i := 52) rfl)
theorem w_53 {Z : State} {a0 : Array Value} (hw : ∀ d ∈ tables_1, d.before a0 Z = true) : (Jvm.Cond.classLink "com/example/tapstone/tapstone/store/OutcomeOrRefusedPinLaw" (14 : Nat) "java/lang/String").before a0 Z = true := hw _ (List.mem_of_getElem? (i := 53) rfl)
theorem w_54 {Z : State} {a0 : Array Value} (hw : ∀ d ∈ tables_1, d.before a0 Z = true) : (Jvm.Cond.instantiable "java/lang/String" (4 : Nat)).before a0 Z = true := hw _ (List.mem_of_getElem? (i := 54) rfl)
theorem w_55 {Z : State} {a0 : Array Value} (hw : ∀ d ∈ tables_1, d.before a0 Z = true) : (Jvm.Cond.initialized "java/lang/String").before a0 Z = true := hw _ (List.mem_of_getElem? (i := 55) rfl)
theorem w_56 {Z : State} {a0 : Array Value} (hw : ∀ d ∈ tables_1, d.before a0 Z = true) : (Jvm.Cond.methodLink "com/example/tapstone/tapstone/store/OutcomeOrRefusedPinLaw" (16 : Nat) ({ cls := "java/lang/String", name := "<init>", desc := "([C)V" } : Jvm.MethodName)).before a0 Z = true := hw _ (List.mem_of_getElem? (i := 56) rfl)
theorem w_57 {Z : State} {a0 : Array Value} (hw : ∀ d ∈ tables_1, d.before a0 Z = true) : (Jvm.Cond.instanceMethod ({ cls := "java/lang/String", name := "<init>", desc := "([C)V" } : Jvm.MethodName)).before a0 Z = true := hw _ (List.mem_of_getElem? (i := 57) rfl)
theorem w_58 {Z : State} {a0 : Array Value} (hw : ∀ d ∈ tables_1, d.before a0 Z = true) : (Jvm.Cond.code ({ cls := "java/lang/String", name := "<init>", desc := "([C)V" } : Jvm.MethodName) jdk_42_method_3_code (2 : Nat) (Option.none : Option Jvm.ClassFile.FieldType)).before a0 Z = true := hw _ (List.mem_of_getElem? (i := 58) rfl)
theorem w_59 {Z : State} {a0 : Array Value} (hw : ∀ d ∈ tables_1, d.before a0 Z = true) : (Jvm.Cond.methodLink "java/lang/String" (27 : Nat) ({ cls := "java/lang/String", name := "<init>", desc := "([CIILjava/lang/Void;)V" } : Jvm.MethodName)).before a0 Z = true := hw _ (List.mem_of_getElem? (i := 59) rfl)
theorem w_60 {Z : State} {a0 : Array Value} (hw : ∀ d ∈ tables_1, d.before a0 Z = true) : (Jvm.Cond.instanceMethod ({ cls := "java/lang/String", name := "<init>", desc := "([CIILjava/lang/Void;)V" } : Jvm.MethodName)).before a0 Z = true := hw _ (List.mem_of_getElem? (i := 60) rfl)
theorem w_62 {Z : State} {a0 : Array Value} (hw : ∀ d ∈ tables_1, d.before a0 Z = true) : (Jvm.Cond.code ({ cls := "java/lang/String", name := "<init>", desc := "([CIILjava/lang/Void;)V" } : Jvm.MethodName) jdk_42_method_149_code (6 : Nat) (Option.none : Option Jvm.ClassFile.FieldType)).before a0 Z = true := hw _ (List.mem_of_getElem? (i := 62) rfl)
theorem w_63 {Z : State} {a0 : Array Value} (hw : ∀ d ∈ tables_1, d.before a0 Z = true) : (Jvm.Cond.methodLink "java/lang/String" (1 : Nat) ({ cls := "java/lang/Object", name := "<init>", desc := "()V" } : Jvm.MethodName)).before a0 Z = true := hw _ (List.mem_of_getElem? (i := 63) rfl)
theorem w_64 {Z : State} {a0 : Array Value} (hw : ∀ d ∈ tables_1, d.before a0 Z = true) : (Jvm.Cond.fieldLink "java/lang/String" (38 : Nat) "java/lang/String" "COMPACT_STRINGS" "Z").before a0 Z = true := hw _ (List.mem_of_getElem? (i := 64) rfl)
theorem w_65 {Z : State} {a0 : Array Value} (hw : ∀ d ∈ tables_1, d.before a0 Z = true) : (Jvm.Cond.methodLink "java/lang/String" (177 : Nat) ({ cls := "java/lang/StringUTF16", name := "compress", desc := "([CII)[B" } : Jvm.MethodName)).before a0 Z = true := hw _ (List.mem_of_getElem? (i := 65) rfl)
theorem w_66 {Z : State} {a0 : Array Value} (hw : ∀ d ∈ tables_1, d.before a0 Z = true) : (Jvm.Cond.static ({ cls := "java/lang/StringUTF16", name := "compress", desc := "([CII)[B" } : Jvm.MethodName)).before a0 Z = true := hw _ (List.mem_of_getElem? (i := 66) rfl)
theorem w_67 {Z : State} {a0 : Array Value} (hw : ∀ d ∈ tables_1, d.before a0 Z = true) : (Jvm.Cond.initialized "java/lang/StringUTF16").before a0 Z = true := hw _ (List.mem_of_getElem? (i := 67) rfl)
theorem w_68 {Z : State} {a0 : Array Value} (hw : ∀ d ∈ tables_1, d.before a0 Z = true) : (Jvm.Cond.code ({ cls := "java/lang/StringUTF16", name := "compress", desc := "([CII)[B" } : Jvm.MethodName) jdk_52_method_16_code (6 : Nat) (Option.some (Jvm.ClassFile.FieldType.array Jvm.ClassFile.FieldType.byte))).before a0 Z = true := hw _ (List.mem_of_getElem? (i := 68) rfl)
theorem w_69 {Z : State} {a0 : Array Value} (hw : ∀ d ∈ tables_1, d.before a0 Z = true) : (Jvm.Cond.arrayClass Jvm.ClassFile.FieldType.byte).before a0 Z = true := hw _ (List.mem_of_getElem? (i := 69) rfl)
theorem w_70 {Z : State} {a0 : Array Value} (hw : ∀ d ∈ tables_1, d.before a0 Z = true) : (Jvm.Cond.methodLink "java/lang/StringUTF16" (115 : Nat) ({ cls := "java/lang/StringUTF16", name := "compress", desc := "([CI[BII)I" } : Jvm.MethodName)).before a0 Z = true := hw _ (List.mem_of_getElem? (i := 70) rfl)
theorem w_71 {Z : State} {a0 : Array Value} (hw : ∀ d ∈ tables_1, d.before a0 Z = true) : (Jvm.Cond.static ({ cls := "java/lang/StringUTF16", name := "compress", desc := "([CI[BII)I" } : Jvm.MethodName)).before a0 Z = true := hw _ (List.mem_of_getElem? (i := 71) rfl)
theorem w_72 {Z : State} {a0 : Array Value} (hw : ∀ d ∈ tables_1, d.before a0 Z = true) : (Jvm.Cond.code ({ cls := "java/lang/StringUTF16", name := "compress", desc := "([CI[BII)I" } : Jvm.MethodName) jdk_52_method_21_code (7 : Nat) (Option.some Jvm.ClassFile.FieldType.int)).before a0 Z = true := hw _ (List.mem_of_getElem? (i := 72) rfl)
theorem w_73 {Z : State} {a0 : Array Value} (hw : ∀ d ∈ tables_1, d.before a0 Z = true) : (Jvm.Cond.methodLink "java/lang/String" (47 : Nat) ({ cls := "java/lang/StringUTF16", name := "coderFromArrayLen", desc := "([BI)B" } : Jvm.MethodName)).before a0 Z = true := hw _ (List.mem_of_getElem? (i := 73) rfl)
theorem w_74 {Z : State} {a0 : Array Value} (hw : ∀ d ∈ tables_1, d.before a0 Z = true) : (Jvm.Cond.static ({ cls := "java/lang/StringUTF16", name := "coderFromArrayLen", desc := "([BI)B" } : Jvm.MethodName)).before a0 Z = true := hw _ (List.mem_of_getElem? (i := 74) rfl)
theorem w_75 {Z : State} {a0 : Array Value} (hw : ∀ d ∈ tables_1, d.before a0 Z = true) : (Jvm.Cond.code ({ cls := "java/lang/StringUTF16", name := "coderFromArrayLen", desc := "([BI)B" } : Jvm.MethodName) jdk_52_method_15_code (2 : Nat) (Option.some Jvm.ClassFile.FieldType.byte)).before a0 Z = true := hw _ (List.mem_of_getElem? (i := 75) rfl)
theorem w_76 {Z : State} {a0 : Array Value} (hw : ∀ d ∈ tables_1, d.before a0 Z = true) : (Jvm.Cond.fieldLink "java/lang/String" (15 : Nat) "java/lang/String" "coder" "B").before a0 Z = true := hw _ (List.mem_of_getElem? (i := 76) rfl)
theorem w_77 {Z : State} {a0 : Array Value} (hw : ∀ d ∈ tables_1, d.before a0 Z = true) : (Jvm.Cond.laysFinal "java/lang/String" "java/lang/String" "coder" "B").before a0 Z = true := hw _ (List.mem_of_getElem? (i := 77) rfl)
theorem w_78 {Z : State} {a0 : Array Value} (hw : ∀ d ∈ tables_1, d.before a0 Z = true) : (Jvm.Cond.fieldLink "java/lang/String" (9 : Nat) "java/lang/String" "value" "[B").before a0 Z = true := hw _ (List.mem_of_getElem? (i := 78) rfl)
theorem w_79 {Z : State} {a0 : Array Value} (hw : ∀ d ∈ tables_1, d.before a0 Z = true) : (Jvm.Cond.laysFinal "java/lang/String" "java/lang/String" "value" "[B").before a0 Z = true := hw _ (List.mem_of_getElem? (i := 79) rfl)
theorem w_80 {Z : State} {a0 : Array Value} (hw : ∀ d ∈ tables_1, d.before a0 Z = true) : (Jvm.Cond.methodLink "com/example/tapstone/tapstone/store/OutcomeOrRefusedPinLaw" (32 : Nat) ({ cls := "java/lang/String", name := "length", desc := "()I" } : Jvm.MethodName)).before a0 Z = true := hw _ (List.mem_of_getElem? (i := 80) rfl)
theorem w_81 {Z : State} {a0 : Array Value} (hw : ∀ d ∈ tables_1, d.before a0 Z = true) : (Jvm.Cond.declares ({ cls := "java/lang/String", name := "length", desc := "()I" } : Jvm.MethodName)).before a0 Z = true := hw _ (List.mem_of_getElem? (i := 81) rfl)
theorem w_82 {Z : State} {a0 : Array Value} (hw : ∀ d ∈ tables_1, d.before a0 Z = true) : (Jvm.Cond.instanceMethod ({ cls := "java/lang/String", name := "length", desc := "()I" } : Jvm.MethodName)).before a0 Z = true := hw _ (List.mem_of_getElem? (i := 82) rfl)
theorem w_83 {Z : State} {a0 : Array Value} (hw : ∀ d ∈ tables_1, d.before a0 Z = true) : (Jvm.Cond.selects "java/lang/String" ({ cls := "java/lang/String", name := "length", desc := "()I" } : Jvm.MethodName) ({ cls := "java/lang/String", name := "length", desc := "()I" } : Jvm.MethodName)).before a0 Z = true := hw _ (List.mem_of_getElem? (i := 83) rfl)
theorem w_84 {Z : State} {a0 : Array Value} (hw : ∀ d ∈ tables_1, d.before a0 Z = true) : (Jvm.Cond.code ({ cls := "java/lang/String", name := "length", desc := "()I" } : Jvm.MethodName) jdk_42_method_54_code (1 : Nat) (Option.some Jvm.ClassFile.FieldType.int)).before a0 Z = true := hw _ (List.mem_of_getElem? (i := 84) rfl)
theorem w_85 {Z : State} {a0 : Array Value} (hw : ∀ d ∈ tables_1, d.before a0 Z = true) : (Jvm.Cond.methodLink "java/lang/String" (335 : Nat) ({ cls := "java/lang/String", name := "coder", desc := "()B" } : Jvm.MethodName)).before a0 Z = true := hw _ (List.mem_of_getElem? (i := 85) rfl)
theorem w_86 {Z : State} {a0 : Array Value} (hw : ∀ d ∈ tables_1, d.before a0 Z = true) : (Jvm.Cond.declares ({ cls := "java/lang/String", name := "coder", desc := "()B" } : Jvm.MethodName)).before a0 Z = true := hw _ (List.mem_of_getElem? (i := 86) rfl)
theorem w_87 {Z : State} {a0 : Array Value} (hw : ∀ d ∈ tables_1, d.before a0 Z = true) : (Jvm.Cond.instanceMethod ({ cls := "java/lang/String", name := "coder", desc := "()B" } : Jvm.MethodName)).before a0 Z = true := hw _ (List.mem_of_getElem? (i := 87) rfl)
theorem w_88 {Z : State} {a0 : Array Value} (hw : ∀ d ∈ tables_1, d.before a0 Z = true) : (Jvm.Cond.selects "java/lang/String" ({ cls := "java/lang/String", name := "coder", desc := "()B" } : Jvm.MethodName) ({ cls := "java/lang/String", name := "coder", desc := "()B" } : Jvm.MethodName)).before a0 Z = true := hw _ (List.mem_of_getElem? (i := 88) rfl)
theorem w_89 {Z : State} {a0 : Array Value} (hw : ∀ d ∈ tables_1, d.before a0 Z = true) : (Jvm.Cond.code ({ cls := "java/lang/String", name := "coder", desc := "()B" } : Jvm.MethodName) jdk_42_method_152_code (1 : Nat) (Option.some Jvm.ClassFile.FieldType.byte)).before a0 Z = true := hw _ (List.mem_of_getElem? (i := 89) rfl)
theorem w_90 {Z : State} {a0 : Array Value} (hw : ∀ d ∈ tables_1, d.before a0 Z = true) : (Jvm.Cond.methodLink "com/example/tapstone/tapstone/store/OutcomeOrRefusedPinLaw" (35 : Nat) ({ cls := "java/lang/String", name := "charAt", desc := "(I)C" } : Jvm.MethodName)).before a0 Z = true := hw _ (List.mem_of_getElem? (i := 90) rfl)
theorem w_91 {Z : State} {a0 : Array Value} (hw : ∀ d ∈ tables_1, d.before a0 Z = true) : (Jvm.Cond.declares ({ cls := "java/lang/String", name := "charAt", desc := "(I)C" } : Jvm.MethodName)).before a0 Z = true := hw _ (List.mem_of_getElem? (i := 91) rfl)
theorem w_92 {Z : State} {a0 : Array Value} (hw : ∀ d ∈ tables_1, d.before a0 Z = true) : (Jvm.Cond.instanceMethod ({ cls := "java/lang/String", name := "charAt", desc := "(I)C" } : Jvm.MethodName)).before a0 Z = true := hw _ (List.mem_of_getElem? (i := 92) rfl)
theorem w_93 {Z : State} {a0 : Array Value} (hw : ∀ d ∈ tables_1, d.before a0 Z = true) : (Jvm.Cond.selects "java/lang/String" ({ cls := "java/lang/String", name := "charAt", desc := "(I)C" } : Jvm.MethodName) ({ cls := "java/lang/String", name := "charAt", desc := "(I)C" } : Jvm.MethodName)).before a0 Z = true := hw _ (List.mem_of_getElem? (i := 93) rfl)
theorem w_94 {Z : State} {a0 : Array Value} (hw : ∀ d ∈ tables_1, d.before a0 Z = true) : (Jvm.Cond.code ({ cls := "java/lang/String", name := "charAt", desc := "(I)C" } : Jvm.MethodName) jdk_42_method_56_code (2 : Nat) (Option.some Jvm.ClassFile.FieldType.char)).before a0 Z = true := hw _ (List.mem_of_getElem? (i := 94) rfl)
theorem w_95 {Z : State} {a0 : Array Value} (hw : ∀ d ∈ tables_1, d.before a0 Z = true) : (Jvm.Cond.methodLink "java/lang/String" (492 : Nat) ({ cls := "java/lang/String", name := "isLatin1", desc := "()Z" } : Jvm.MethodName)).before a0 Z = true := hw _ (List.mem_of_getElem? (i := 95) rfl)
theorem w_96 {Z : State} {a0 : Array Value} (hw : ∀ d ∈ tables_1, d.before a0 Z = true) : (Jvm.Cond.declares ({ cls := "java/lang/String", name := "isLatin1", desc := "()Z" } : Jvm.MethodName)).before a0 Z = true := hw _ (List.mem_of_getElem? (i := 96) rfl)
theorem w_97 {Z : State} {a0 : Array Value} (hw : ∀ d ∈ tables_1, d.before a0 Z = true) : (Jvm.Cond.instanceMethod ({ cls := "java/lang/String", name := "isLatin1", desc := "()Z" } : Jvm.MethodName)).before a0 Z = true := hw _ (List.mem_of_getElem? (i := 97) rfl)
theorem w_98 {Z : State} {a0 : Array Value} (hw : ∀ d ∈ tables_1, d.before a0 Z = true) : (Jvm.Cond.selects "java/lang/String" ({ cls := "java/lang/String", name := "isLatin1", desc := "()Z" } : Jvm.MethodName) ({ cls := "java/lang/String", name := "isLatin1", desc := "()Z" } : Jvm.MethodName)).before a0 Z = true := hw _ (List.mem_of_getElem? (i := 98) rfl)
theorem w_99 {Z : State} {a0 : Array Value} (hw : ∀ d ∈ tables_1, d.before a0 Z = true) : (Jvm.Cond.code ({ cls := "java/lang/String", name := "isLatin1", desc := "()Z" } : Jvm.MethodName) jdk_42_method_154_code (1 : Nat) (Option.some Jvm.ClassFile.FieldType.boolean)).before a0 Z = true := hw _ (List.mem_of_getElem? (i := 99) rfl)
theorem w_100 {Z : State} {a0 : Array Value} (hw : ∀ d ∈ tables_1, d.before a0 Z = true) : (Jvm.Cond.methodLink "java/lang/String" (495 : Nat) ({ cls := "java/lang/StringLatin1", name := "charAt", desc := "([BI)C" } : Jvm.MethodName)).before a0 Z = true := hw _ (List.mem_of_getElem? (i := 100) rfl)
theorem w_101 {Z : State} {a0 : Array Value} (hw : ∀ d ∈ tables_1, d.before a0 Z = true) : (Jvm.Cond.static ({ cls := "java/lang/StringLatin1", name := "charAt", desc := "([BI)C" } : Jvm.MethodName)).before a0 Z = true := hw _ (List.mem_of_getElem? (i := 101) rfl)
theorem w_102 {Z : State} {a0 : Array Value} (hw : ∀ d ∈ tables_1, d.before a0 Z = true) : (Jvm.Cond.initialized "java/lang/StringLatin1").before a0 Z = true := hw _ (List.mem_of_getElem? (i := 102) rfl)
theorem w_103 {Z : State} {a0 : Array Value} (hw : ∀ d ∈ tables_1, d.before a0 Z = true) : (Jvm.Cond.code ({ cls := "java/lang/StringLatin1", name := "charAt", desc := "([BI)C" } : Jvm.MethodName) jdk_43_method_2_code (2 : Nat) (Option.some Jvm.ClassFile.FieldType.char)).before a0 Z = true := hw _ (List.mem_of_getElem? (i := 103) rfl)
theorem w_104 {Z : State} {a0 : Array Value} (hw : ∀ d ∈ tables_1, d.before a0 Z = true) : (Jvm.Cond.methodLink "java/lang/StringLatin1" (9 : Nat) ({ cls := "java/lang/String", name := "checkIndex", desc := "(II)V" } : Jvm.MethodName)).before a0 Z = true := hw _ (List.mem_of_getElem? (i := 104) rfl)
theorem w_105 {Z : State} {a0 : Array Value} (hw : ∀ d ∈ tables_1, d.before a0 Z = true) : (Jvm.Cond.static ({ cls := "java/lang/String", name := "checkIndex", desc := "(II)V" } : Jvm.MethodName)).before a0 Z = true := hw _ (List.mem_of_getElem? (i := 105) rfl)
theorem w_106 {Z : State} {a0 : Array Value} (hw : ∀ d ∈ tables_1, d.before a0 Z = true) : (Jvm.Cond.code ({ cls := "java/lang/String", name := "checkIndex", desc := "(II)V" } : Jvm.MethodName) jdk_42_method_155_code (2 : Nat) (Option.none : Option Jvm.ClassFile.FieldType)).before a0 Z = true := hw _ (List.mem_of_getElem? (i := 106) rfl)
theorem w_107 {Z : State} {a0 : Array Value} (hw : ∀ d ∈ tables_1, d.before a0 Z = true) : (Jvm.Cond.fieldLink "java/lang/String" (1053 : Nat) "jdk/internal/util/Preconditions" "SIOOBE_FORMATTER" "Ljava/util/function/BiFunction;").before a0 Z = true := hw _ (List.mem_of_getElem? (i := 107) rfl)
theorem w_108 {Z : State} {a0 : Array Value} (hw : ∀ d ∈ tables_1, d.before a0 Z = true) : (Jvm.Cond.initialized "jdk/internal/util/Preconditions").before a0 Z = true := hw _ (List.mem_of_getElem? (i := 108) rfl)
theorem w_109 {Z : State} {a0 : Array Value} (hw : ∀ d ∈ tables_1, d.before a0 Z = true) : (Jvm.Cond.methodLink "java/lang/String" (1059 : Nat) ({ cls := "jdk/internal/util/Preconditions", name := "checkIndex", desc := "(IILjava/util/function/BiFunction;)I" } : Jvm.MethodName)).before a0 Z = true := hw _ (List.mem_of_getElem? (i := 109) rfl)
theorem w_110 {Z : State} {a0 : Array Value} (hw : ∀ d ∈ tables_1, d.before a0 Z = true) : (Jvm.Cond.static ({ cls := "jdk/internal/util/Preconditions", name := "checkIndex", desc := "(IILjava/util/function/BiFunction;)I" } : Jvm.MethodName)).before a0 Z = true := hw _ (List.mem_of_getElem? (i := 110) rfl)
theorem w_111 {Z : State} {a0 : Array Value} (hw : ∀ d ∈ tables_1, d.before a0 Z = true) : (Jvm.Cond.code ({ cls := "jdk/internal/util/Preconditions", name := "checkIndex", desc := "(IILjava/util/function/BiFunction;)I" } : Jvm.MethodName) jdk_41_method_11_code (3 : Nat) (Option.some Jvm.ClassFile.FieldType.int)).before a0 Z = true := hw _ (List.mem_of_getElem? (i := 111) rfl)
abbrev R_m_record : Room := { frames := 1, cells := 0, slots := 0, locals := 12 }
theorem pn_m_record : plainName "java/lang/Record" = true := by first | (simp [plainName, overriddenIn]; done) | decide +kernel
abbrev Q_m_record (Z : State) (a : Addr) (h0 : Heap) : Option Value → Heap → List Addr → Prop := fun res h' SN => res = none ∧ SN = [] ∧ h0 = h'
theorem ef_m_record (m : MethodId) (a : Addr) : entryFrame m #[(.ref a)] 1 = mkF m 0 #[.val (.ref a)] [] := by first | (simp [entryFrame, mkF, argsToLocals, Value.category]; done) | rfl
set_option maxRecDepth 65536 in
set_option maxHeartbeats 40000000 in
theorem m_record {l : Launch} {Z : State} {a0 : Array Value} {n0 : Nat} (hw : ∀ d ∈ tables_1, d.before a0 Z = true) (hs : Stat Z) (a : Addr) (h0 : Heap) :
    Met l Z EL0 n0 NR0 KN0 N_0 jdk_30_method_1_code 1 (Option.none : Option Jvm.ClassFile.FieldType) R_m_record [] #[(.ref a)] h0 (Q_m_record Z a h0) := by
  refine Met.of_go (plainFor_of_name pn_m_record) (fun m => ef_m_record m a ) ?_
  intro hO hWS
  refine Go.aload_n (pc' := 1) d_jdk_30_method_1_0 rfl rfl rfl ?_
  refine Go.initO (pc' := 4) (W := 0) d_jdk_30_method_1_1 rfl (w_13 hw) (w_14 hw) (w_15 hw) rfl (by decide) (Nat.le_of_eq rfl) (by decide) ?_
  exact Go.retV d_jdk_30_method_1_4 rfl (by decide) (by decide) [] sn0 ⟨rfl, rfl, rfl⟩
abbrev R_m_number : Room := { frames := 1, cells := 0, slots := 0, locals := 12 }
theorem pn_m_number : plainName "java/lang/Number" = true := by first | (simp [plainName, overriddenIn]; done) | decide +kernel
abbrev Q_m_number (Z : State) (a : Addr) (h0 : Heap) : Option Value → Heap → List Addr → Prop := fun res h' SN => res = none ∧ SN = [] ∧ h0 = h'
theorem ef_m_number (m : MethodId) (a : Addr) : entryFrame m #[(.ref a)] 1 = mkF m 0 #[.val (.ref a)] [] := by first | (simp [entryFrame, mkF, argsToLocals, Value.category]; done) | rfl
set_option maxRecDepth 65536 in
set_option maxHeartbeats 40000000 in
theorem m_number {l : Launch} {Z : State} {a0 : Array Value} {n0 : Nat} (hw : ∀ d ∈ tables_1, d.before a0 Z = true) (hs : Stat Z) (a : Addr) (h0 : Heap) :
    Met l Z EL0 n0 NR0 KN0 N_1 jdk_18_method_1_code 1 (Option.none : Option Jvm.ClassFile.FieldType) R_m_number [] #[(.ref a)] h0 (Q_m_number Z a h0) := by
  refine Met.of_go (plainFor_of_name pn_m_number) (fun m => ef_m_number m a ) ?_
  intro hO hWS
  refine Go.aload_n (pc' := 1) d_jdk_18_method_1_0 rfl rfl rfl ?_
  refine Go.initO (pc' := 4) (W := 0) d_jdk_18_method_1_1 rfl (w_43 hw) (w_14 hw) (w_15 hw) rfl (by decide) (Nat.le_of_eq rfl) (by decide) ?_
  exact Go.retV d_jdk_18_method_1_4 rfl (by decide) (by decide) [] sn0 ⟨rfl, rfl, rfl⟩
abbrev R_m_integer : Room := { frames := 2, cells := 0, slots := 0, locals := 24 }
theorem pn_m_integer : plainName "java/lang/Integer" = true := by first | (simp [plainName, overriddenIn]; done) | decide +kernel
abbrev Q_m_integer (Z : State) (a : Addr) (x : Int32) (o : Int32) (h0 : Heap) : Option Value → Heap → List Addr → Prop := fun res h' SN => res = none ∧ SN = [] ∧ Exa Z h' a "java/lang/Integer" ∧ Fld Z h' a "java/lang/Integer" "value" "I" (.int x)
theorem ef_m_integer (m : MethodId) (a : Addr) (x : Int32) (o : Int32) : entryFrame m #[(.ref a), (.int x)] 2 = mkF m 0 #[.val (.ref a), .val (.int x)] [] := by first | (simp [entryFrame, mkF, argsToLocals, Value.category]; done) | rfl
set_option maxRecDepth 65536 in
set_option maxHeartbeats 40000000 in
theorem m_integer {l : Launch} {Z : State} {a0 : Array Value} {n0 : Nat} (hw : ∀ d ∈ tables_1, d.before a0 Z = true) (hs : Stat Z) (a : Addr) (x : Int32) (o : Int32) (h0 : Heap) (E_a : Exa Z h0 a "java/lang/Integer") (F_a_value : Fld Z h0 a "java/lang/Integer" "value" "I" (.int o)) :
    Met l Z EL0 n0 NR0 KN0 N_2 jdk_33_method_23_code 2 (Option.none : Option Jvm.ClassFile.FieldType) R_m_integer [a] #[(.ref a), (.int x)] h0 (Q_m_integer Z a x o h0) := by
  refine Met.of_go (plainFor_of_name pn_m_integer) (fun m => ef_m_integer m a x o ) ?_
  intro hO hWS
  refine Go.aload_n (pc' := 1) d_jdk_33_method_23_0 rfl rfl rfl ?_
  refine Go.callI (pc' := 4) (z := N_1) (a := a) d_jdk_33_method_23_1 rfl rfl (w_37 hw) (w_38 hw) (w_42 hw) (by decide) (argsL := []) (rest := []) (Pays.of_met (W := 0) (len := 3) (m_number hw hs a h0) (w_42 hw) (w_41 hw) (by decide) (by decide)) rfl rfl (lenOf pd_0 rfl) rfl (Nat.le_of_eq rfl) mem0 (by decide) (by decide) ?_
  rintro _ _ _ - - ⟨rfl, rfl, rfl⟩
  change Go _ _ _ _ _ _ _ _ _ _ _ _ _ _ [a] h0 0 0 4 #[.val (.ref a), .val (.int x)] []
  refine Go.aload_n (pc' := 5) d_jdk_33_method_23_4 rfl rfl rfl ?_
  refine Go.iload_n (pc' := 6) d_jdk_33_method_23_5 rfl rfl ?_
  refine Go.putF (pc' := 9) d_jdk_33_method_23_6 rfl (List.mem_of_getElem? (i := 0) rfl) (host := "") (Or.inl (w_44 hw)) Via.refl F_a_value E_a (Or.inr ⟨(w_45 hw), rfl, rfl⟩) (w_32 hw) (ty := .int) (by decide) rfl rfl ?_
  intro h1 W2
  replace F_a_value := F_a_value.same W2
  replace E_a := E_a.wr W2
  change Go _ _ _ _ _ _ _ _ _ _ _ _ _ _ [a] h1 0 0 9 #[.val (.ref a), .val (.int x)] []
  exact Go.retV d_jdk_33_method_23_9 rfl (by decide) (by decide) [] sn0 ⟨rfl, rfl, E_a, F_a_value⟩
abbrev R_m_intValue : Room := { frames := 0, cells := 0, slots := 0, locals := 0 }
theorem pn_m_intValue : plainName "java/lang/Integer" = true := by first | (simp [plainName, overriddenIn]; done) | decide +kernel
abbrev Q_m_intValue (Z : State) (a : Addr) (x : Int32) (h0 : Heap) : Option Value → Heap → List Addr → Prop := fun res h' SN => res = some (.int x) ∧ SN = [] ∧ h0 = h'
theorem ef_m_intValue (m : MethodId) (a : Addr) (x : Int32) : entryFrame m #[(.ref a)] 1 = mkF m 0 #[.val (.ref a)] [] := by first | (simp [entryFrame, mkF, argsToLocals, Value.category]; done) | rfl
set_option maxRecDepth 65536 in
set_option maxHeartbeats 40000000 in
theorem m_intValue {l : Launch} {Z : State} {a0 : Array Value} {n0 : Nat} (hw : ∀ d ∈ tables_1, d.before a0 Z = true) (hs : Stat Z) (a : Addr) (x : Int32) (h0 : Heap) (F_a_value : Fld Z h0 a "java/lang/Integer" "value" "I" (.int x)) :
    Met l Z EL0 n0 NR0 KN0 N_3 jdk_33_method_27_code 1 (Option.some Jvm.ClassFile.FieldType.int) R_m_intValue [] #[(.ref a)] h0 (Q_m_intValue Z a x h0) := by
  refine Met.of_go (plainFor_of_name pn_m_intValue) (fun m => ef_m_intValue m a x ) ?_
  intro hO hWS
  refine Go.aload_n (pc' := 1) d_jdk_33_method_27_0 rfl rfl rfl ?_
  refine Go.getF (pc' := 4) d_jdk_33_method_27_1 rfl (host := "") (Or.inl (w_44 hw)) Via.refl F_a_value ?_
  exact Go.retI d_jdk_33_method_27_4 rfl (by decide) (by decide) [] sn0 ⟨rfl, rfl, rfl⟩
abbrev R_m_valueOf : Room := { frames := 3, cells := 1, slots := 1, locals := 38 }
theorem pn_m_valueOf : plainName "java/lang/Integer" = true := by first | (simp [plainName, overriddenIn]; done) | decide +kernel
abbrev Q_m_valueOf (Z : State) (x : Int32) (h0 : Heap) : Option Value → Heap → List Addr → Prop := fun res h' SN => ∃ (b : Addr), res = some (.ref b) ∧ SN = [] ∧ Exa Z h' b "java/lang/Integer" ∧ Fld Z h' b "java/lang/Integer" "value" "I" (.int x)
theorem ef_m_valueOf (m : MethodId) (x : Int32) : entryFrame m #[(.int x)] 1 = mkF m 0 #[.val (.int x)] [] := by first | (simp [entryFrame, mkF, argsToLocals, Value.category]; done) | rfl
set_option maxRecDepth 65536 in
set_option maxHeartbeats 40000000 in
theorem m_valueOf {l : Launch} {Z : State} {a0 : Array Value} {n0 : Nat} (hw : ∀ d ∈ tables_1, d.before a0 Z = true) (hs : Stat Z) (x : Int32) (h0 : Heap) :
    Met l Z EL0 n0 NR0 KN0 N_4 jdk_33_method_22_code 1 (Option.some (Jvm.ClassFile.FieldType.object "java/lang/Integer")) R_m_valueOf [] #[(.int x)] h0 (Q_m_valueOf Z x h0) := by
  refine Met.of_go (plainFor_of_name pn_m_valueOf) (fun m => ef_m_valueOf m x ) ?_
  intro hO hWS
  obtain ⟨S_hi, ca, cl, S_ca, Bx⟩ := hs_i hs
  refine Go.iload_n (pc' := 1) d_jdk_33_method_22_0 rfl rfl ?_
  refine Go.bipush (pc' := 3) d_jdk_33_method_22_1 rfl icb_m128 ?_
  by_cases h1 : x < (-128 : Int32)
  · skip
    refine Go.icmpY (pc' := 23) d_jdk_33_method_22_3 (by decide) (by decide) (tlt (h1 : x < (-128 : Int32))).1 ?_
    refine Go.newO (pc' := 26) d_jdk_33_method_22_23 rfl (w_31 hw) (w_32 hw) (w_27 hw) (by decide) (by decide) ?_
    intro h3 b4 g5 ge_b4 x6 E_b4 D_b4 U_b4
    have F_b4_value : Fld Z h3 b4 "java/lang/Integer" "value" "I" (.int (0 : Int32)) := D_b4 (Or.inr (w_45 hw)) (ty := .int) (by decide)
    change Go _ _ _ _ _ _ _ _ _ _ _ _ _ _ [b4] h3 1 1 26 #[.val (.int x)] [(.ref b4)]
    refine Go.dup (pc' := 27) d_jdk_33_method_22_26 rfl rfl ?_
    refine Go.iload_n (pc' := 28) d_jdk_33_method_22_27 rfl rfl ?_
    refine Go.callI (pc' := 31) (z := N_2) (a := b4) d_jdk_33_method_22_28 rfl rfl (w_33 hw) (w_34 hw) (w_36 hw) (by decide) (argsL := [(.int x)]) (rest := [(.ref b4)]) (Pays.of_met (W := 1) (len := 3) (m_integer hw hs b4 x (0 : Int32) h3 E_b4 F_b4_value) (w_36 hw) (w_27 hw) (by decide) (by decide)) rfl rfl (lenOf pd_1 rfl) rfl (Nat.le_of_eq rfl) (memS (List.mem_of_getElem? (i := 0) rfl) mem0) (by decide) (by decide) ?_
    rintro _ h7 _ K8 le9 ⟨rfl, rfl, p10, p11⟩
    replace E_b4 := E_b4.keep K8
    have F_b4_value := p11
    change Go _ _ _ _ _ _ _ _ _ _ _ _ _ _ [b4] h7 1 1 31 #[.val (.int x)] [(.ref b4)]
    exact Go.retA d_jdk_33_method_22_31 rfl rfl rfl (by decide) (by decide) [] sn0 ⟨b4, rfl, rfl, E_b4, F_b4_value⟩
  · skip
    refine Go.icmpN (pc' := 6) d_jdk_33_method_22_3 rfl (flt (h1 : ¬ (x < (-128 : Int32)))).1 ?_
    refine Go.iload_n (pc' := 7) d_jdk_33_method_22_6 rfl rfl ?_
    refine Go.getS (pc' := 10) d_jdk_33_method_22_7 rfl (host := "") (Or.inl (w_29 hw)) Via.refl S_hi ?_
    by_cases h2 : (127 : Int32) < x
    · skip
      refine Go.icmpY (pc' := 23) d_jdk_33_method_22_10 (by decide) (by decide) (tlt (h2 : (127 : Int32) < x)).2.2.1 ?_
      refine Go.newO (pc' := 26) d_jdk_33_method_22_23 rfl (w_31 hw) (w_32 hw) (w_27 hw) (by decide) (by decide) ?_
      intro h12 b13 g14 ge_b13 x15 E_b13 D_b13 U_b13
      have F_b13_value : Fld Z h12 b13 "java/lang/Integer" "value" "I" (.int (0 : Int32)) := D_b13 (Or.inr (w_45 hw)) (ty := .int) (by decide)
      change Go _ _ _ _ _ _ _ _ _ _ _ _ _ _ [b13] h12 1 1 26 #[.val (.int x)] [(.ref b13)]
      refine Go.dup (pc' := 27) d_jdk_33_method_22_26 rfl rfl ?_
      refine Go.iload_n (pc' := 28) d_jdk_33_method_22_27 rfl rfl ?_
      refine Go.callI (pc' := 31) (z := N_2) (a := b13) d_jdk_33_method_22_28 rfl rfl (w_33 hw) (w_34 hw) (w_36 hw) (by decide) (argsL := [(.int x)]) (rest := [(.ref b13)]) (Pays.of_met (W := 1) (len := 3) (m_integer hw hs b13 x (0 : Int32) h12 E_b13 F_b13_value) (w_36 hw) (w_27 hw) (by decide) (by decide)) rfl rfl (lenOf pd_1 rfl) rfl (Nat.le_of_eq rfl) (memS (List.mem_of_getElem? (i := 0) rfl) mem0) (by decide) (by decide) ?_
      rintro _ h16 _ K17 le18 ⟨rfl, rfl, p19, p20⟩
      replace E_b13 := E_b13.keep K17
      have F_b13_value := p20
      change Go _ _ _ _ _ _ _ _ _ _ _ _ _ _ [b13] h16 1 1 31 #[.val (.int x)] [(.ref b13)]
      exact Go.retA d_jdk_33_method_22_31 rfl rfl rfl (by decide) (by decide) [] sn0 ⟨b13, rfl, rfl, E_b13, F_b13_value⟩
    · skip
      refine Go.icmpN (pc' := 13) d_jdk_33_method_22_10 rfl (flt (h2 : ¬ ((127 : Int32) < x))).2.2.1 ?_
      refine Go.getS (pc' := 16) d_jdk_33_method_22_13 rfl (host := "") (Or.inl (w_52 hw)) Via.refl S_ca ?_
      refine Go.iload_n (pc' := 17) d_jdk_33_method_22_16 rfl rfl ?_
      refine Go.sipush (pc' := 20) d_jdk_33_method_22_17 rfl ics_128 ?_
      refine Go.iadd (pc' := 21) d_jdk_33_method_22_20 rfl ?_
      have hin := own_cache h1 h2 Bx.2.1
      obtain ⟨bx, e1, e2, e3⟩ := Bx.2.2.2 (x + (128 : Int32)) hin
      replace e3 : Fld Z Z.heap bx "java/lang/Integer" "value" "I" (.int (x + (128 : Int32) - (128 : Int32))) := e3
      rw [own_back x] at e3
      refine Go.aaload (pc' := 22) (v := (.ref bx)) d_jdk_33_method_22_21 rfl (Bx.1.ext hO.2) rfl hin e1 ?_
      exact Go.retA d_jdk_33_method_22_22 rfl rfl rfl (by decide) (by decide) [] sn0 ⟨bx, rfl, rfl, e2.ext hO.2, e3.ext hO.2⟩
abbrev R_m_out : Room := { frames := 2, cells := 0, slots := 0, locals := 24 }
theorem pn_m_out : plainName "com/example/tapstone/tapstone/store/TokenStore$Outcome" = true := by first | (simp [plainName, overriddenIn]; done) | decide +kernel
abbrev Q_m_out (Z : State) (a : Addr) (v : Value) (h0 : Heap) : Option Value → Heap → List Addr → Prop := fun res h' SN => res = none ∧ SN = [] ∧ Exa Z h' a "com/example/tapstone/tapstone/store/TokenStore$Outcome" ∧ Fld Z h' a "com/example/tapstone/tapstone/store/TokenStore$Outcome" "value" "Ljava/lang/Object;" v ∧ Fld Z h' a "com/example/tapstone/tapstone/store/TokenStore$Outcome" "refusal" "Lcom/example/tapstone/tapstone/store/TokenRefusedException$Refusal;" .null
theorem ef_m_out (m : MethodId) (a : Addr) (v : Value) (hv_v : v.isRef = true) : entryFrame m #[(.ref a), v, .null] 3 = mkF m 0 #[.val (.ref a), .val v, .val .null] [] := by rcases ref_cases hv_v with rfl | ⟨_, rfl⟩ <;> first | (simp [entryFrame, mkF, argsToLocals, Value.category]; done) | rfl
set_option maxRecDepth 65536 in
set_option maxHeartbeats 40000000 in
theorem m_out {l : Launch} {Z : State} {a0 : Array Value} {n0 : Nat} (hw : ∀ d ∈ tables_1, d.before a0 Z = true) (hs : Stat Z) (a : Addr) (v : Value) (h0 : Heap) (E_a : Exa Z h0 a "com/example/tapstone/tapstone/store/TokenStore$Outcome") (F_a_value : Fld Z h0 a "com/example/tapstone/tapstone/store/TokenStore$Outcome" "value" "Ljava/lang/Object;" .null) (F_a_refusal : Fld Z h0 a "com/example/tapstone/tapstone/store/TokenStore$Outcome" "refusal" "Lcom/example/tapstone/tapstone/store/TokenRefusedException$Refusal;" .null) (hv_v : v.isRef = true) :
    Met l Z EL0 n0 NR0 KN0 N_5 prog_63_method_1_code 3 (Option.none : Option Jvm.ClassFile.FieldType) R_m_out [a] #[(.ref a), v, .null] h0 (Q_m_out Z a v h0) := by
  refine Met.of_go (plainFor_of_name pn_m_out) (fun m => ef_m_out m a v hv_v) ?_
  intro hO hWS
  refine Go.aload_n (pc' := 1) d_prog_63_method_1_0 rfl rfl rfl ?_
  refine Go.callI (pc' := 4) (z := N_0) (a := a) d_prog_63_method_1_1 rfl rfl (w_8 hw) (w_9 hw) (w_12 hw) (by decide) (argsL := []) (rest := []) (Pays.of_met (W := 0) (len := 3) (m_record hw hs a h0) (w_12 hw) (w_11 hw) (by decide) (by decide)) rfl rfl (lenOf pd_0 rfl) rfl (Nat.le_of_eq rfl) mem0 (by decide) (by decide) ?_
  rintro _ _ _ - - ⟨rfl, rfl, rfl⟩
  change Go _ _ _ _ _ _ _ _ _ _ _ _ _ _ [a] h0 0 0 4 #[.val (.ref a), .val v, .val .null] []
  refine Go.aload_n (pc' := 5) d_prog_63_method_1_4 rfl rfl rfl ?_
  refine Go.aload_n (pc' := 6) d_prog_63_method_1_5 rfl rfl hv_v ?_
  refine Go.putF (pc' := 9) d_prog_63_method_1_6 rfl (List.mem_of_getElem? (i := 0) rfl) (host := "") (Or.inl (w_16 hw)) Via.refl F_a_value E_a (Or.inr ⟨(w_17 hw), rfl, rfl⟩) (w_3 hw) (ty := (.object "java/lang/Object")) (by decide) (by rcases ref_cases hv_v with rfl | ⟨_, rfl⟩ <;> rfl) (by rcases ref_cases hv_v with rfl | ⟨_, rfl⟩ <;> rfl) ?_
  intro h21 W22
  replace F_a_value := F_a_value.same W22
  replace E_a := E_a.wr W22
  replace F_a_refusal := F_a_refusal.other W22 (Or.inr (slot_ne (Or.inr (w_19 hw)) (Or.inr (w_17 hw)) (by decide) (t := (.object "com/example/tapstone/tapstone/store/TokenRefusedException$Refusal")) (t' := (.object "java/lang/Object")) (by decide) (by decide)))
  change Go _ _ _ _ _ _ _ _ _ _ _ _ _ _ [a] h21 0 0 9 #[.val (.ref a), .val v, .val .null] []
  refine Go.aload_n (pc' := 10) d_prog_63_method_1_9 rfl rfl rfl ?_
  refine Go.aload_n (pc' := 11) d_prog_63_method_1_10 rfl rfl rfl ?_
  refine Go.putF (pc' := 14) d_prog_63_method_1_11 rfl (List.mem_of_getElem? (i := 0) rfl) (host := "") (Or.inl (w_18 hw)) Via.refl F_a_refusal E_a (Or.inr ⟨(w_19 hw), rfl, rfl⟩) (w_3 hw) (ty := (.object "com/example/tapstone/tapstone/store/TokenRefusedException$Refusal")) (by decide) rfl rfl ?_
  intro h23 W24
  replace F_a_refusal := F_a_refusal.same W24
  replace E_a := E_a.wr W24
  replace F_a_value := F_a_value.other W24 (Or.inr (slot_ne (Or.inr (w_17 hw)) (Or.inr (w_19 hw)) (by decide) (t := (.object "java/lang/Object")) (t' := (.object "com/example/tapstone/tapstone/store/TokenRefusedException$Refusal")) (by decide) (by decide)))
  change Go _ _ _ _ _ _ _ _ _ _ _ _ _ _ [a] h23 0 0 14 #[.val (.ref a), .val v, .val .null] []
  exact Go.retV d_prog_63_method_1_14 rfl (by decide) (by decide) [] sn0 ⟨rfl, rfl, E_a, F_a_value, F_a_refusal⟩
abbrev R_m_orr : Room := { frames := 0, cells := 0, slots := 0, locals := 0 }
theorem pn_m_orr : plainName "com/example/tapstone/tapstone/store/TokenStore$Outcome" = true := by first | (simp [plainName, overriddenIn]; done) | decide +kernel
abbrev Q_m_orr (Z : State) (a : Addr) (v : Value) (h0 : Heap) : Option Value → Heap → List Addr → Prop := fun res h' SN => res = some v ∧ SN = [] ∧ h0 = h'
theorem ef_m_orr (m : MethodId) (a : Addr) (v : Value) (hv_v : v.isRef = true) : entryFrame m #[(.ref a)] 1 = mkF m 0 #[.val (.ref a)] [] := by rcases ref_cases hv_v with rfl | ⟨_, rfl⟩ <;> first | (simp [entryFrame, mkF, argsToLocals, Value.category]; done) | rfl
set_option maxRecDepth 65536 in
set_option maxHeartbeats 40000000 in
theorem m_orr {l : Launch} {Z : State} {a0 : Array Value} {n0 : Nat} (hw : ∀ d ∈ tables_1, d.before a0 Z = true) (hs : Stat Z) (a : Addr) (v : Value) (h0 : Heap) (F_a_refusal : Fld Z h0 a "com/example/tapstone/tapstone/store/TokenStore$Outcome" "refusal" "Lcom/example/tapstone/tapstone/store/TokenRefusedException$Refusal;" .null) (F_a_value : Fld Z h0 a "com/example/tapstone/tapstone/store/TokenStore$Outcome" "value" "Ljava/lang/Object;" v) (hv_v : v.isRef = true) :
    Met l Z EL0 n0 NR0 KN0 N_6 prog_63_method_4_code 1 (Option.some (Jvm.ClassFile.FieldType.object "java/lang/Object")) R_m_orr [] #[(.ref a)] h0 (Q_m_orr Z a v h0) := by
  refine Met.of_go (plainFor_of_name pn_m_orr) (fun m => ef_m_orr m a v hv_v) ?_
  intro hO hWS
  refine Go.aload_n (pc' := 1) d_prog_63_method_4_0 rfl rfl rfl ?_
  refine Go.getF (pc' := 4) d_prog_63_method_4_1 rfl (host := "") (Or.inl (w_18 hw)) Via.refl F_a_refusal ?_
  refine Go.ifnullY (pc' := 19) d_prog_63_method_4_4 (by decide) (by decide) ?_
  refine Go.aload_n (pc' := 20) d_prog_63_method_4_19 rfl rfl rfl ?_
  refine Go.getF (pc' := 23) d_prog_63_method_4_20 rfl (host := "") (Or.inl (w_16 hw)) Via.refl F_a_value ?_
  exact Go.retA d_prog_63_method_4_23 rfl rfl hv_v (by decide) (by decide) [] sn0 ⟨rfl, rfl, rfl⟩
abbrev R_m_cmpL : Room := { frames := 0, cells := 0, slots := 0, locals := 0 }
set_option maxRecDepth 65536 in
set_option maxHeartbeats 40000000 in
theorem m_cmpL_loop {l : Launch} {Z : State} {n0 : Nat} {h0 : Heap} {Q : Option Value → Heap → List Addr → Prop} {c t : Addr} {kc kt : ClassId} {cs : List Int32} {z : Int32} (hz : z.toNatClampNeg = cs.length) (hcs : ∀ x ∈ cs, ¬ x < 0 ∧ ¬ 255 < x) (ne_c_t : c ≠ t)
    (K : ∀ h' o, Arv Z h' t kt .byte z (cs.map lowV) (.int (0 : Int32)) → Go l Z EL0 n0 NR0 KN0 N_7 jdk_52_method_21_code 7 (Option.some Jvm.ClassFile.FieldType.int) R_m_cmpL h0 [t] Q [t] h' 0 0 44 #[.val (.ref c), .val (.int (Int32.ofNat cs.length)), .val (.ref t), .val (.int (Int32.ofNat cs.length)), .val (.int z), .val (.int (Int32.ofNat cs.length)), o] []) :
    ∀ (m i : Nat) (h : Heap) (o : Slot), i + m = cs.length → One o → Arv Z h c kc .char z (cs.map Value.int) (.int (0 : Int32)) → Arv Z h t kt .byte z ((cs.take i).map lowV ++ List.replicate m (.int (0 : Int32))) (.int (0 : Int32)) →
      Go l Z EL0 n0 NR0 KN0 N_7 jdk_52_method_21_code 7 (Option.some Jvm.ClassFile.FieldType.int) R_m_cmpL h0 [t] Q [t] h 0 0 3 #[.val (.ref c), .val (.int (Int32.ofNat i)), .val (.ref t), .val (.int (Int32.ofNat i)), .val (.int z), .val (.int (Int32.ofNat i)), o] [] := by
  intro m
  induction m with
  | zero =>
    intro i h o hi ho V_c V_t
    obtain rfl : i = cs.length := by omega
    have zn := arv_nn V_c
    have q := (back32 zn).2
    refine Go.iload (pc' := 5) d_jdk_52_method_21_3 rfl rfl ?_
    refine Go.iload (pc' := 7) d_jdk_52_method_21_5 rfl rfl ?_
    refine Go.icmpY (pc' := 44) d_jdk_52_method_21_7 (by decide) (by decide) (flt (ofNat_ge zn (by omega) (Nat.le_of_eq hz) : ¬ ((Int32.ofNat cs.length) < z))).2.1 ?_
    refine K h o ?_
    simpa using V_t
  | succ m ih =>
    intro i h o hi ho V_c V_t
    have zn := arv_nn V_c
    have q := (back32 zn).2
    have hi2 : i < cs.length := by omega
    have b1 := getD_mem hcs hi2
    have ci := ofNat_clamp (i := i) (by omega)
    have nn := ofNat_nn (i := i) (by omega)
    have lt := ofNat_lt (i := i) zn (by omega)
    refine Go.iload (pc' := 5) d_jdk_52_method_21_3 rfl rfl ?_
    refine Go.iload (pc' := 7) d_jdk_52_method_21_5 rfl rfl ?_
    refine Go.icmpN (pc' := 10) d_jdk_52_method_21_7 rfl (tlt (lt : (Int32.ofNat i) < z)).2.1 ?_
    refine Go.aload_n (pc' := 11) d_jdk_52_method_21_10 rfl rfl rfl ?_
    refine Go.iload_n (pc' := 12) d_jdk_52_method_21_11 rfl rfl ?_
    refine Go.caloadV (pc' := 13) (v := (.int (cs.getD i 0))) d_jdk_52_method_21_12 rfl V_c ⟨nn, lt⟩ (by rw [ci]; exact getD_int cs i) ?_
    refine Go.istoreS (pc' := 15) (Ls' := #[.val (.ref c), .val (.int (Int32.ofNat i)), .val (.ref t), .val (.int (Int32.ofNat i)), .val (.int z), .val (.int (Int32.ofNat i)), .val (.int (cs.getD i 0))]) d_jdk_52_method_21_13 rfl rfl ho rfl ?_
    refine Go.iload (pc' := 17) d_jdk_52_method_21_15 rfl rfl ?_
    refine Go.sipush (pc' := 20) d_jdk_52_method_21_17 rfl ics_255 ?_
    refine Go.icmpY (pc' := 26) d_jdk_52_method_21_20 (by decide) (by decide) (flt (b1.2 : ¬ ((255 : Int32) < (cs.getD i 0)))).2.2.2 ?_
    refine Go.aload_n (pc' := 27) d_jdk_52_method_21_26 rfl rfl rfl ?_
    refine Go.iload_n (pc' := 28) d_jdk_52_method_21_27 rfl rfl ?_
    refine Go.iload (pc' := 30) d_jdk_52_method_21_28 rfl rfl ?_
    refine Go.i2b (pc' := 31) d_jdk_52_method_21_30 rfl ?_
    refine Go.bastoreV (pc' := 32) (i := i) d_jdk_52_method_21_31 rfl (List.mem_of_getElem? (i := 0) rfl) V_t ⟨nn, lt⟩ ci (by simp; omega) ?_
    intro h2 W2 V_t2
    rw [nar_byte] at V_t2
    have V_t3 := V_t2
    rw [show (Value.int (cs.getD i 0).toInt8.toInt32) = lowV (cs.getD i 0) from rfl, set_low cs i m hi2] at V_t3
    replace V_c := V_c.other W2 ne_c_t
    change Go _ _ _ _ _ _ _ _ _ _ _ _ _ _ [t] h2 0 0 32 #[.val (.ref c), .val (.int (Int32.ofNat i)), .val (.ref t), .val (.int (Int32.ofNat i)), .val (.int z), .val (.int (Int32.ofNat i)), .val (.int (cs.getD i 0))] []
    refine Go.iinc (pc' := 35) (Ls' := #[.val (.ref c), .val (.int ((Int32.ofNat i) + (1 : Int32))), .val (.ref t), .val (.int (Int32.ofNat i)), .val (.int z), .val (.int (Int32.ofNat i)), .val (.int (cs.getD i 0))]) d_jdk_52_method_21_32 rfl ic_1 rfl rfl ?_
    refine Go.iinc (pc' := 38) (Ls' := #[.val (.ref c), .val (.int ((Int32.ofNat i) + (1 : Int32))), .val (.ref t), .val (.int ((Int32.ofNat i) + (1 : Int32))), .val (.int z), .val (.int (Int32.ofNat i)), .val (.int (cs.getD i 0))]) d_jdk_52_method_21_35 rfl ic_1 rfl rfl ?_
    refine Go.iinc (pc' := 41) (Ls' := #[.val (.ref c), .val (.int ((Int32.ofNat i) + (1 : Int32))), .val (.ref t), .val (.int ((Int32.ofNat i) + (1 : Int32))), .val (.int z), .val (.int ((Int32.ofNat i) + (1 : Int32))), .val (.int (cs.getD i 0))]) d_jdk_52_method_21_38 rfl ic_1 rfl rfl ?_
    refine Go.goto (pc' := 3) d_jdk_52_method_21_41 (by decide) (by decide) ?_
    rw [ofNat_succ i]
    exact ih (i + 1) h2 _ (by omega) (One.val rfl) V_c V_t3
theorem pn_m_cmpL : plainName "java/lang/StringUTF16" = true := by first | (simp [plainName, overriddenIn]; done) | decide +kernel
theorem ef_m_cmpL (m : MethodId) (c t : Addr) (z : Int32) : entryFrame m #[(.ref c), (.int (0 : Int32)), (.ref t), (.int (0 : Int32)), (.int z)] 7 = mkF m 0 #[.val (.ref c), .val (.int (0 : Int32)), .val (.ref t), .val (.int (0 : Int32)), .val (.int z), .unset, .unset] [] := by first | (simp [entryFrame, mkF, argsToLocals, Value.category]; done) | rfl
set_option maxRecDepth 65536 in
set_option maxHeartbeats 40000000 in
theorem m_cmpL {l : Launch} {Z : State} {a0 : Array Value} {n0 : Nat} (hw : ∀ d ∈ tables_1, d.before a0 Z = true) (hs : Stat Z) (c t : Addr) (kc kt : ClassId) (cs : List Int32) (z : Int32) (h0 : Heap) (V_c : Arv Z h0 c kc .char z (cs.map Value.int) (.int (0 : Int32))) (V_t : Arv Z h0 t kt .byte z (List.replicate cs.length (.int (0 : Int32))) (.int (0 : Int32))) (hz : z.toNatClampNeg = cs.length) (hcs : ∀ x ∈ cs, ¬ x < 0 ∧ ¬ 255 < x) (ne_c_t : c ≠ t) :
    Met l Z EL0 n0 NR0 KN0 N_7 jdk_52_method_21_code 7 (Option.some Jvm.ClassFile.FieldType.int) R_m_cmpL [t] #[(.ref c), (.int (0 : Int32)), (.ref t), (.int (0 : Int32)), (.int z)] h0 (fun v h' SN => v = some (.int z) ∧ SN = [] ∧ Arv Z h' t kt .byte z (cs.map lowV) (.int (0 : Int32))) := by
  refine Met.of_go (plainFor_of_name pn_m_cmpL) (fun m => ef_m_cmpL m c t z) ?_
  intro hO hWS
  refine Go.iconst (pc' := 1) d_jdk_52_method_21_0 rfl ic_0 ?_
  refine Go.istore (pc' := 3) (Ls' := #[.val (.ref c), .val (.int (0 : Int32)), .val (.ref t), .val (.int (0 : Int32)), .val (.int z), .val (.int (0 : Int32)), .unset]) d_jdk_52_method_21_1 rfl rfl ?_
  refine m_cmpL_loop (kc := kc) hz hcs ne_c_t (fun h' o V => ?_) cs.length 0 h0 _ (by omega) One.u V_c (by simpa using V_t)
  refine Go.iload (pc' := 46) d_jdk_52_method_21_44 rfl rfl ?_
  exact Go.retI d_jdk_52_method_21_46 rfl (by decide) (by decide) [] sn0 ⟨rfl, rfl, V⟩
abbrev R_m_cmp : Room := { frames := 1, cells := 1, slots := 2, locals := 18 }
theorem pn_m_cmp : plainName "java/lang/StringUTF16" = true := by first | (simp [plainName, overriddenIn]; done) | decide +kernel
abbrev Q_m_cmp (Z : State) (c : Addr) (kc : ClassId) (cs : List Int32) (z : Int32) (h0 : Heap) : Option Value → Heap → List Addr → Prop := fun res h' SN => ∃ (t : Addr) (kt : ClassId), res = some (.ref t) ∧ SN = [] ∧ h0.size ≤ t ∧ Arv Z h' t kt .byte z (cs.map lowV) (.int (0 : Int32))
theorem ef_m_cmp (m : MethodId) (c : Addr) (kc : ClassId) (cs : List Int32) (z : Int32) : entryFrame m #[(.ref c), (.int (0 : Int32)), (.int z)] 6 = mkF m 0 #[.val (.ref c), .val (.int (0 : Int32)), .val (.int z), .unset, .unset, .unset] [] := by first | (simp [entryFrame, mkF, argsToLocals, Value.category]; done) | rfl
set_option maxRecDepth 65536 in
set_option maxHeartbeats 40000000 in
theorem m_cmp {l : Launch} {Z : State} {a0 : Array Value} {n0 : Nat} (hw : ∀ d ∈ tables_1, d.before a0 Z = true) (hs : Stat Z) (c : Addr) (kc : ClassId) (cs : List Int32) (z : Int32) (h0 : Heap) (V_c : Arv Z h0 c kc .char z (cs.map Value.int) (.int (0 : Int32))) (hz : z.toNatClampNeg = cs.length) (hcs : ∀ x ∈ cs, ¬ x < 0 ∧ ¬ 255 < x) (hcap : z.toNatClampNeg ≤ CAP) :
    Met l Z EL0 n0 NR0 KN0 N_8 jdk_52_method_16_code 6 (Option.some (Jvm.ClassFile.FieldType.array Jvm.ClassFile.FieldType.byte)) R_m_cmp [] #[(.ref c), (.int (0 : Int32)), (.int z)] h0 (Q_m_cmp Z c kc cs z h0) := by
  refine Met.of_go (plainFor_of_name pn_m_cmp) (fun m => ef_m_cmp m c kc cs z ) ?_
  intro hO hWS
  have zn := arv_nn V_c
  refine Go.iload_n (pc' := 1) d_jdk_52_method_16_0 rfl rfl ?_
  refine Go.newP (pc' := 3) (cap := CAP) (ad := "[B") d_jdk_52_method_16_1 rfl (w_69 hw) (by decide) zn hcap (by decide) (by decide) (by decide) ?_
  intro h1 b1 g1 ge_b1 k1 x1 V_b1 E_b1
  have o_c_b1 : c ≠ b1 := Nat.ne_of_lt (Nat.lt_of_lt_of_le V_c.lt (Nat.le_of_eq g1))
  replace V_c := V_c.ext x1
  replace V_b1 : Arv Z h1 b1 k1 .byte z (List.replicate cs.length (.int (0 : Int32))) (.int (0 : Int32)) := V_b1.pad (fun i => pad_rep [] _ cs.length i)
  change Go _ _ _ _ _ _ _ _ _ _ _ _ _ _ [b1] h1 1 2 3 #[.val (.ref c), .val (.int (0 : Int32)), .val (.int z), .unset, .unset, .unset] [(.ref b1)]
  refine Go.astore_n (pc' := 4) (Ls' := #[.val (.ref c), .val (.int (0 : Int32)), .val (.int z), .val (.ref b1), .unset, .unset]) d_jdk_52_method_16_3 rfl rfl rfl ?_
  refine Go.aload_n (pc' := 5) d_jdk_52_method_16_4 rfl rfl rfl ?_
  refine Go.iload_n (pc' := 6) d_jdk_52_method_16_5 rfl rfl ?_
  refine Go.aload_n (pc' := 7) d_jdk_52_method_16_6 rfl rfl rfl ?_
  refine Go.iconst (pc' := 8) d_jdk_52_method_16_7 rfl ic_0 ?_
  refine Go.iload_n (pc' := 9) d_jdk_52_method_16_8 rfl rfl ?_
  refine Go.callS (pc' := 12) (z := N_7) d_jdk_52_method_16_9 rfl (w_70 hw) (w_71 hw) (w_67 hw) (w_72 hw) (by decide) (argsL := [(.ref c), (.int (0 : Int32)), (.ref b1), (.int (0 : Int32)), (.int z)]) (rest := []) (Pays.of_met (W := 0) (len := 3) (m_cmpL hw hs c b1 kc k1 cs z h1 V_c V_b1 (hz) (hcs) o_c_b1) (w_72 hw) (w_67 hw) (by decide) (by decide)) rfl rfl (lenOf pd_2 rfl) rfl (Nat.le_of_eq rfl) (memS (List.mem_of_getElem? (i := 0) rfl) mem0) (by decide) (by decide) ?_
  rintro _ h25 _ K26 le27 ⟨rfl, rfl, p28⟩
  replace V_c := V_c.keep K26 (ninS o_c_b1 nin0)
  have V_b1 := p28
  change Go _ _ _ _ _ _ _ _ _ _ _ _ _ _ [b1] h25 1 2 12 #[.val (.ref c), .val (.int (0 : Int32)), .val (.int z), .val (.ref b1), .unset, .unset] [(.int z)]
  refine Go.istore (pc' := 14) (Ls' := #[.val (.ref c), .val (.int (0 : Int32)), .val (.int z), .val (.ref b1), .val (.int z), .unset]) d_jdk_52_method_16_12 rfl rfl ?_
  refine Go.iload (pc' := 16) d_jdk_52_method_16_14 rfl rfl ?_
  refine Go.iload_n (pc' := 17) d_jdk_52_method_16_16 rfl rfl ?_
  refine Go.icmpY (pc' := 57) d_jdk_52_method_16_17 (by decide) (by decide) (teq (rfl : z = z)).1 ?_
  refine Go.aload_n (pc' := 58) d_jdk_52_method_16_57 rfl rfl rfl ?_
  exact Go.retA d_jdk_52_method_16_58 rfl rfl rfl (by decide) (by decide) [] sn0 ⟨b1, k1, rfl, rfl, ge_b1, V_b1⟩
abbrev R_m_cfl : Room := { frames := 0, cells := 0, slots := 0, locals := 0 }
theorem pn_m_cfl : plainName "java/lang/StringUTF16" = true := by first | (simp [plainName, overriddenIn]; done) | decide +kernel
abbrev Q_m_cfl (Z : State) (t : Addr) (kt : ClassId) (z : Int32) (vs : List Value) (h0 : Heap) : Option Value → Heap → List Addr → Prop := fun res h' SN => res = some (.int (0 : Int32)) ∧ SN = [] ∧ h0 = h'
theorem ef_m_cfl (m : MethodId) (t : Addr) (kt : ClassId) (z : Int32) (vs : List Value) : entryFrame m #[(.ref t), (.int z)] 2 = mkF m 0 #[.val (.ref t), .val (.int z)] [] := by first | (simp [entryFrame, mkF, argsToLocals, Value.category]; done) | rfl
set_option maxRecDepth 65536 in
set_option maxHeartbeats 40000000 in
theorem m_cfl {l : Launch} {Z : State} {a0 : Array Value} {n0 : Nat} (hw : ∀ d ∈ tables_1, d.before a0 Z = true) (hs : Stat Z) (t : Addr) (kt : ClassId) (z : Int32) (vs : List Value) (h0 : Heap) (V_t : Arv Z h0 t kt .byte z vs (.int (0 : Int32))) :
    Met l Z EL0 n0 NR0 KN0 N_9 jdk_52_method_15_code 2 (Option.some Jvm.ClassFile.FieldType.byte) R_m_cfl [] #[(.ref t), (.int z)] h0 (Q_m_cfl Z t kt z vs h0) := by
  refine Met.of_go (plainFor_of_name pn_m_cfl) (fun m => ef_m_cfl m t kt z vs ) ?_
  intro hO hWS
  refine Go.iload_n (pc' := 1) d_jdk_52_method_15_0 rfl rfl ?_
  refine Go.aload_n (pc' := 2) d_jdk_52_method_15_1 rfl rfl rfl ?_
  refine Go.lenV (pc' := 3) d_jdk_52_method_15_2 rfl V_t ?_
  refine Go.isub (pc' := 4) d_jdk_52_method_15_3 rfl ?_
  refine Go.bipush (pc' := 6) d_jdk_52_method_15_4 rfl icb_31 ?_
  refine Go.iushr (pc' := 7) d_jdk_52_method_15_6 rfl ?_
  refine Go.i2b (pc' := 8) d_jdk_52_method_15_7 rfl ?_
  rw [own_coder0]
  exact Go.retS (ty := .byte) d_jdk_52_method_15_8 rfl (by simp) rfl (by decide) (by decide) [] sn0 ⟨rfl, rfl, rfl⟩
abbrev R_m_str4 : Room := { frames := 2, cells := 1, slots := 2, locals := 35 }
theorem pn_m_str4 : plainName "java/lang/String" = true := by first | (simp [plainName, overriddenIn]; done) | decide +kernel
abbrev Q_m_str4 (Z : State) (a : Addr) (c : Addr) (kc : ClassId) (cs : List Int32) (z : Int32) (h0 : Heap) : Option Value → Heap → List Addr → Prop := fun res h' SN => ∃ (t : Addr) (kt : ClassId), res = none ∧ SN = [] ∧ Exa Z h' a "java/lang/String" ∧ Fld Z h' a "java/lang/String" "coder" "B" (.int (0 : Int32)) ∧ Fld Z h' a "java/lang/String" "value" "[B" (.ref t) ∧ Arv Z h' t kt .byte z (cs.map lowV) (.int (0 : Int32)) ∧ h0.size ≤ t
theorem ef_m_str4 (m : MethodId) (a : Addr) (c : Addr) (kc : ClassId) (cs : List Int32) (z : Int32) : entryFrame m #[(.ref a), (.ref c), (.int (0 : Int32)), (.int z), .null] 6 = mkF m 0 #[.val (.ref a), .val (.ref c), .val (.int (0 : Int32)), .val (.int z), .val .null, .unset] [] := by first | (simp [entryFrame, mkF, argsToLocals, Value.category]; done) | rfl
set_option maxRecDepth 65536 in
set_option maxHeartbeats 40000000 in
theorem m_str4 {l : Launch} {Z : State} {a0 : Array Value} {n0 : Nat} (hw : ∀ d ∈ tables_1, d.before a0 Z = true) (hs : Stat Z) (a : Addr) (c : Addr) (kc : ClassId) (cs : List Int32) (z : Int32) (h0 : Heap) (E_a : Exa Z h0 a "java/lang/String") (F_a_coder : Fld Z h0 a "java/lang/String" "coder" "B" (.int (0 : Int32))) (F_a_value : Fld Z h0 a "java/lang/String" "value" "[B" .null) (V_c : Arv Z h0 c kc .char z (cs.map Value.int) (.int (0 : Int32))) (hz : z.toNatClampNeg = cs.length) (hcs : ∀ x ∈ cs, ¬ x < 0 ∧ ¬ 255 < x) (hcs0 : cs ≠ []) (hcap : z.toNatClampNeg ≤ CAP) (ne_c_a : c ≠ a) :
    Met l Z EL0 n0 NR0 KN0 N_10 jdk_42_method_149_code 6 (Option.none : Option Jvm.ClassFile.FieldType) R_m_str4 [a] #[(.ref a), (.ref c), (.int (0 : Int32)), (.int z), .null] h0 (Q_m_str4 Z a c kc cs z h0) := by
  refine Met.of_go (plainFor_of_name pn_m_str4) (fun m => ef_m_str4 m a c kc cs z ) ?_
  intro hO hWS
  obtain ⟨zc, S_c, hzc⟩ := hs_c hs
  have zn := arv_nn V_c
  refine Go.aload_n (pc' := 1) d_jdk_42_method_149_0 rfl rfl rfl ?_
  refine Go.initO (pc' := 4) (W := 0) d_jdk_42_method_149_1 rfl (w_63 hw) (w_14 hw) (w_15 hw) rfl (by decide) (Nat.le_of_eq rfl) (by decide) ?_
  refine Go.iload_n (pc' := 5) d_jdk_42_method_149_4 rfl rfl ?_
  refine Go.ifY (pc' := 27) d_jdk_42_method_149_5 (by decide) (by decide) ((if0 _ _).trans (feq (own_nz hz hcs0 : ¬ (z = (0 : Int32)))).2) ?_
  refine Go.getS (pc' := 30) d_jdk_42_method_149_27 rfl (host := "") (Or.inl (w_64 hw)) Via.refl S_c ?_
  refine Go.ifN (pc' := 33) d_jdk_42_method_149_30 rfl ((if0 _ _).trans (feq (hzc : ¬ (zc = (0 : Int32)))).1) ?_
  refine Go.aload_n (pc' := 34) d_jdk_42_method_149_33 rfl rfl rfl ?_
  refine Go.iload_n (pc' := 35) d_jdk_42_method_149_34 rfl rfl ?_
  refine Go.iload_n (pc' := 36) d_jdk_42_method_149_35 rfl rfl ?_
  refine Go.callS (pc' := 39) (z := N_8) d_jdk_42_method_149_36 rfl (w_65 hw) (w_66 hw) (w_67 hw) (w_68 hw) (by decide) (argsL := [(.ref c), (.int (0 : Int32)), (.int z)]) (rest := []) (Pays.of_met (W := 0) (len := 3) (m_cmp hw hs c kc cs z h0 V_c (hz) (hcs) (hcap)) (w_68 hw) (w_67 hw) (by decide) (by decide)) rfl rfl (lenOf pd_3 rfl) rfl (Nat.le_of_eq rfl) mem0 (by decide) (by decide) ?_
  rintro _ h31 _ K32 le33 ⟨b29, q30, rfl, rfl, p34, p35⟩
  have o_a_b29 : a ≠ b29 := Nat.ne_of_lt (Nat.lt_of_lt_of_le E_a.lt p34)
  have o_c_b29 : c ≠ b29 := Nat.ne_of_lt (Nat.lt_of_lt_of_le V_c.lt p34)
  have ge_b29 := Nat.le_trans le33 p34
  replace E_a := E_a.keep K32
  replace F_a_coder := F_a_coder.keep K32 nin0
  replace F_a_value := F_a_value.keep K32 nin0
  replace V_c := V_c.keep K32 nin0
  have V_b29 := p35
  change Go _ _ _ _ _ _ _ _ _ _ _ _ _ _ [a] h31 1 2 39 #[.val (.ref a), .val (.ref c), .val (.int (0 : Int32)), .val (.int z), .val .null, .unset] [(.ref b29)]
  refine Go.astore (pc' := 41) (Ls' := #[.val (.ref a), .val (.ref c), .val (.int (0 : Int32)), .val (.int z), .val .null, .val (.ref b29)]) d_jdk_42_method_149_39 rfl rfl rfl ?_
  refine Go.aload_n (pc' := 42) d_jdk_42_method_149_41 rfl rfl rfl ?_
  refine Go.aload (pc' := 44) d_jdk_42_method_149_42 rfl rfl rfl ?_
  refine Go.iload_n (pc' := 45) d_jdk_42_method_149_44 rfl rfl ?_
  refine Go.callS (pc' := 48) (z := N_9) d_jdk_42_method_149_45 rfl (w_73 hw) (w_74 hw) (w_67 hw) (w_75 hw) (by decide) (argsL := [(.ref b29), (.int z)]) (rest := [(.ref a)]) (Pays.of_met (W := 1) (len := 3) (m_cfl hw hs b29 q30 z (cs.map lowV) h31 V_b29) (w_75 hw) (w_67 hw) (by decide) (by decide)) rfl rfl (lenOf pd_4 rfl) rfl (Nat.le_of_eq rfl) mem0 (by decide) (by decide) ?_
  rintro _ _ _ - - ⟨rfl, rfl, rfl⟩
  change Go _ _ _ _ _ _ _ _ _ _ _ _ _ _ [a] h31 1 2 48 #[.val (.ref a), .val (.ref c), .val (.int (0 : Int32)), .val (.int z), .val .null, .val (.ref b29)] [(.int (0 : Int32)), (.ref a)]
  refine Go.putFN (pc' := 51) (v' := (.int (0 : Int32))) d_jdk_42_method_149_48 rfl (List.mem_of_getElem? (i := 0) rfl) (w_76 hw) Via.refl F_a_coder E_a (Or.inr ⟨(w_77 hw), rfl, rfl⟩) (w_54 hw) (ty := .byte) (by decide) rfl rfl ?_
  intro h36 W37
  replace F_a_coder := F_a_coder.same W37
  replace E_a := E_a.wr W37
  replace F_a_value := F_a_value.other W37 (Or.inr (slot_ne (Or.inr (w_79 hw)) (Or.inr (w_77 hw)) (by decide) (t := (.array .byte)) (t' := .byte) (by decide) (by decide)))
  replace V_c := V_c.other W37 ne_c_a
  replace V_b29 := V_b29.other W37 (Ne.symm o_a_b29)
  change Go _ _ _ _ _ _ _ _ _ _ _ _ _ _ [a] h36 1 2 51 #[.val (.ref a), .val (.ref c), .val (.int (0 : Int32)), .val (.int z), .val .null, .val (.ref b29)] []
  refine Go.aload_n (pc' := 52) d_jdk_42_method_149_51 rfl rfl rfl ?_
  refine Go.aload (pc' := 54) d_jdk_42_method_149_52 rfl rfl rfl ?_
  refine Go.putF (pc' := 57) d_jdk_42_method_149_54 rfl (List.mem_of_getElem? (i := 0) rfl) (host := "") (Or.inl (w_78 hw)) Via.refl F_a_value E_a (Or.inr ⟨(w_79 hw), rfl, rfl⟩) (w_54 hw) (ty := (.array .byte)) (by decide) rfl rfl ?_
  intro h38 W39
  replace F_a_value := F_a_value.same W39
  replace E_a := E_a.wr W39
  replace V_c := V_c.other W39 ne_c_a
  replace V_b29 := V_b29.other W39 (Ne.symm o_a_b29)
  replace F_a_coder := F_a_coder.other W39 (Or.inr (slot_ne (Or.inr (w_77 hw)) (Or.inr (w_79 hw)) (by decide) (t := .byte) (t' := (.array .byte)) (by decide) (by decide)))
  change Go _ _ _ _ _ _ _ _ _ _ _ _ _ _ [a] h38 1 2 57 #[.val (.ref a), .val (.ref c), .val (.int (0 : Int32)), .val (.int z), .val .null, .val (.ref b29)] []
  exact Go.retV d_jdk_42_method_149_57 rfl (by decide) (by decide) [] sn0 ⟨b29, q30, rfl, rfl, E_a, F_a_coder, F_a_value, V_b29, ge_b29⟩
abbrev R_m_str : Room := { frames := 3, cells := 1, slots := 2, locals := 52 }
theorem pn_m_str : plainName "java/lang/String" = true := by first | (simp [plainName, overriddenIn]; done) | decide +kernel
abbrev Q_m_str (Z : State) (a : Addr) (c : Addr) (kc : ClassId) (cs : List Int32) (z : Int32) (h0 : Heap) : Option Value → Heap → List Addr → Prop := fun res h' SN => ∃ (t : Addr) (kt : ClassId), res = none ∧ SN = [] ∧ Exa Z h' a "java/lang/String" ∧ Fld Z h' a "java/lang/String" "coder" "B" (.int (0 : Int32)) ∧ Fld Z h' a "java/lang/String" "value" "[B" (.ref t) ∧ Arv Z h' t kt .byte z (cs.map lowV) (.int (0 : Int32)) ∧ h0.size ≤ t
theorem ef_m_str (m : MethodId) (a : Addr) (c : Addr) (kc : ClassId) (cs : List Int32) (z : Int32) : entryFrame m #[(.ref a), (.ref c)] 2 = mkF m 0 #[.val (.ref a), .val (.ref c)] [] := by first | (simp [entryFrame, mkF, argsToLocals, Value.category]; done) | rfl
set_option maxRecDepth 65536 in
set_option maxHeartbeats 40000000 in
theorem m_str {l : Launch} {Z : State} {a0 : Array Value} {n0 : Nat} (hw : ∀ d ∈ tables_1, d.before a0 Z = true) (hs : Stat Z) (a : Addr) (c : Addr) (kc : ClassId) (cs : List Int32) (z : Int32) (h0 : Heap) (E_a : Exa Z h0 a "java/lang/String") (F_a_coder : Fld Z h0 a "java/lang/String" "coder" "B" (.int (0 : Int32))) (F_a_value : Fld Z h0 a "java/lang/String" "value" "[B" .null) (V_c : Arv Z h0 c kc .char z (cs.map Value.int) (.int (0 : Int32))) (hz : z.toNatClampNeg = cs.length) (hcs : ∀ x ∈ cs, ¬ x < 0 ∧ ¬ 255 < x) (hcs0 : cs ≠ []) (hcap : z.toNatClampNeg ≤ CAP) (ne_c_a : c ≠ a) :
    Met l Z EL0 n0 NR0 KN0 N_11 jdk_42_method_3_code 2 (Option.none : Option Jvm.ClassFile.FieldType) R_m_str [a] #[(.ref a), (.ref c)] h0 (Q_m_str Z a c kc cs z h0) := by
  refine Met.of_go (plainFor_of_name pn_m_str) (fun m => ef_m_str m a c kc cs z ) ?_
  intro hO hWS
  refine Go.aload_n (pc' := 1) d_jdk_42_method_3_0 rfl rfl rfl ?_
  refine Go.aload_n (pc' := 2) d_jdk_42_method_3_1 rfl rfl rfl ?_
  refine Go.iconst (pc' := 3) d_jdk_42_method_3_2 rfl ic_0 ?_
  refine Go.aload_n (pc' := 4) d_jdk_42_method_3_3 rfl rfl rfl ?_
  refine Go.lenV (pc' := 5) d_jdk_42_method_3_4 rfl V_c ?_
  refine Go.aconst_null (pc' := 6) d_jdk_42_method_3_5 rfl ?_
  refine Go.callI (pc' := 9) (z := N_10) (a := a) d_jdk_42_method_3_6 rfl rfl (w_59 hw) (w_60 hw) (w_62 hw) (by decide) (argsL := [(.ref c), (.int (0 : Int32)), (.int z), .null]) (rest := []) (Pays.of_met (W := 0) (len := 3) (m_str4 hw hs a c kc cs z h0 E_a F_a_coder F_a_value V_c (hz) (hcs) (hcs0) (hcap) ne_c_a) (w_62 hw) (w_55 hw) (by decide) (by decide)) rfl rfl (lenOf pd_5 rfl) rfl (Nat.le_of_eq rfl) (memS (List.mem_of_getElem? (i := 0) rfl) mem0) (by decide) (by decide) ?_
  rintro _ h42 _ K43 le44 ⟨b40, q41, rfl, rfl, p45, p46, p47, p48, p49⟩
  have o_a_b40 : a ≠ b40 := Nat.ne_of_lt (Nat.lt_of_lt_of_le E_a.lt p49)
  have o_c_b40 : c ≠ b40 := Nat.ne_of_lt (Nat.lt_of_lt_of_le V_c.lt p49)
  have ge_b40 := Nat.le_trans le44 p49
  replace E_a := E_a.keep K43
  replace V_c := V_c.keep K43 (ninS ne_c_a nin0)
  have F_a_coder := p46
  have F_a_value := p47
  have V_b40 := p48
  change Go _ _ _ _ _ _ _ _ _ _ _ _ _ _ [a] h42 1 2 9 #[.val (.ref a), .val (.ref c)] []
  exact Go.retV d_jdk_42_method_3_9 rfl (by decide) (by decide) [] sn0 ⟨b40, q41, rfl, rfl, E_a, F_a_coder, F_a_value, V_b40, ge_b40⟩
abbrev R_m_coder : Room := { frames := 0, cells := 0, slots := 0, locals := 0 }
theorem pn_m_coder : plainName "java/lang/String" = true := by first | (simp [plainName, overriddenIn]; done) | decide +kernel
abbrev Q_m_coder (Z : State) (a : Addr) (h0 : Heap) : Option Value → Heap → List Addr → Prop := fun res h' SN => res = some (.int (0 : Int32)) ∧ SN = [] ∧ h0 = h'
theorem ef_m_coder (m : MethodId) (a : Addr) : entryFrame m #[(.ref a)] 1 = mkF m 0 #[.val (.ref a)] [] := by first | (simp [entryFrame, mkF, argsToLocals, Value.category]; done) | rfl
set_option maxRecDepth 65536 in
set_option maxHeartbeats 40000000 in
theorem m_coder {l : Launch} {Z : State} {a0 : Array Value} {n0 : Nat} (hw : ∀ d ∈ tables_1, d.before a0 Z = true) (hs : Stat Z) (a : Addr) (h0 : Heap) (F_a_coder : Fld Z h0 a "java/lang/String" "coder" "B" (.int (0 : Int32))) :
    Met l Z EL0 n0 NR0 KN0 N_12 jdk_42_method_152_code 1 (Option.some Jvm.ClassFile.FieldType.byte) R_m_coder [] #[(.ref a)] h0 (Q_m_coder Z a h0) := by
  refine Met.of_go (plainFor_of_name pn_m_coder) (fun m => ef_m_coder m a ) ?_
  intro hO hWS
  obtain ⟨zc, S_c, hzc⟩ := hs_c hs
  refine Go.getS (pc' := 3) d_jdk_42_method_152_0 rfl (host := "") (Or.inl (w_64 hw)) Via.refl S_c ?_
  refine Go.ifN (pc' := 6) d_jdk_42_method_152_3 rfl ((if0 _ _).trans (feq (hzc : ¬ (zc = (0 : Int32)))).1) ?_
  refine Go.aload_n (pc' := 7) d_jdk_42_method_152_6 rfl rfl rfl ?_
  refine Go.getF (pc' := 10) d_jdk_42_method_152_7 rfl (host := "") (Or.inl (w_76 hw)) Via.refl F_a_coder ?_
  refine Go.goto (pc' := 14) d_jdk_42_method_152_10 (by decide) (by decide) ?_
  exact Go.retS (ty := .byte) d_jdk_42_method_152_14 rfl (by simp) rfl (by decide) (by decide) [] sn0 ⟨rfl, rfl, rfl⟩
abbrev R_m_isL : Room := { frames := 0, cells := 0, slots := 0, locals := 0 }
theorem pn_m_isL : plainName "java/lang/String" = true := by first | (simp [plainName, overriddenIn]; done) | decide +kernel
abbrev Q_m_isL (Z : State) (a : Addr) (h0 : Heap) : Option Value → Heap → List Addr → Prop := fun res h' SN => res = some (.int (1 : Int32)) ∧ SN = [] ∧ h0 = h'
theorem ef_m_isL (m : MethodId) (a : Addr) : entryFrame m #[(.ref a)] 1 = mkF m 0 #[.val (.ref a)] [] := by first | (simp [entryFrame, mkF, argsToLocals, Value.category]; done) | rfl
set_option maxRecDepth 65536 in
set_option maxHeartbeats 40000000 in
theorem m_isL {l : Launch} {Z : State} {a0 : Array Value} {n0 : Nat} (hw : ∀ d ∈ tables_1, d.before a0 Z = true) (hs : Stat Z) (a : Addr) (h0 : Heap) (F_a_coder : Fld Z h0 a "java/lang/String" "coder" "B" (.int (0 : Int32))) :
    Met l Z EL0 n0 NR0 KN0 N_13 jdk_42_method_154_code 1 (Option.some Jvm.ClassFile.FieldType.boolean) R_m_isL [] #[(.ref a)] h0 (Q_m_isL Z a h0) := by
  refine Met.of_go (plainFor_of_name pn_m_isL) (fun m => ef_m_isL m a ) ?_
  intro hO hWS
  obtain ⟨zc, S_c, hzc⟩ := hs_c hs
  refine Go.getS (pc' := 3) d_jdk_42_method_154_0 rfl (host := "") (Or.inl (w_64 hw)) Via.refl S_c ?_
  refine Go.ifN (pc' := 6) d_jdk_42_method_154_3 rfl ((if0 _ _).trans (feq (hzc : ¬ (zc = (0 : Int32)))).1) ?_
  refine Go.aload_n (pc' := 7) d_jdk_42_method_154_6 rfl rfl rfl ?_
  refine Go.getF (pc' := 10) d_jdk_42_method_154_7 rfl (host := "") (Or.inl (w_76 hw)) Via.refl F_a_coder ?_
  refine Go.ifN (pc' := 13) d_jdk_42_method_154_10 rfl ((if0 _ _).trans (teq (rfl : (0 : Int32) = (0 : Int32))).2) ?_
  refine Go.iconst (pc' := 14) d_jdk_42_method_154_13 rfl ic_1 ?_
  refine Go.goto (pc' := 18) d_jdk_42_method_154_14 (by decide) (by decide) ?_
  exact Go.retS (ty := .boolean) d_jdk_42_method_154_18 rfl (by simp) rfl (by decide) (by decide) [] sn0 ⟨rfl, rfl, rfl⟩
abbrev R_m_length : Room := { frames := 1, cells := 0, slots := 0, locals := 13 }
theorem pn_m_length : plainName "java/lang/String" = true := by first | (simp [plainName, overriddenIn]; done) | decide +kernel
abbrev Q_m_length (Z : State) (a : Addr) (t : Addr) (kt : ClassId) (z : Int32) (vs : List Value) (h0 : Heap) : Option Value → Heap → List Addr → Prop := fun res h' SN => res = some (.int z) ∧ SN = [] ∧ h0 = h'
theorem ef_m_length (m : MethodId) (a : Addr) (t : Addr) (kt : ClassId) (z : Int32) (vs : List Value) : entryFrame m #[(.ref a)] 1 = mkF m 0 #[.val (.ref a)] [] := by first | (simp [entryFrame, mkF, argsToLocals, Value.category]; done) | rfl
set_option maxRecDepth 65536 in
set_option maxHeartbeats 40000000 in
theorem m_length {l : Launch} {Z : State} {a0 : Array Value} {n0 : Nat} (hw : ∀ d ∈ tables_1, d.before a0 Z = true) (hs : Stat Z) (a : Addr) (t : Addr) (kt : ClassId) (z : Int32) (vs : List Value) (h0 : Heap) (E_a : Exa Z h0 a "java/lang/String") (F_a_coder : Fld Z h0 a "java/lang/String" "coder" "B" (.int (0 : Int32))) (F_a_value : Fld Z h0 a "java/lang/String" "value" "[B" (.ref t)) (V_t : Arv Z h0 t kt .byte z vs (.int (0 : Int32))) :
    Met l Z EL0 n0 NR0 KN0 N_14 jdk_42_method_54_code 1 (Option.some Jvm.ClassFile.FieldType.int) R_m_length [] #[(.ref a)] h0 (Q_m_length Z a t kt z vs h0) := by
  refine Met.of_go (plainFor_of_name pn_m_length) (fun m => ef_m_length m a t kt z vs ) ?_
  intro hO hWS
  refine Go.aload_n (pc' := 1) d_jdk_42_method_54_0 rfl rfl rfl ?_
  refine Go.getF (pc' := 4) d_jdk_42_method_54_1 rfl (host := "") (Or.inl (w_78 hw)) Via.refl F_a_value ?_
  refine Go.lenV (pc' := 5) d_jdk_42_method_54_4 rfl V_t ?_
  refine Go.aload_n (pc' := 6) d_jdk_42_method_54_5 rfl rfl rfl ?_
  refine Go.callV (pc' := 9) (u := N_12) (z := N_12) (a := a) d_jdk_42_method_54_6 rfl (w_85 hw) (w_86 hw) (nf (w_88 hw) rfl) (w_88 hw) (w_87 hw) (by decide) E_a (argsL := []) (rest := [(.int z)]) (Pays.of_met (W := 1) (len := 3) (m_coder hw hs a h0 F_a_coder) (w_89 hw) (w_55 hw) (by decide) (by decide)) rfl rfl (lenOf pd_6 rfl) rfl (Nat.le_of_eq rfl) mem0 (by decide) (by decide) ?_
  rintro _ _ _ - - ⟨rfl, rfl, rfl⟩
  change Go _ _ _ _ _ _ _ _ _ _ _ _ _ _ [] h0 0 0 9 #[.val (.ref a)] [(.int (0 : Int32)), (.int z)]
  refine Go.ishr (pc' := 10) d_jdk_42_method_54_9 rfl ?_
  rw [shr0]
  exact Go.retI d_jdk_42_method_54_10 rfl (by decide) (by decide) [] sn0 ⟨rfl, rfl, rfl⟩
abbrev R_m_pre : Room := { frames := 0, cells := 0, slots := 0, locals := 0 }
theorem pn_m_pre : plainName "jdk/internal/util/Preconditions" = true := by first | (simp [plainName, overriddenIn]; done) | decide +kernel
abbrev Q_m_pre (Z : State) (j : Int32) (z : Int32) (f : Value) (h0 : Heap) : Option Value → Heap → List Addr → Prop := fun res h' SN => res = some (.int j) ∧ SN = [] ∧ h0 = h'
theorem ef_m_pre (m : MethodId) (j : Int32) (z : Int32) (f : Value) (hv_f : f.isRef = true) : entryFrame m #[(.int j), (.int z), f] 3 = mkF m 0 #[.val (.int j), .val (.int z), .val f] [] := by rcases ref_cases hv_f with rfl | ⟨_, rfl⟩ <;> first | (simp [entryFrame, mkF, argsToLocals, Value.category]; done) | rfl
set_option maxRecDepth 65536 in
set_option maxHeartbeats 40000000 in
theorem m_pre {l : Launch} {Z : State} {a0 : Array Value} {n0 : Nat} (hw : ∀ d ∈ tables_1, d.before a0 Z = true) (hs : Stat Z) (j : Int32) (z : Int32) (f : Value) (h0 : Heap) (hv_f : f.isRef = true) (hj : ¬ j < 0 ∧ j < z) :
    Met l Z EL0 n0 NR0 KN0 N_15 jdk_41_method_11_code 3 (Option.some Jvm.ClassFile.FieldType.int) R_m_pre [] #[(.int j), (.int z), f] h0 (Q_m_pre Z j z f h0) := by
  refine Met.of_go (plainFor_of_name pn_m_pre) (fun m => ef_m_pre m j z f hv_f) ?_
  intro hO hWS
  refine Go.iload_n (pc' := 1) d_jdk_41_method_11_0 rfl rfl ?_
  refine Go.ifN (pc' := 4) d_jdk_41_method_11_1 rfl ((if0 _ _).trans (flt (hj.1 : ¬ (j < (0 : Int32)))).1) ?_
  refine Go.iload_n (pc' := 5) d_jdk_41_method_11_4 rfl rfl ?_
  refine Go.iload_n (pc' := 6) d_jdk_41_method_11_5 rfl rfl ?_
  refine Go.icmpY (pc' := 16) d_jdk_41_method_11_6 (by decide) (by decide) (tlt (hj.2 : j < z)).1 ?_
  refine Go.iload_n (pc' := 17) d_jdk_41_method_11_16 rfl rfl ?_
  exact Go.retI d_jdk_41_method_11_17 rfl (by decide) (by decide) [] sn0 ⟨rfl, rfl, rfl⟩
abbrev R_m_chk : Room := { frames := 1, cells := 0, slots := 0, locals := 14 }
theorem pn_m_chk : plainName "java/lang/String" = true := by first | (simp [plainName, overriddenIn]; done) | decide +kernel
abbrev Q_m_chk (Z : State) (j : Int32) (z : Int32) (h0 : Heap) : Option Value → Heap → List Addr → Prop := fun res h' SN => res = none ∧ SN = [] ∧ h0 = h'
theorem ef_m_chk (m : MethodId) (j : Int32) (z : Int32) : entryFrame m #[(.int j), (.int z)] 2 = mkF m 0 #[.val (.int j), .val (.int z)] [] := by first | (simp [entryFrame, mkF, argsToLocals, Value.category]; done) | rfl
set_option maxRecDepth 65536 in
set_option maxHeartbeats 40000000 in
theorem m_chk {l : Launch} {Z : State} {a0 : Array Value} {n0 : Nat} (hw : ∀ d ∈ tables_1, d.before a0 Z = true) (hs : Stat Z) (j : Int32) (z : Int32) (h0 : Heap) (hj : ¬ j < 0 ∧ j < z) :
    Met l Z EL0 n0 NR0 KN0 N_16 jdk_42_method_155_code 2 (Option.none : Option Jvm.ClassFile.FieldType) R_m_chk [] #[(.int j), (.int z)] h0 (Q_m_chk Z j z h0) := by
  refine Met.of_go (plainFor_of_name pn_m_chk) (fun m => ef_m_chk m j z ) ?_
  intro hO hWS
  obtain ⟨fm, S_f, hv_fm⟩ := hs_f hs
  refine Go.iload_n (pc' := 1) d_jdk_42_method_155_0 rfl rfl ?_
  refine Go.iload_n (pc' := 2) d_jdk_42_method_155_1 rfl rfl ?_
  refine Go.getS (pc' := 5) d_jdk_42_method_155_2 rfl (host := "") (Or.inl (w_107 hw)) Via.refl S_f ?_
  refine Go.callS (pc' := 8) (z := N_15) d_jdk_42_method_155_5 rfl (w_109 hw) (w_110 hw) (w_108 hw) (w_111 hw) (by decide) (argsL := [(.int j), (.int z), fm]) (rest := []) (Pays.of_met (W := 0) (len := 3) (m_pre hw hs j z fm h0 hv_fm (hj)) (w_111 hw) (w_108 hw) (by decide) (by decide)) rfl rfl (lenOf pd_7 rfl) rfl (Nat.le_of_eq rfl) mem0 (by decide) (by decide) ?_
  rintro _ _ _ - - ⟨rfl, rfl, rfl⟩
  change Go _ _ _ _ _ _ _ _ _ _ _ _ _ _ [] h0 0 0 8 #[.val (.int j), .val (.int z)] [(.int j)]
  refine Go.pop (pc' := 9) d_jdk_42_method_155_8 rfl rfl ?_
  exact Go.retV d_jdk_42_method_155_9 rfl (by decide) (by decide) [] sn0 ⟨rfl, rfl, rfl⟩
abbrev R_m_l1c : Room := { frames := 2, cells := 0, slots := 0, locals := 27 }
theorem pn_m_l1c : plainName "java/lang/StringLatin1" = true := by first | (simp [plainName, overriddenIn]; done) | decide +kernel
abbrev Q_m_l1c (Z : State) (t : Addr) (kt : ClassId) (z : Int32) (vs : List Value) (j : Int32) (u : Int32) (h0 : Heap) : Option Value → Heap → List Addr → Prop := fun res h' SN => res = some (.int (u &&& (255 : Int32)).toUInt32.toUInt16.toUInt32.toInt32) ∧ SN = [] ∧ h0 = h'
theorem ef_m_l1c (m : MethodId) (t : Addr) (kt : ClassId) (z : Int32) (vs : List Value) (j : Int32) (u : Int32) : entryFrame m #[(.ref t), (.int j)] 2 = mkF m 0 #[.val (.ref t), .val (.int j)] [] := by first | (simp [entryFrame, mkF, argsToLocals, Value.category]; done) | rfl
set_option maxRecDepth 65536 in
set_option maxHeartbeats 40000000 in
theorem m_l1c {l : Launch} {Z : State} {a0 : Array Value} {n0 : Nat} (hw : ∀ d ∈ tables_1, d.before a0 Z = true) (hs : Stat Z) (t : Addr) (kt : ClassId) (z : Int32) (vs : List Value) (j : Int32) (u : Int32) (h0 : Heap) (V_t : Arv Z h0 t kt .byte z vs (.int (0 : Int32))) (hj : ¬ j < 0 ∧ j < z) (hu : vs.getD j.toNatClampNeg (.int (0 : Int32)) = .int u) :
    Met l Z EL0 n0 NR0 KN0 N_17 jdk_43_method_2_code 2 (Option.some Jvm.ClassFile.FieldType.char) R_m_l1c [] #[(.ref t), (.int j)] h0 (Q_m_l1c Z t kt z vs j u h0) := by
  refine Met.of_go (plainFor_of_name pn_m_l1c) (fun m => ef_m_l1c m t kt z vs j u ) ?_
  intro hO hWS
  refine Go.iload_n (pc' := 1) d_jdk_43_method_2_0 rfl rfl ?_
  refine Go.aload_n (pc' := 2) d_jdk_43_method_2_1 rfl rfl rfl ?_
  refine Go.lenV (pc' := 3) d_jdk_43_method_2_2 rfl V_t ?_
  refine Go.callS (pc' := 6) (z := N_16) d_jdk_43_method_2_3 rfl (w_104 hw) (w_105 hw) (w_55 hw) (w_106 hw) (by decide) (argsL := [(.int j), (.int z)]) (rest := []) (Pays.of_met (W := 0) (len := 3) (m_chk hw hs j z h0 (hj)) (w_106 hw) (w_55 hw) (by decide) (by decide)) rfl rfl (lenOf pd_8 rfl) rfl (Nat.le_of_eq rfl) mem0 (by decide) (by decide) ?_
  rintro _ _ _ - - ⟨rfl, rfl, rfl⟩
  change Go _ _ _ _ _ _ _ _ _ _ _ _ _ _ [] h0 0 0 6 #[.val (.ref t), .val (.int j)] []
  refine Go.aload_n (pc' := 7) d_jdk_43_method_2_6 rfl rfl rfl ?_
  refine Go.iload_n (pc' := 8) d_jdk_43_method_2_7 rfl rfl ?_
  refine Go.baloadV (pc' := 9) (v := (.int u)) d_jdk_43_method_2_8 rfl V_t hj hu ?_
  refine Go.sipush (pc' := 12) d_jdk_43_method_2_9 rfl ics_255 ?_
  refine Go.iand (pc' := 13) d_jdk_43_method_2_12 rfl ?_
  refine Go.i2c (pc' := 14) d_jdk_43_method_2_13 rfl ?_
  exact Go.retS (ty := .char) d_jdk_43_method_2_14 rfl (by simp) (own_narc u) (by decide) (by decide) [] sn0 ⟨rfl, rfl, rfl⟩
abbrev R_m_charAt : Room := { frames := 3, cells := 0, slots := 0, locals := 40 }
theorem pn_m_charAt : plainName "java/lang/String" = true := by first | (simp [plainName, overriddenIn]; done) | decide +kernel
abbrev Q_m_charAt (Z : State) (a : Addr) (t : Addr) (kt : ClassId) (z : Int32) (vs : List Value) (j : Int32) (u : Int32) (h0 : Heap) : Option Value → Heap → List Addr → Prop := fun res h' SN => res = some (.int (u &&& (255 : Int32)).toUInt32.toUInt16.toUInt32.toInt32) ∧ SN = [] ∧ h0 = h'
theorem ef_m_charAt (m : MethodId) (a : Addr) (t : Addr) (kt : ClassId) (z : Int32) (vs : List Value) (j : Int32) (u : Int32) : entryFrame m #[(.ref a), (.int j)] 2 = mkF m 0 #[.val (.ref a), .val (.int j)] [] := by first | (simp [entryFrame, mkF, argsToLocals, Value.category]; done) | rfl
set_option maxRecDepth 65536 in
set_option maxHeartbeats 40000000 in
theorem m_charAt {l : Launch} {Z : State} {a0 : Array Value} {n0 : Nat} (hw : ∀ d ∈ tables_1, d.before a0 Z = true) (hs : Stat Z) (a : Addr) (t : Addr) (kt : ClassId) (z : Int32) (vs : List Value) (j : Int32) (u : Int32) (h0 : Heap) (E_a : Exa Z h0 a "java/lang/String") (F_a_coder : Fld Z h0 a "java/lang/String" "coder" "B" (.int (0 : Int32))) (F_a_value : Fld Z h0 a "java/lang/String" "value" "[B" (.ref t)) (V_t : Arv Z h0 t kt .byte z vs (.int (0 : Int32))) (hj : ¬ j < 0 ∧ j < z) (hu : vs.getD j.toNatClampNeg (.int (0 : Int32)) = .int u) :
    Met l Z EL0 n0 NR0 KN0 N_18 jdk_42_method_56_code 2 (Option.some Jvm.ClassFile.FieldType.char) R_m_charAt [] #[(.ref a), (.int j)] h0 (Q_m_charAt Z a t kt z vs j u h0) := by
  refine Met.of_go (plainFor_of_name pn_m_charAt) (fun m => ef_m_charAt m a t kt z vs j u ) ?_
  intro hO hWS
  refine Go.aload_n (pc' := 1) d_jdk_42_method_56_0 rfl rfl rfl ?_
  refine Go.callV (pc' := 4) (u := N_13) (z := N_13) (a := a) d_jdk_42_method_56_1 rfl (w_95 hw) (w_96 hw) (nf (w_98 hw) rfl) (w_98 hw) (w_97 hw) (by decide) E_a (argsL := []) (rest := []) (Pays.of_met (W := 0) (len := 3) (m_isL hw hs a h0 F_a_coder) (w_99 hw) (w_55 hw) (by decide) (by decide)) rfl rfl (lenOf pd_9 rfl) rfl (Nat.le_of_eq rfl) mem0 (by decide) (by decide) ?_
  rintro _ _ _ - - ⟨rfl, rfl, rfl⟩
  change Go _ _ _ _ _ _ _ _ _ _ _ _ _ _ [] h0 0 0 4 #[.val (.ref a), .val (.int j)] [(.int (1 : Int32))]
  refine Go.ifN (pc' := 7) d_jdk_42_method_56_4 rfl ((if0 _ _).trans (feq (by decide : ¬ ((1 : Int32) = (0 : Int32)))).1) ?_
  refine Go.aload_n (pc' := 8) d_jdk_42_method_56_7 rfl rfl rfl ?_
  refine Go.getF (pc' := 11) d_jdk_42_method_56_8 rfl (host := "") (Or.inl (w_78 hw)) Via.refl F_a_value ?_
  refine Go.iload_n (pc' := 12) d_jdk_42_method_56_11 rfl rfl ?_
  refine Go.callS (pc' := 15) (z := N_17) d_jdk_42_method_56_12 rfl (w_100 hw) (w_101 hw) (w_102 hw) (w_103 hw) (by decide) (argsL := [(.ref t), (.int j)]) (rest := []) (Pays.of_met (W := 0) (len := 3) (m_l1c hw hs t kt z vs j u h0 V_t (hj) (hu)) (w_103 hw) (w_102 hw) (by decide) (by decide)) rfl rfl (lenOf pd_10 rfl) rfl (Nat.le_of_eq rfl) mem0 (by decide) (by decide) ?_
  rintro _ _ _ - - ⟨rfl, rfl, rfl⟩
  change Go _ _ _ _ _ _ _ _ _ _ _ _ _ _ [] h0 0 0 15 #[.val (.ref a), .val (.int j)] [(.int (u &&& (255 : Int32)).toUInt32.toUInt16.toUInt32.toInt32)]
  exact Go.retS (ty := .char) d_jdk_42_method_56_15 rfl (by simp) (own_narc u) (by decide) (by decide) [] sn0 ⟨rfl, rfl, rfl⟩
theorem pn_m_law : plainName "com/example/tapstone/tapstone/store/OutcomeOrRefusedPinLaw" = true := by first | (simp [plainName, overriddenIn]; done) | decide +kernel
abbrev Q_m_law (Z : State) (p1 : Int32) (p2 : Int32) (p3 : Int32) (p4 : Int32) (h0 : Heap) : Option Value → Heap → List Addr → Prop := fun res h' SN => res = some (.int (1 : Int32)) ∧ SN = []
theorem ef_m_law (m : MethodId) (p1 : Int32) (p2 : Int32) (p3 : Int32) (p4 : Int32) : entryFrame m #[(.int p1), (.int p2), (.int p3), (.int p4)] maxLocals = mkF m 0 #[.val (.int p1), .val (.int p2), .val (.int p3), .val (.int p4), .unset, .unset, .unset, .unset, .unset, .unset] [] := by first | (simp [entryFrame, mkF, argsToLocals, Value.category, maxLocals]; done) | rfl
set_option maxRecDepth 65536 in
set_option maxHeartbeats 40000000 in
theorem m_law {l : Launch} {Z : State} {a0 : Array Value} {n0 : Nat} (hw : ∀ d ∈ tables_1, d.before a0 Z = true) (hs : Stat Z) (p1 : Int32) (p2 : Int32) (p3 : Int32) (p4 : Int32) (h0 : Heap) :
    Met l Z EL0 n0 NR0 KN0 x code maxLocals ret room_1 [] #[(.int p1), (.int p2), (.int p3), (.int p4)] h0 (Q_m_law Z p1 p2 p3 p4 h0) := by
  refine Met.of_go (plainFor_of_name pn_m_law) (fun m => ef_m_law m p1 p2 p3 p4 ) ?_
  intro hO hWS
  refine Go.iload_n (pc' := 1) at_0 rfl rfl ?_
  refine Go.ldcInt (pc' := 3) at_1 rfl (w_0 hw) ?_
  refine Go.iand (pc' := 4) at_3 rfl ?_
  refine Go.iconst (pc' := 5) at_4 rfl ic_3 ?_
  refine Go.irem (pc' := 6) at_5 rfl (by decide) ?_
  refine Go.istore (pc' := 8) (Ls' := #[.val (.int p1), .val (.int p2), .val (.int p3), .val (.int p4), .val (.int ((p1 &&& (2147483647 : Int32)) % (3 : Int32))), .unset, .unset, .unset, .unset, .unset]) at_6 rfl rfl ?_
  refine Go.iconst (pc' := 9) at_8 rfl ic_2 ?_
  refine Go.newP (pc' := 11) (cap := 2) (ad := "[C") at_9 rfl (w_1 hw) (by decide) (by decide) (by decide) (by decide) (by decide) (by decide) ?_
  intro h50 b51 g52 ge_b51 q54 x53 V_b51 E_b51
  replace V_b51 : Arv Z h50 b51 q54 .char (2 : Int32) [(.int (0 : Int32)), (.int (0 : Int32))] (.int (0 : Int32)) := V_b51.pad (pad_rep [] _ 2)
  change Go _ _ _ _ _ _ _ _ _ _ _ _ _ _ [b51] h50 1 2 11 #[.val (.int p1), .val (.int p2), .val (.int p3), .val (.int p4), .val (.int ((p1 &&& (2147483647 : Int32)) % (3 : Int32))), .unset, .unset, .unset, .unset, .unset] [(.ref b51)]
  refine Go.astore (pc' := 13) (Ls' := #[.val (.int p1), .val (.int p2), .val (.int p3), .val (.int p4), .val (.int ((p1 &&& (2147483647 : Int32)) % (3 : Int32))), .val (.ref b51), .unset, .unset, .unset, .unset]) at_11 rfl rfl rfl ?_
  refine Go.aload (pc' := 15) at_13 rfl rfl rfl ?_
  refine Go.iconst (pc' := 16) at_15 rfl ic_0 ?_
  refine Go.iload_n (pc' := 17) at_16 rfl rfl ?_
  refine Go.sipush (pc' := 20) at_17 rfl ics_255 ?_
  refine Go.iand (pc' := 21) at_20 rfl ?_
  refine Go.i2c (pc' := 22) at_21 rfl ?_
  rw [i2c_mask]
  have b_c0 := mask255 p3
  generalize h_c0 : (p3 &&& (255 : Int32)) = c0 at b_c0 ⊢
  refine Go.castoreV (pc' := 23) (i := 0) at_22 rfl (List.mem_of_getElem? (i := 0) rfl) V_b51 (by decide) (by decide) (by simp) ?_
  rw [nar_char b_c0.1 (le255 b_c0.2)]
  intro h55 W56 V_b51'
  replace E_b51 := E_b51.wr W56
  replace V_b51 : Arv Z h55 b51 q54 .char (2 : Int32) [(.int c0), (.int (0 : Int32))] (.int (0 : Int32)) := V_b51'
  change Go _ _ _ _ _ _ _ _ _ _ _ _ _ _ [b51] h55 1 2 23 #[.val (.int p1), .val (.int p2), .val (.int p3), .val (.int p4), .val (.int ((p1 &&& (2147483647 : Int32)) % (3 : Int32))), .val (.ref b51), .unset, .unset, .unset, .unset] []
  refine Go.aload (pc' := 25) at_23 rfl rfl rfl ?_
  refine Go.iconst (pc' := 26) at_25 rfl ic_1 ?_
  refine Go.iload_n (pc' := 27) at_26 rfl rfl ?_
  refine Go.sipush (pc' := 30) at_27 rfl ics_255 ?_
  refine Go.iand (pc' := 31) at_30 rfl ?_
  refine Go.i2c (pc' := 32) at_31 rfl ?_
  rw [i2c_mask]
  have b_c1 := mask255 p4
  generalize h_c1 : (p4 &&& (255 : Int32)) = c1 at b_c1 ⊢
  refine Go.castoreV (pc' := 33) (i := 1) at_32 rfl (List.mem_of_getElem? (i := 0) rfl) V_b51 (by decide) (by decide) (by simp) ?_
  rw [nar_char b_c1.1 (le255 b_c1.2)]
  intro h57 W58 V_b51'
  replace E_b51 := E_b51.wr W58
  replace V_b51 : Arv Z h57 b51 q54 .char (2 : Int32) [(.int c0), (.int c1)] (.int (0 : Int32)) := V_b51'
  change Go _ _ _ _ _ _ _ _ _ _ _ _ _ _ [b51] h57 1 2 33 #[.val (.int p1), .val (.int p2), .val (.int p3), .val (.int p4), .val (.int ((p1 &&& (2147483647 : Int32)) % (3 : Int32))), .val (.ref b51), .unset, .unset, .unset, .unset] []
  refine Go.iload (pc' := 35) at_33 rfl rfl ?_
  rcases own_mod3 p1 with e | e | e
  · simp only [e]
    refine Go.ifN (pc' := 38) at_35 rfl ((if0 _ _).trans (teq (rfl : (0 : Int32) = (0 : Int32))).2) ?_
    refine Go.aconst_null (pc' := 39) at_38 rfl ?_
    refine Go.astore (pc' := 41) (Ls' := #[.val (.int p1), .val (.int p2), .val (.int p3), .val (.int p4), .val (.int (0 : Int32)), .val (.ref b51), .val .null, .unset, .unset, .unset]) at_39 rfl rfl rfl ?_
    refine Go.goto (pc' := 70) at_41 (by decide) (by decide) ?_
    refine Go.newO (pc' := 73) at_70 rfl (w_2 hw) (w_3 hw) (w_4 hw) (by decide) (by decide) ?_
    intro h59 b60 g61 ge_b60 x62 E_b60 D_b60 U_b60
    have o_b51_b60 : b51 ≠ b60 := Nat.ne_of_lt (Nat.lt_of_lt_of_le E_b51.lt (Nat.le_of_eq g61))
    replace E_b51 := E_b51.ext x62
    replace V_b51 := V_b51.ext x62
    have F_b60_value : Fld Z h59 b60 "com/example/tapstone/tapstone/store/TokenStore$Outcome" "value" "Ljava/lang/Object;" .null := D_b60 (Or.inr (w_17 hw)) (ty := (.object "java/lang/Object")) (by decide)
    have F_b60_refusal : Fld Z h59 b60 "com/example/tapstone/tapstone/store/TokenStore$Outcome" "refusal" "Lcom/example/tapstone/tapstone/store/TokenRefusedException$Refusal;" .null := D_b60 (Or.inr (w_19 hw)) (ty := (.object "com/example/tapstone/tapstone/store/TokenRefusedException$Refusal")) (by decide)
    change Go _ _ _ _ _ _ _ _ _ _ _ _ _ _ [b60, b51] h59 2 4 73 #[.val (.int p1), .val (.int p2), .val (.int p3), .val (.int p4), .val (.int (0 : Int32)), .val (.ref b51), .val .null, .unset, .unset, .unset] [(.ref b60)]
    refine Go.dup (pc' := 74) at_73 rfl rfl ?_
    refine Go.aload (pc' := 76) at_74 rfl rfl rfl ?_
    refine Go.aconst_null (pc' := 77) at_76 rfl ?_
    refine Go.callI (pc' := 80) (z := N_5) (a := b60) at_77 rfl rfl (w_5 hw) (w_6 hw) (w_7 hw) (by decide) (argsL := [.null, .null]) (rest := [(.ref b60)]) (Pays.of_met (W := 1) (len := 3) (m_out hw hs b60 .null h59 E_b60 F_b60_value F_b60_refusal rfl) (w_7 hw) (w_4 hw) (by decide) (by decide)) rfl rfl (lenOf pd_11 rfl) rfl (Nat.le_of_eq rfl) (memS (List.mem_of_getElem? (i := 0) rfl) mem0) (by decide) (by decide) ?_
    rintro _ h63 _ K64 le65 ⟨rfl, rfl, p66, p67, p68⟩
    replace E_b51 := E_b51.keep K64
    replace V_b51 := V_b51.keep K64 (ninS o_b51_b60 nin0)
    replace E_b60 := E_b60.keep K64
    have F_b60_value := p67
    have F_b60_refusal := p68
    change Go _ _ _ _ _ _ _ _ _ _ _ _ _ _ [b60, b51] h63 2 4 80 #[.val (.int p1), .val (.int p2), .val (.int p3), .val (.int p4), .val (.int (0 : Int32)), .val (.ref b51), .val .null, .unset, .unset, .unset] [(.ref b60)]
    refine Go.astore (pc' := 82) (Ls' := #[.val (.int p1), .val (.int p2), .val (.int p3), .val (.int p4), .val (.int (0 : Int32)), .val (.ref b51), .val .null, .val (.ref b60), .unset, .unset]) at_80 rfl rfl rfl ?_
    refine Go.aload (pc' := 84) at_82 rfl rfl rfl ?_
    refine Go.callV (pc' := 87) (u := N_6) (z := N_6) (a := b60) at_84 rfl (w_20 hw) (w_21 hw) (nf (w_23 hw) rfl) (w_23 hw) (w_22 hw) (by decide) E_b60 (argsL := []) (rest := []) (Pays.of_met (W := 0) (len := 3) (m_orr hw hs b60 .null h63 F_b60_refusal F_b60_value (rfl)) (w_24 hw) (w_4 hw) (by decide) (by decide)) rfl rfl (lenOf pd_12 rfl) rfl (Nat.le_of_eq rfl) mem0 (by decide) (by decide) ?_
    rintro _ _ _ - - ⟨rfl, rfl, rfl⟩
    change Go _ _ _ _ _ _ _ _ _ _ _ _ _ _ [b60, b51] h63 2 4 87 #[.val (.int p1), .val (.int p2), .val (.int p3), .val (.int p4), .val (.int (0 : Int32)), .val (.ref b51), .val .null, .val (.ref b60), .unset, .unset] [.null]
    refine Go.astore (pc' := 89) (Ls' := #[.val (.int p1), .val (.int p2), .val (.int p3), .val (.int p4), .val (.int (0 : Int32)), .val (.ref b51), .val .null, .val (.ref b60), .val .null, .unset]) at_87 rfl rfl rfl ?_
    refine Go.iload (pc' := 91) at_89 rfl rfl ?_
    refine Go.ifN (pc' := 94) at_91 rfl ((if0 _ _).trans (teq (rfl : (0 : Int32) = (0 : Int32))).2) ?_
    refine Go.aload (pc' := 96) at_94 rfl rfl rfl ?_
    refine Go.ifnonnullN (pc' := 99) at_96 rfl ?_
    refine Go.iconst (pc' := 100) at_99 rfl ic_1 ?_
    refine Go.goto (pc' := 104) at_100 (by decide) (by decide) ?_
    exact Go.retS (ty := .boolean) at_104 rfl (by simp) rfl (by decide) (by decide) [] sn0 ⟨rfl, rfl⟩
  · simp only [e]
    refine Go.ifY (pc' := 44) at_35 (by decide) (by decide) ((if0 _ _).trans (feq ((by decide) : ¬ ((1 : Int32) = (0 : Int32)))).2) ?_
    refine Go.iload (pc' := 46) at_44 rfl rfl ?_
    refine Go.iconst (pc' := 47) at_46 rfl ic_1 ?_
    refine Go.icmpN (pc' := 50) at_47 rfl (teq (rfl : (1 : Int32) = (1 : Int32))).2 ?_
    refine Go.iload_n (pc' := 51) at_50 rfl rfl ?_
    refine Go.callS (pc' := 54) (z := N_4) at_51 rfl (w_25 hw) (w_26 hw) (w_27 hw) (w_28 hw) (by decide) (argsL := [(.int p2)]) (rest := []) (Pays.of_met (W := 0) (len := 3) (m_valueOf hw hs p2 h57) (w_28 hw) (w_27 hw) (by decide) (by decide)) rfl rfl (lenOf pd_13 rfl) rfl (Nat.le_of_eq rfl) mem0 (by decide) (by decide) ?_
    rintro _ h70 _ K71 le72 ⟨b69, rfl, rfl, p73, p74⟩
    replace E_b51 := E_b51.keep K71
    replace V_b51 := V_b51.keep K71 nin0
    have E_b69 := p73
    have F_b69_value := p74
    change Go _ _ _ _ _ _ _ _ _ _ _ _ _ _ [b51] h70 2 3 54 #[.val (.int p1), .val (.int p2), .val (.int p3), .val (.int p4), .val (.int (1 : Int32)), .val (.ref b51), .unset, .unset, .unset, .unset] [(.ref b69)]
    refine Go.astore (pc' := 56) (Ls' := #[.val (.int p1), .val (.int p2), .val (.int p3), .val (.int p4), .val (.int (1 : Int32)), .val (.ref b51), .val (.ref b69), .unset, .unset, .unset]) at_54 rfl rfl rfl ?_
    refine Go.goto (pc' := 70) at_56 (by decide) (by decide) ?_
    refine Go.newO (pc' := 73) at_70 rfl (w_2 hw) (w_3 hw) (w_4 hw) (by decide) (by decide) ?_
    intro h75 b76 g77 ge_b76 x78 E_b76 D_b76 U_b76
    have o_b51_b76 : b51 ≠ b76 := Nat.ne_of_lt (Nat.lt_of_lt_of_le E_b51.lt (Nat.le_of_eq g77))
    have o_b69_b76 : b69 ≠ b76 := Nat.ne_of_lt (Nat.lt_of_lt_of_le E_b69.lt (Nat.le_of_eq g77))
    replace E_b51 := E_b51.ext x78
    replace V_b51 := V_b51.ext x78
    replace E_b69 := E_b69.ext x78
    replace F_b69_value := F_b69_value.ext x78
    have F_b76_value : Fld Z h75 b76 "com/example/tapstone/tapstone/store/TokenStore$Outcome" "value" "Ljava/lang/Object;" .null := D_b76 (Or.inr (w_17 hw)) (ty := (.object "java/lang/Object")) (by decide)
    have F_b76_refusal : Fld Z h75 b76 "com/example/tapstone/tapstone/store/TokenStore$Outcome" "refusal" "Lcom/example/tapstone/tapstone/store/TokenRefusedException$Refusal;" .null := D_b76 (Or.inr (w_19 hw)) (ty := (.object "com/example/tapstone/tapstone/store/TokenRefusedException$Refusal")) (by decide)
    change Go _ _ _ _ _ _ _ _ _ _ _ _ _ _ [b76, b51] h75 3 5 73 #[.val (.int p1), .val (.int p2), .val (.int p3), .val (.int p4), .val (.int (1 : Int32)), .val (.ref b51), .val (.ref b69), .unset, .unset, .unset] [(.ref b76)]
    refine Go.dup (pc' := 74) at_73 rfl rfl ?_
    refine Go.aload (pc' := 76) at_74 rfl rfl rfl ?_
    refine Go.aconst_null (pc' := 77) at_76 rfl ?_
    refine Go.callI (pc' := 80) (z := N_5) (a := b76) at_77 rfl rfl (w_5 hw) (w_6 hw) (w_7 hw) (by decide) (argsL := [(.ref b69), .null]) (rest := [(.ref b76)]) (Pays.of_met (W := 1) (len := 3) (m_out hw hs b76 (.ref b69) h75 E_b76 F_b76_value F_b76_refusal rfl) (w_7 hw) (w_4 hw) (by decide) (by decide)) rfl rfl (lenOf pd_11 rfl) rfl (Nat.le_of_eq rfl) (memS (List.mem_of_getElem? (i := 0) rfl) mem0) (by decide) (by decide) ?_
    rintro _ h79 _ K80 le81 ⟨rfl, rfl, p82, p83, p84⟩
    replace E_b51 := E_b51.keep K80
    replace V_b51 := V_b51.keep K80 (ninS o_b51_b76 nin0)
    replace E_b69 := E_b69.keep K80
    replace F_b69_value := F_b69_value.keep K80 (ninS o_b69_b76 nin0)
    replace E_b76 := E_b76.keep K80
    have F_b76_value := p83
    have F_b76_refusal := p84
    change Go _ _ _ _ _ _ _ _ _ _ _ _ _ _ [b76, b51] h79 3 5 80 #[.val (.int p1), .val (.int p2), .val (.int p3), .val (.int p4), .val (.int (1 : Int32)), .val (.ref b51), .val (.ref b69), .unset, .unset, .unset] [(.ref b76)]
    refine Go.astore (pc' := 82) (Ls' := #[.val (.int p1), .val (.int p2), .val (.int p3), .val (.int p4), .val (.int (1 : Int32)), .val (.ref b51), .val (.ref b69), .val (.ref b76), .unset, .unset]) at_80 rfl rfl rfl ?_
    refine Go.aload (pc' := 84) at_82 rfl rfl rfl ?_
    refine Go.callV (pc' := 87) (u := N_6) (z := N_6) (a := b76) at_84 rfl (w_20 hw) (w_21 hw) (nf (w_23 hw) rfl) (w_23 hw) (w_22 hw) (by decide) E_b76 (argsL := []) (rest := []) (Pays.of_met (W := 0) (len := 3) (m_orr hw hs b76 (.ref b69) h79 F_b76_refusal F_b76_value (rfl)) (w_24 hw) (w_4 hw) (by decide) (by decide)) rfl rfl (lenOf pd_12 rfl) rfl (Nat.le_of_eq rfl) mem0 (by decide) (by decide) ?_
    rintro _ _ _ - - ⟨rfl, rfl, rfl⟩
    change Go _ _ _ _ _ _ _ _ _ _ _ _ _ _ [b76, b51] h79 3 5 87 #[.val (.int p1), .val (.int p2), .val (.int p3), .val (.int p4), .val (.int (1 : Int32)), .val (.ref b51), .val (.ref b69), .val (.ref b76), .unset, .unset] [(.ref b69)]
    refine Go.astore (pc' := 89) (Ls' := #[.val (.int p1), .val (.int p2), .val (.int p3), .val (.int p4), .val (.int (1 : Int32)), .val (.ref b51), .val (.ref b69), .val (.ref b76), .val (.ref b69), .unset]) at_87 rfl rfl rfl ?_
    refine Go.iload (pc' := 91) at_89 rfl rfl ?_
    refine Go.ifY (pc' := 105) at_91 (by decide) (by decide) ((if0 _ _).trans (feq ((by decide) : ¬ ((1 : Int32) = (0 : Int32)))).2) ?_
    refine Go.iload (pc' := 107) at_105 rfl rfl ?_
    refine Go.iconst (pc' := 108) at_107 rfl ic_1 ?_
    refine Go.icmpN (pc' := 111) at_108 rfl (teq (rfl : (1 : Int32) = (1 : Int32))).2 ?_
    refine Go.aload (pc' := 113) at_111 rfl rfl rfl ?_
    refine Go.aload (pc' := 115) at_113 rfl rfl rfl ?_
    refine Go.acmp (pc' := 118) (same := true) at_115 rfl rfl (decide_eq_true rfl) (by decide) (by decide) ?_
    refine Go.aload (pc' := 120) at_118 rfl rfl rfl ?_
    refine Go.castY (pc' := 123) at_120 rfl (w_46 hw) (Ins.self E_b69) ?_
    refine Go.callV (pc' := 126) (u := N_3) (z := N_3) (a := b69) at_123 rfl (w_47 hw) (w_48 hw) (nf (w_50 hw) rfl) (w_50 hw) (w_49 hw) (by decide) E_b69 (argsL := []) (rest := []) (Pays.of_met (W := 0) (len := 3) (m_intValue hw hs b69 p2 h79 F_b69_value) (w_51 hw) (w_27 hw) (by decide) (by decide)) rfl rfl (lenOf pd_14 rfl) rfl (Nat.le_of_eq rfl) mem0 (by decide) (by decide) ?_
    rintro _ _ _ - - ⟨rfl, rfl, rfl⟩
    change Go _ _ _ _ _ _ _ _ _ _ _ _ _ _ [b76, b51] h79 3 5 126 #[.val (.int p1), .val (.int p2), .val (.int p3), .val (.int p4), .val (.int (1 : Int32)), .val (.ref b51), .val (.ref b69), .val (.ref b76), .val (.ref b69), .unset] [(.int p2)]
    refine Go.iload_n (pc' := 127) at_126 rfl rfl ?_
    refine Go.icmpN (pc' := 130) at_127 rfl (teq (rfl : p2 = p2)).2 ?_
    refine Go.iconst (pc' := 131) at_130 rfl ic_1 ?_
    refine Go.goto (pc' := 135) at_131 (by decide) (by decide) ?_
    exact Go.retS (ty := .boolean) at_135 rfl (by simp) rfl (by decide) (by decide) [] sn0 ⟨rfl, rfl⟩
  · simp only [e]
    refine Go.ifY (pc' := 44) at_35 (by decide) (by decide) ((if0 _ _).trans (feq ((by decide) : ¬ ((2 : Int32) = (0 : Int32)))).2) ?_
    refine Go.iload (pc' := 46) at_44 rfl rfl ?_
    refine Go.iconst (pc' := 47) at_46 rfl ic_1 ?_
    refine Go.icmpY (pc' := 59) at_47 (by decide) (by decide) (feq ((by decide) : ¬ ((2 : Int32) = (1 : Int32)))).2 ?_
    refine Go.newO (pc' := 62) at_59 rfl (w_53 hw) (w_54 hw) (w_55 hw) (by decide) (by decide) ?_
    intro h85 b86 g87 ge_b86 x88 E_b86 D_b86 U_b86
    have o_b51_b86 : b51 ≠ b86 := Nat.ne_of_lt (Nat.lt_of_lt_of_le E_b51.lt (Nat.le_of_eq g87))
    replace E_b51 := E_b51.ext x88
    replace V_b51 := V_b51.ext x88
    have F_b86_coder : Fld Z h85 b86 "java/lang/String" "coder" "B" (.int (0 : Int32)) := D_b86 (Or.inr (w_77 hw)) (ty := .byte) (by decide)
    have F_b86_value : Fld Z h85 b86 "java/lang/String" "value" "[B" .null := D_b86 (Or.inr (w_79 hw)) (ty := (.array .byte)) (by decide)
    change Go _ _ _ _ _ _ _ _ _ _ _ _ _ _ [b86, b51] h85 2 6 62 #[.val (.int p1), .val (.int p2), .val (.int p3), .val (.int p4), .val (.int (2 : Int32)), .val (.ref b51), .unset, .unset, .unset, .unset] [(.ref b86)]
    refine Go.dup (pc' := 63) at_62 rfl rfl ?_
    refine Go.aload (pc' := 65) at_63 rfl rfl rfl ?_
    refine Go.callI (pc' := 68) (z := N_11) (a := b86) at_65 rfl rfl (w_56 hw) (w_57 hw) (w_58 hw) (by decide) (argsL := [(.ref b51)]) (rest := [(.ref b86)]) (Pays.of_met (W := 1) (len := 3) (m_str hw hs b86 b51 q54 [c0, c1] (2 : Int32) h85 E_b86 F_b86_coder F_b86_value V_b51 (rfl) (own_two b_c0 b_c1) (by simp) (by decide) o_b51_b86) (w_58 hw) (w_55 hw) (by decide) (by decide)) rfl rfl (lenOf pd_15 rfl) rfl (Nat.le_of_eq rfl) (memS (List.mem_of_getElem? (i := 0) rfl) mem0) (by decide) (by decide) ?_
    rintro _ h91 _ K92 le93 ⟨b89, q90, rfl, rfl, p94, p95, p96, p97, p98⟩
    have o_b51_b89 : b51 ≠ b89 := Nat.ne_of_lt (Nat.lt_of_lt_of_le E_b51.lt p98)
    have o_b86_b89 : b86 ≠ b89 := Nat.ne_of_lt (Nat.lt_of_lt_of_le E_b86.lt p98)
    have ge_b89 := Nat.le_trans le93 p98
    replace E_b51 := E_b51.keep K92
    replace V_b51 := V_b51.keep K92 (ninS o_b51_b86 nin0)
    replace E_b86 := E_b86.keep K92
    have F_b86_coder := p95
    have F_b86_value := p96
    have V_b89 := p97
    change Go _ _ _ _ _ _ _ _ _ _ _ _ _ _ [b86, b51] h91 3 8 68 #[.val (.int p1), .val (.int p2), .val (.int p3), .val (.int p4), .val (.int (2 : Int32)), .val (.ref b51), .unset, .unset, .unset, .unset] [(.ref b86)]
    refine Go.astore (pc' := 70) (Ls' := #[.val (.int p1), .val (.int p2), .val (.int p3), .val (.int p4), .val (.int (2 : Int32)), .val (.ref b51), .val (.ref b86), .unset, .unset, .unset]) at_68 rfl rfl rfl ?_
    refine Go.newO (pc' := 73) at_70 rfl (w_2 hw) (w_3 hw) (w_4 hw) (by decide) (by decide) ?_
    intro h99 b100 g101 ge_b100 x102 E_b100 D_b100 U_b100
    have o_b51_b100 : b51 ≠ b100 := Nat.ne_of_lt (Nat.lt_of_lt_of_le E_b51.lt (Nat.le_of_eq g101))
    have o_b86_b100 : b86 ≠ b100 := Nat.ne_of_lt (Nat.lt_of_lt_of_le E_b86.lt (Nat.le_of_eq g101))
    have o_b89_b100 : b89 ≠ b100 := Nat.ne_of_lt (Nat.lt_of_lt_of_le V_b89.lt (Nat.le_of_eq g101))
    replace E_b51 := E_b51.ext x102
    replace V_b51 := V_b51.ext x102
    replace E_b86 := E_b86.ext x102
    replace F_b86_coder := F_b86_coder.ext x102
    replace F_b86_value := F_b86_value.ext x102
    replace V_b89 := V_b89.ext x102
    have F_b100_value : Fld Z h99 b100 "com/example/tapstone/tapstone/store/TokenStore$Outcome" "value" "Ljava/lang/Object;" .null := D_b100 (Or.inr (w_17 hw)) (ty := (.object "java/lang/Object")) (by decide)
    have F_b100_refusal : Fld Z h99 b100 "com/example/tapstone/tapstone/store/TokenStore$Outcome" "refusal" "Lcom/example/tapstone/tapstone/store/TokenRefusedException$Refusal;" .null := D_b100 (Or.inr (w_19 hw)) (ty := (.object "com/example/tapstone/tapstone/store/TokenRefusedException$Refusal")) (by decide)
    change Go _ _ _ _ _ _ _ _ _ _ _ _ _ _ [b100, b86, b51] h99 4 10 73 #[.val (.int p1), .val (.int p2), .val (.int p3), .val (.int p4), .val (.int (2 : Int32)), .val (.ref b51), .val (.ref b86), .unset, .unset, .unset] [(.ref b100)]
    refine Go.dup (pc' := 74) at_73 rfl rfl ?_
    refine Go.aload (pc' := 76) at_74 rfl rfl rfl ?_
    refine Go.aconst_null (pc' := 77) at_76 rfl ?_
    refine Go.callI (pc' := 80) (z := N_5) (a := b100) at_77 rfl rfl (w_5 hw) (w_6 hw) (w_7 hw) (by decide) (argsL := [(.ref b86), .null]) (rest := [(.ref b100)]) (Pays.of_met (W := 1) (len := 3) (m_out hw hs b100 (.ref b86) h99 E_b100 F_b100_value F_b100_refusal rfl) (w_7 hw) (w_4 hw) (by decide) (by decide)) rfl rfl (lenOf pd_11 rfl) rfl (Nat.le_of_eq rfl) (memS (List.mem_of_getElem? (i := 0) rfl) mem0) (by decide) (by decide) ?_
    rintro _ h103 _ K104 le105 ⟨rfl, rfl, p106, p107, p108⟩
    replace E_b51 := E_b51.keep K104
    replace V_b51 := V_b51.keep K104 (ninS o_b51_b100 nin0)
    replace E_b86 := E_b86.keep K104
    replace F_b86_coder := F_b86_coder.keep K104 (ninS o_b86_b100 nin0)
    replace F_b86_value := F_b86_value.keep K104 (ninS o_b86_b100 nin0)
    replace V_b89 := V_b89.keep K104 (ninS o_b89_b100 nin0)
    replace E_b100 := E_b100.keep K104
    have F_b100_value := p107
    have F_b100_refusal := p108
    change Go _ _ _ _ _ _ _ _ _ _ _ _ _ _ [b100, b86, b51] h103 4 10 80 #[.val (.int p1), .val (.int p2), .val (.int p3), .val (.int p4), .val (.int (2 : Int32)), .val (.ref b51), .val (.ref b86), .unset, .unset, .unset] [(.ref b100)]
    refine Go.astore (pc' := 82) (Ls' := #[.val (.int p1), .val (.int p2), .val (.int p3), .val (.int p4), .val (.int (2 : Int32)), .val (.ref b51), .val (.ref b86), .val (.ref b100), .unset, .unset]) at_80 rfl rfl rfl ?_
    refine Go.aload (pc' := 84) at_82 rfl rfl rfl ?_
    refine Go.callV (pc' := 87) (u := N_6) (z := N_6) (a := b100) at_84 rfl (w_20 hw) (w_21 hw) (nf (w_23 hw) rfl) (w_23 hw) (w_22 hw) (by decide) E_b100 (argsL := []) (rest := []) (Pays.of_met (W := 0) (len := 3) (m_orr hw hs b100 (.ref b86) h103 F_b100_refusal F_b100_value (rfl)) (w_24 hw) (w_4 hw) (by decide) (by decide)) rfl rfl (lenOf pd_12 rfl) rfl (Nat.le_of_eq rfl) mem0 (by decide) (by decide) ?_
    rintro _ _ _ - - ⟨rfl, rfl, rfl⟩
    change Go _ _ _ _ _ _ _ _ _ _ _ _ _ _ [b100, b86, b51] h103 4 10 87 #[.val (.int p1), .val (.int p2), .val (.int p3), .val (.int p4), .val (.int (2 : Int32)), .val (.ref b51), .val (.ref b86), .val (.ref b100), .unset, .unset] [(.ref b86)]
    refine Go.astore (pc' := 89) (Ls' := #[.val (.int p1), .val (.int p2), .val (.int p3), .val (.int p4), .val (.int (2 : Int32)), .val (.ref b51), .val (.ref b86), .val (.ref b100), .val (.ref b86), .unset]) at_87 rfl rfl rfl ?_
    refine Go.iload (pc' := 91) at_89 rfl rfl ?_
    refine Go.ifY (pc' := 105) at_91 (by decide) (by decide) ((if0 _ _).trans (feq ((by decide) : ¬ ((2 : Int32) = (0 : Int32)))).2) ?_
    refine Go.iload (pc' := 107) at_105 rfl rfl ?_
    refine Go.iconst (pc' := 108) at_107 rfl ic_1 ?_
    refine Go.icmpY (pc' := 136) at_108 (by decide) (by decide) (feq ((by decide) : ¬ ((2 : Int32) = (1 : Int32)))).2 ?_
    refine Go.aload (pc' := 138) at_136 rfl rfl rfl ?_
    refine Go.aload (pc' := 140) at_138 rfl rfl rfl ?_
    refine Go.acmp (pc' := 145) (same := true) at_140 rfl rfl (decide_eq_true rfl) (by decide) (by decide) ?_
    refine Go.aload (pc' := 147) at_145 rfl rfl rfl ?_
    refine Go.castY (pc' := 150) at_147 rfl (w_53 hw) (Ins.self E_b86) ?_
    refine Go.astore (pc' := 152) (Ls' := #[.val (.int p1), .val (.int p2), .val (.int p3), .val (.int p4), .val (.int (2 : Int32)), .val (.ref b51), .val (.ref b86), .val (.ref b100), .val (.ref b86), .val (.ref b86)]) at_150 rfl rfl rfl ?_
    refine Go.aload (pc' := 154) at_152 rfl rfl rfl ?_
    refine Go.callV (pc' := 157) (u := N_14) (z := N_14) (a := b86) at_154 rfl (w_80 hw) (w_81 hw) (nf (w_83 hw) rfl) (w_83 hw) (w_82 hw) (by decide) E_b86 (argsL := []) (rest := []) (Pays.of_met (W := 0) (len := 3) (m_length hw hs b86 b89 q90 (2 : Int32) ([c0, c1].map lowV) h103 E_b86 F_b86_coder F_b86_value V_b89) (w_84 hw) (w_55 hw) (by decide) (by decide)) rfl rfl (lenOf pd_14 rfl) rfl (Nat.le_of_eq rfl) mem0 (by decide) (by decide) ?_
    rintro _ _ _ - - ⟨rfl, rfl, rfl⟩
    change Go _ _ _ _ _ _ _ _ _ _ _ _ _ _ [b100, b86, b51] h103 4 10 157 #[.val (.int p1), .val (.int p2), .val (.int p3), .val (.int p4), .val (.int (2 : Int32)), .val (.ref b51), .val (.ref b86), .val (.ref b100), .val (.ref b86), .val (.ref b86)] [(.int (2 : Int32))]
    refine Go.iconst (pc' := 158) at_157 rfl ic_2 ?_
    refine Go.icmpN (pc' := 161) at_158 rfl (teq (rfl : (2 : Int32) = (2 : Int32))).2 ?_
    refine Go.aload (pc' := 163) at_161 rfl rfl rfl ?_
    refine Go.iconst (pc' := 164) at_163 rfl ic_0 ?_
    refine Go.callV (pc' := 167) (u := N_18) (z := N_18) (a := b86) at_164 rfl (w_90 hw) (w_91 hw) (nf (w_93 hw) rfl) (w_93 hw) (w_92 hw) (by decide) E_b86 (argsL := [(.int (0 : Int32))]) (rest := []) (Pays.of_met (W := 0) (len := 3) (m_charAt hw hs b86 b89 q90 (2 : Int32) ([c0, c1].map lowV) (0 : Int32) c0.toInt8.toInt32 h103 E_b86 F_b86_coder F_b86_value V_b89 (by decide) (rfl)) (w_94 hw) (w_55 hw) (by decide) (by decide)) rfl rfl (lenOf pd_16 rfl) rfl (Nat.le_of_eq rfl) mem0 (by decide) (by decide) ?_
    rintro _ _ _ - - ⟨rfl, rfl, rfl⟩
    change Go _ _ _ _ _ _ _ _ _ _ _ _ _ _ [b100, b86, b51] h103 4 10 167 #[.val (.int p1), .val (.int p2), .val (.int p3), .val (.int p4), .val (.int (2 : Int32)), .val (.ref b51), .val (.ref b86), .val (.ref b100), .val (.ref b86), .val (.ref b86)] [(.int (c0.toInt8.toInt32 &&& (255 : Int32)).toUInt32.toUInt16.toUInt32.toInt32)]
    refine Go.aload (pc' := 169) at_167 rfl rfl rfl ?_
    refine Go.iconst (pc' := 170) at_169 rfl ic_0 ?_
    refine Go.caloadV (pc' := 171) (v := (.int c0)) at_170 rfl V_b51 (by decide) rfl ?_
    refine Go.icmpN (pc' := 174) at_171 rfl (teq (own_lowback b_c0.1 b_c0.2 : (c0.toInt8.toInt32 &&& (255 : Int32)).toUInt32.toUInt16.toUInt32.toInt32 = c0)).2 ?_
    refine Go.aload (pc' := 176) at_174 rfl rfl rfl ?_
    refine Go.iconst (pc' := 177) at_176 rfl ic_1 ?_
    refine Go.callV (pc' := 180) (u := N_18) (z := N_18) (a := b86) at_177 rfl (w_90 hw) (w_91 hw) (nf (w_93 hw) rfl) (w_93 hw) (w_92 hw) (by decide) E_b86 (argsL := [(.int (1 : Int32))]) (rest := []) (Pays.of_met (W := 0) (len := 3) (m_charAt hw hs b86 b89 q90 (2 : Int32) ([c0, c1].map lowV) (1 : Int32) c1.toInt8.toInt32 h103 E_b86 F_b86_coder F_b86_value V_b89 (by decide) (rfl)) (w_94 hw) (w_55 hw) (by decide) (by decide)) rfl rfl (lenOf pd_16 rfl) rfl (Nat.le_of_eq rfl) mem0 (by decide) (by decide) ?_
    rintro _ _ _ - - ⟨rfl, rfl, rfl⟩
    change Go _ _ _ _ _ _ _ _ _ _ _ _ _ _ [b100, b86, b51] h103 4 10 180 #[.val (.int p1), .val (.int p2), .val (.int p3), .val (.int p4), .val (.int (2 : Int32)), .val (.ref b51), .val (.ref b86), .val (.ref b100), .val (.ref b86), .val (.ref b86)] [(.int (c1.toInt8.toInt32 &&& (255 : Int32)).toUInt32.toUInt16.toUInt32.toInt32)]
    refine Go.aload (pc' := 182) at_180 rfl rfl rfl ?_
    refine Go.iconst (pc' := 183) at_182 rfl ic_1 ?_
    refine Go.caloadV (pc' := 184) (v := (.int c1)) at_183 rfl V_b51 (by decide) rfl ?_
    refine Go.icmpN (pc' := 187) at_184 rfl (teq (own_lowback b_c1.1 b_c1.2 : (c1.toInt8.toInt32 &&& (255 : Int32)).toUInt32.toUInt16.toUInt32.toInt32 = c1)).2 ?_
    refine Go.iconst (pc' := 188) at_187 rfl ic_1 ?_
    refine Go.goto (pc' := 192) at_188 (by decide) (by decide) ?_
    exact Go.retS (ty := .boolean) at_192 rfl (by simp) rfl (by decide) (by decide) [] sn0 ⟨rfl, rfl⟩
set_option maxRecDepth 65536 in
set_option maxHeartbeats 40000000 in
theorem comes_1 {Post : Tables → Env → Array Value → State → Outcome → State → Prop} (hpost : ∀ tb e args s v u, (limb_1_1.after args s (.returned v) u = true ∧ limb_1_2.after args s (.returned v) u = true ∧ True) → FrameEnd s (.returned v) u (Jvm.fieldLocs frame_1_writes args s ++ Jvm.arrayLocs frame_1_arrays args s ++ Jvm.staticLocs frame_1_statics s) 16 128 → Post tb e args s (.returned v) u) :
    ArmFor flags0 classFile x code maxLocals ret World_1 tables_1 room_1 Calls_1 rest_1 Pre_1 Post := by
  intro l hfl _ _ p e ha hc hk s m args below hf hA hF happ hP
  obtain ⟨hcalls, hrest, hpre⟩ := hP
  obtain ⟨-, -, -, hnamed, -, -, -, hat⟩ := (Spec.applies_iff hf).mp happ
  obtain ⟨hg, hn⟩ := and_e (Cond.before_iff.mp (show (Jvm.Cond.and given_1 narrow_1).before args s = true from hpre))
  have hgn := hg
  obtain ⟨h_c, hg⟩ := and_e hg
  obtain ⟨w0, w1, w2, w3, rfl⟩ : ∃ w0 w1 w2 w3 : Value, args = #[w0, w1, w2, w3] := by
    have hs : args.size = 4 := by simpa [Cond.value, given_1] using h_c
    obtain ⟨L⟩ := args
    match L, hs with
    | [w0, w1, w2, w3], _ => exact ⟨w0, w1, w2, w3, rfl⟩
  obtain ⟨h_0, hg⟩ := and_e hg
  obtain ⟨i0, e_0⟩ := is_v h_0
  obtain rfl : w0 = (.int i0) := Option.some.inj e_0
  obtain ⟨h_1, hg⟩ := and_e hg
  obtain ⟨i1, e_1⟩ := is_v h_1
  obtain rfl : w1 = (.int i1) := Option.some.inj e_1
  obtain ⟨h_2, hg⟩ := and_e hg
  obtain ⟨i2, e_2⟩ := is_v h_2
  obtain rfl : w2 = (.int i2) := Option.some.inj e_2
  have h_3 := hg
  obtain ⟨i3, e_3⟩ := is_v h_3
  obtain rfl : w3 = (.int i3) := Option.some.inj e_3
  have hw := fun d (hd : d ∈ tables_1) => atoms_spec (ws := Jvm.Cond.code x code maxLocals ret :: tables_1) hat d (List.mem_cons_of_mem _ hd)
  have hfit : Fit s := fun {y c} hc i hi => by
    obtain ⟨ha, rfl⟩ := Array.getElem?_eq_some_iff.mp hc
    have q := List.all_eq_true.mp ((Array.all_eq_true_iff_forall_mem.mp hF) _ (Array.getElem_mem ha)) i (List.mem_range.mpr hi)
    simpa [Array.getElem?_eq_getElem hi] using q
  have hsets := (atoms_of jdkStatics_1 (show (jdkStatics_1.foldr Jvm.Cond.and restOwn_1).before _ s = true from hrest)).1
  obtain ⟨zc, e_zc⟩ := is_v (Cond.before_iff.mp (hsets _ (List.mem_of_getElem? (i := 9) rfl)))
  have n_zc := gotF (Cond.eq_ints e_zc (Term.int_eval (0))) (not_v (Cond.before_iff.mp (hsets _ (List.mem_of_getElem? (i := 10) rfl))))
  have s_zc := Sta.start e_zc (Or.inl (hsets _ (List.mem_of_getElem? (i := 8) rfl)))
  obtain ⟨fm, e_fm, r_fm⟩ := isR_v (Cond.before_iff.mp (hsets _ (List.mem_of_getElem? (i := 16) rfl)))
  have s_fm := Sta.start e_fm (Or.inl (hsets _ (List.mem_of_getElem? (i := 15) rfl)))
  have e_hi := eqv_i (Term.int_eval (127)) (Cond.before_iff.mp (hsets _ (List.mem_of_getElem? (i := 3) rfl)))
  have s_hi := Sta.start e_hi (Or.inl (hsets _ (List.mem_of_getElem? (i := 1) rfl)))
  obtain ⟨ca, e_ca⟩ := arr_v (Cond.before_iff.mp (hsets _ (List.mem_of_getElem? (i := 4) rfl)))
  have s_ca := Sta.start e_ca (Or.inr ⟨(w_30 hw), (hsets _ (List.mem_of_getElem? (i := 2) rfl))⟩)
  obtain ⟨cl, A_ca⟩ := Arr.start e_ca (Cond.before_iff.mp (hsets _ (List.mem_of_getElem? (i := 4) rfl)))
  have e_ln := eqv_i (Term.int_eval (256)) (Cond.before_iff.mp (hsets _ (List.mem_of_getElem? (i := 6) rfl)))
  have l_ca := own_len e_ca A_ca e_ln
  have bxs : Bxs s ca cl "java/lang/Integer" "I" (256 : Int32) (fun j => .int (j - 128)) := Bxs.start (fun _ => e_ca) A_ca l_ca.1 l_ca.2 (by decide) (Cond.before_iff.mp (hsets _ (List.mem_of_getElem? (i := 7) rfl))) (fun X j hj hq => eqv_i (Term.sub_int (idx_at hj) (Term.int_eval (128))) hq)
  have hs : Stat s := ⟨⟨zc, s_zc, n_zc⟩, ⟨fm, s_fm, r_fm⟩, ⟨s_hi, ca, cl, s_ca, bxs⟩, trivial⟩
  obtain ⟨n, o, h1, h2, h3, v, L, SN, rfl, ⟨rfl, -⟩, hL, -, -, -, hN, hE⟩ := m_law hw hs i0 i1 i2 i3 s.heap tables_1 p e ha hc hk s m _ below hf ((Spec.applies_iff_loose hf).mp happ).1 ⟨rfl, State.Warmed39.refl s, rfl, (fun p hp => nomatch hp), (fun x hx => nomatch hx), ⟨rfl, Ext.refl _⟩, _, (EW.nil (a0 := #[]))⟩ (fun q => nomatch q)
  refine ⟨n, _, h1, h2, h3, hpost _ _ _ _ _ _ ⟨Cond.after_iff.mpr rfl, Cond.after_iff.mpr (eq_i res_at (Term.int_eval (1)) rfl), trivial⟩ ⟨hE.1, hN rfl, (hE.2.2.2.sift fun y hy => Or.inr (hL y hy)).mono (by decide) (by decide)⟩⟩
theorem main_1_1 : Claimed_1_1 := comes_1 fun _ _ _ _ _ _ h hF => ⟨h.1, hF⟩
theorem main_1_2 : Claimed_1_2 := comes_1 fun _ _ _ _ _ _ h hF => ⟨h.2.1, hF⟩
end Jvm.Pilot.@@N@@
namespace Jvm.Pilot.@@N@@
open Jvm Jvm.ClassFile Sem Op Lib Jvm.Free Jvm.Stand Jvm.Pilot.@@N@@.Jvm.D
/-! MADE BY PROGRAM (witnessworld.py) out of the Statement's table words and the real class files: 25 classes; the members and pool entries that the words name. The judged class is class 1, her method 1. -/
namespace start1
open Jvm.ClassFile
def u (s : String) : CpInfo := .utf8 (stringToUtf16 s)
/-- a pool by its gaps: so many unusable entries, then the entry; so many at the end -/
def gap : Nat → List CpInfo → List CpInfo
  | 0, r => r
  | n + 1, r => .unusable :: gap n r
def poolList (es : List (Nat × CpInfo)) (last : Nat) : List CpInfo := es.foldr (fun e r => gap e.1 (e.2 :: r)) (gap last [])
def pool (es : List (Nat × CpInfo)) (last : Nat) : Array CpInfo := ⟨poolList es last⟩
def fileOf (pool : Array CpInfo) (this : Nat) (attrs : Array Attribute := #[]) (ms : Array MethodInfo := #[]) (fl : Nat := 33) (sup : Nat := 0) (ifs : Array Nat := #[]) (fds : Array FieldInfo := #[]) : ClassFile where
  minorVersion := 0
  majorVersion := 65
  constantPool := pool
  accessFlags := fl
  thisClass := this
  superClass := sup
  interfaces := ifs
  fields := fds
  methods := ms
  attributes := attrs
def plain (name : String) (sup : Option ClassId) : Class where
  name := name
  kind := .ordinary
  loader := none
  accessFlags := 33
  super := sup
  interfaces := #[]
  cf := none
  fields := #[]
  methods := #[]
  instanceTypes := #[]
  staticTypes := #[]
  resolved := #[]
  callSites := []
  init := .initialized
  statics := none
  mirror := none

def pool0 : Array CpInfo := pool [(5, u "<init>"), (0, u "()V"), (1, .class_ 10), (1, u "java/lang/Object")] 113

def k0c0 : Code := { maxStack := 0, maxLocals := 1, code := object_method_1_code, exceptionTable := #[], attributes := #[] }
def k0m0 : Method := { name := "<init>", desc := "()V", sig := { parameters := [], returnType := none }, accessFlags := 1, code := some k0c0 }
/-- java/lang/Object -/
def k0 : Class := { plain "java/lang/Object" none with
  accessFlags := 33
  interfaces := #[]
  cf := some (fileOf pool0 8 #[] #[{ accessFlags := 1, nameIndex := 5, descriptorIndex := 6, attributes := #[] }] 33 0 #[] #[])
  fields := #[]
  methods := #[k0m0]
  instanceTypes := #[]
  staticTypes := #[]
  resolved := Array.replicate 124 none
  statics := none }

def pool1 : Array CpInfo := pool [(2, .class_ 4), (1, u "java/lang/Object"), (0, u "<init>"), (0, u "()V"), (0, .integer 2147483647), (0, .methodref 9 10), (0, .class_ 11), (0, .nameAndType 12 13), (0, u "java/lang/Integer"), (0, u "valueOf"), (0, u "(I)Ljava/lang/Integer;"), (0, .class_ 15), (0, u "java/lang/String"), (0, .methodref 14 17), (0, .nameAndType 5 18), (0, u "([C)V"), (0, .class_ 20), (0, u "com/example/tapstone/tapstone/store/TokenStore$Outcome"), (0, .methodref 19 22), (0, .nameAndType 5 23), (0, u "(Ljava/lang/Object;Lcom/example/tapstone/tapstone/store/TokenRefusedException$Refusal;)V"), (0, .methodref 19 25), (0, .nameAndType 26 27), (0, u "orRefused"), (0, u "()Ljava/lang/Object;"), (0, .methodref 9 29), (0, .nameAndType 30 31), (0, u "intValue"), (0, u "()I"), (0, .methodref 14 33), (0, .nameAndType 34 31), (0, u "length"), (0, .methodref 14 36), (0, .nameAndType 37 38), (0, u "charAt"), (0, u "(I)C"), (0, .class_ 40), (0, u "com/example/tapstone/tapstone/store/OutcomeOrRefusedPinLaw"), (2, u "law"), (0, u "(IIII)Z")] 17

def k1m0 : Method := { name := "<init>", desc := "()V", sig := { parameters := [], returnType := none }, accessFlags := 2, code := none }
def k1c1 : Code := { maxStack := 4, maxLocals := 10, code := code, exceptionTable := #[], attributes := #[] }
def k1m1 : Method := { name := "law", desc := "(IIII)Z", sig := { parameters := [.int, .int, .int, .int], returnType := some .boolean }, accessFlags := 9, code := some k1c1 }
/-- com/example/tapstone/tapstone/store/OutcomeOrRefusedPinLaw -/
def k1 : Class := { plain "com/example/tapstone/tapstone/store/OutcomeOrRefusedPinLaw" (some 0) with
  accessFlags := 49
  interfaces := #[]
  cf := some (fileOf pool1 39 #[] #[{ accessFlags := 2, nameIndex := 5, descriptorIndex := 6, attributes := #[] }, { accessFlags := 9, nameIndex := 43, descriptorIndex := 44, attributes := #[] }] 49 2 #[] #[])
  fields := #[]
  methods := #[k1m0, k1m1]
  instanceTypes := #[]
  staticTypes := #[]
  resolved := Array.replicate 62 none
  statics := none }

def pool2 : Array CpInfo := pool [(1, .methodref 2 3), (0, .class_ 4), (0, .nameAndType 5 6), (0, u "java/lang/Object"), (0, u "<init>"), (0, u "()V"), (0, .class_ 8), (0, u "java/lang/Record")] 13

def k2c0 : Code := { maxStack := 1, maxLocals := 1, code := jdk_30_method_1_code, exceptionTable := #[], attributes := #[] }
def k2m0 : Method := { name := "<init>", desc := "()V", sig := { parameters := [], returnType := none }, accessFlags := 4, code := some k2c0 }
/-- java/lang/Record -/
def k2 : Class := { plain "java/lang/Record" (some 0) with
  accessFlags := 1057
  interfaces := #[]
  cf := some (fileOf pool2 7 #[] #[{ accessFlags := 4, nameIndex := 5, descriptorIndex := 6, attributes := #[] }] 1057 2 #[] #[])
  fields := #[]
  methods := #[k2m0]
  instanceTypes := #[]
  staticTypes := #[]
  resolved := Array.replicate 22 none
  statics := none }

def pool3 : Array CpInfo := pool [(1, .methodref 2 3), (0, .class_ 4), (0, .nameAndType 5 6), (0, u "java/lang/Record"), (0, u "<init>"), (0, u "()V"), (0, .fieldref 8 9), (0, .class_ 10), (0, .nameAndType 11 12), (0, u "com/example/tapstone/tapstone/store/TokenStore$Outcome"), (0, u "value"), (0, u "Ljava/lang/Object;"), (0, .fieldref 8 14), (0, .nameAndType 15 16), (0, u "refusal"), (0, u "Lcom/example/tapstone/tapstone/store/TokenRefusedException$Refusal;"), (2, u "(Ljava/lang/Object;Lcom/example/tapstone/tapstone/store/TokenRefusedException$Refusal;)V"), (29, u "orRefused"), (0, u "()Ljava/lang/Object;"), (11, .class_ 63), (0, u "com/example/tapstone/tapstone/store/TokenStore")] 23

def k3c0 : Code := { maxStack := 2, maxLocals := 3, code := prog_63_method_1_code, exceptionTable := #[], attributes := #[] }
def k3m0 : Method := { name := "<init>", desc := "(Ljava/lang/Object;Lcom/example/tapstone/tapstone/store/TokenRefusedException$Refusal;)V", sig := { parameters := [(.object "java/lang/Object"), (.object "com/example/tapstone/tapstone/store/TokenRefusedException$Refusal")], returnType := none }, accessFlags := 0, code := some k3c0 }
def k3c1 : Code := { maxStack := 3, maxLocals := 1, code := prog_63_method_4_code, exceptionTable := #[], attributes := #[] }
def k3m1 : Method := { name := "orRefused", desc := "()Ljava/lang/Object;", sig := { parameters := [], returnType := some (.object "java/lang/Object") }, accessFlags := 0, code := some k3c1 }
/-- com/example/tapstone/tapstone/store/TokenStore$Outcome -/
def k3 : Class := { plain "com/example/tapstone/tapstone/store/TokenStore$Outcome" (some 2) with
  accessFlags := 48
  interfaces := #[]
  cf := some (fileOf pool3 8 #[.nestHost 62] #[{ accessFlags := 0, nameIndex := 5, descriptorIndex := 19, attributes := #[] }, { accessFlags := 0, nameIndex := 49, descriptorIndex := 50, attributes := #[] }] 48 2 #[] #[{ accessFlags := 18, nameIndex := 11, descriptorIndex := 12, attributes := #[] }, { accessFlags := 18, nameIndex := 15, descriptorIndex := 16, attributes := #[] }])
  fields := #[{ name := "value", type := (.object "java/lang/Object"), accessFlags := 18, slot := 0, constantValue := 0 }, { name := "refusal", type := (.object "com/example/tapstone/tapstone/store/TokenRefusedException$Refusal"), accessFlags := 18, slot := 1, constantValue := 0 }]
  methods := #[k3m0, k3m1]
  instanceTypes := #[(.object "java/lang/Object"), (.object "com/example/tapstone/tapstone/store/TokenRefusedException$Refusal")]
  staticTypes := #[]
  resolved := Array.replicate 87 none
  statics := none }

def pool4 : Array CpInfo := pool [(1, .class_ 2), (0, u "java/io/Serializable"), (0, .class_ 4), (0, u "java/lang/Object")] 2

/-- java/io/Serializable -/
def k4 : Class := { plain "java/io/Serializable" (some 0) with
  accessFlags := 1537
  interfaces := #[]
  cf := some (fileOf pool4 1 #[] #[] 1537 3 #[] #[])
  fields := #[]
  methods := #[]
  instanceTypes := #[]
  staticTypes := #[]
  resolved := Array.replicate 7 none
  statics := none }

def pool5 : Array CpInfo := pool [(1, .methodref 2 3), (0, .class_ 4), (0, .nameAndType 5 6), (0, u "java/lang/Object"), (0, u "<init>"), (0, u "()V"), (1, .class_ 10), (1, u "java/lang/Number"), (2, .class_ 14), (0, u "java/io/Serializable"), (0, u "serialVersionUID"), (0, u "J")] 20

def k5c0 : Code := { maxStack := 1, maxLocals := 1, code := jdk_18_method_1_code, exceptionTable := #[], attributes := #[] }
def k5m0 : Method := { name := "<init>", desc := "()V", sig := { parameters := [], returnType := none }, accessFlags := 1, code := some k5c0 }
/-- java/lang/Number -/
def k5 : Class := { plain "java/lang/Number" (some 0) with
  accessFlags := 1057
  interfaces := #[4]
  cf := some (fileOf pool5 8 #[] #[{ accessFlags := 1, nameIndex := 5, descriptorIndex := 6, attributes := #[] }] 1057 2 #[13] #[{ accessFlags := 26, nameIndex := 15, descriptorIndex := 16, attributes := #[] }])
  fields := #[{ name := "serialVersionUID", type := .long, accessFlags := 26, slot := 0, constantValue := 0 }]
  methods := #[k5m0]
  instanceTypes := #[]
  staticTypes := #[.long]
  resolved := Array.replicate 37 none
  statics := none }

def pool6 : Array CpInfo := pool [(1, .class_ 2), (0, u "java/lang/Comparable"), (0, .class_ 4), (0, u "java/lang/Object")] 7

/-- java/lang/Comparable -/
def k6 : Class := { plain "java/lang/Comparable" (some 0) with
  accessFlags := 1537
  interfaces := #[]
  cf := some (fileOf pool6 1 #[] #[] 1537 3 #[] #[])
  fields := #[]
  methods := #[]
  instanceTypes := #[]
  staticTypes := #[]
  resolved := Array.replicate 12 none
  statics := none }

def pool7 : Array CpInfo := pool [(1, .class_ 2), (0, u "java/lang/constant/Constable"), (0, .class_ 4), (0, u "java/lang/Object")] 6

/-- java/lang/constant/Constable -/
def k7 : Class := { plain "java/lang/constant/Constable" (some 0) with
  accessFlags := 1537
  interfaces := #[]
  cf := some (fileOf pool7 1 #[] #[] 1537 3 #[] #[])
  fields := #[]
  methods := #[]
  instanceTypes := #[]
  staticTypes := #[]
  resolved := Array.replicate 11 none
  statics := none }

def pool8 : Array CpInfo := pool [(1, .class_ 2), (0, u "java/lang/constant/ConstantDesc"), (0, .class_ 4), (0, u "java/lang/Object")] 32

/-- java/lang/constant/ConstantDesc -/
def k8 : Class := { plain "java/lang/constant/ConstantDesc" (some 0) with
  accessFlags := 1537
  interfaces := #[]
  cf := some (fileOf pool8 1 #[] #[] 1537 3 #[] #[])
  fields := #[]
  methods := #[]
  instanceTypes := #[]
  staticTypes := #[]
  resolved := Array.replicate 37 none
  statics := none }

def pool9 : Array CpInfo := pool [(1, .class_ 2), (0, u "java/lang/Integer"), (16, u "digits"), (0, u "[C"), (46, u "<init>"), (17, u "DigitOnes"), (0, u "[B"), (2, u "DigitTens"), (10, .nameAndType 67 101), (0, u "()V"), (19, u "()I"), (65, u "valueOf"), (0, u "(I)Ljava/lang/Integer;"), (0, .class_ 190), (0, u "java/lang/Integer$IntegerCache"), (0, .fieldref 189 192), (0, .nameAndType 193 194), (0, u "high"), (0, u "I"), (0, .fieldref 189 196), (0, .nameAndType 197 198), (0, u "cache"), (0, u "[Ljava/lang/Integer;"), (0, .methodref 1 200), (0, .nameAndType 67 201), (0, u "(I)V"), (0, .methodref 203 100), (0, .class_ 204), (0, u "java/lang/Number"), (0, .fieldref 1 206), (0, .nameAndType 207 194), (0, u "value"), (5, u "intValue"), (88, u "TYPE"), (0, u "Ljava/lang/Class;"), (0, .class_ 305), (0, u "java/lang/Comparable"), (0, .class_ 307), (0, u "java/lang/constant/Constable"), (0, .class_ 309), (0, u "java/lang/constant/ConstantDesc"), (0, u "MIN_VALUE"), (1, u "MAX_VALUE"), (3, u "SIZE"), (1, u "BYTES"), (1, u "serialVersionUID"), (0, u "J")] 131

def k9c0 : Code := { maxStack := 3, maxLocals := 1, code := jdk_33_method_22_code, exceptionTable := #[], attributes := #[] }
def k9m0 : Method := { name := "valueOf", desc := "(I)Ljava/lang/Integer;", sig := { parameters := [.int], returnType := some (.object "java/lang/Integer") }, accessFlags := 9, code := some k9c0 }
def k9c1 : Code := { maxStack := 2, maxLocals := 2, code := jdk_33_method_23_code, exceptionTable := #[], attributes := #[] }
def k9m1 : Method := { name := "<init>", desc := "(I)V", sig := { parameters := [.int], returnType := none }, accessFlags := 1, code := some k9c1 }
def k9c2 : Code := { maxStack := 1, maxLocals := 1, code := jdk_33_method_27_code, exceptionTable := #[], attributes := #[] }
def k9m2 : Method := { name := "intValue", desc := "()I", sig := { parameters := [], returnType := some .int }, accessFlags := 1, code := some k9c2 }
/-- java/lang/Integer -/
def k9 : Class := { plain "java/lang/Integer" (some 5) with
  accessFlags := 49
  interfaces := #[6, 7, 8]
  cf := some (fileOf pool9 1 #[.nestMembers #[189]] #[{ accessFlags := 9, nameIndex := 187, descriptorIndex := 188, attributes := #[] }, { accessFlags := 1, nameIndex := 67, descriptorIndex := 201, attributes := #[] }, { accessFlags := 1, nameIndex := 213, descriptorIndex := 121, attributes := #[] }] 49 203 #[304, 306, 308] #[{ accessFlags := 25, nameIndex := 310, descriptorIndex := 194, attributes := #[] }, { accessFlags := 25, nameIndex := 312, descriptorIndex := 194, attributes := #[] }, { accessFlags := 25, nameIndex := 302, descriptorIndex := 303, attributes := #[] }, { accessFlags := 24, nameIndex := 19, descriptorIndex := 20, attributes := #[] }, { accessFlags := 24, nameIndex := 89, descriptorIndex := 86, attributes := #[] }, { accessFlags := 24, nameIndex := 85, descriptorIndex := 86, attributes := #[] }, { accessFlags := 18, nameIndex := 207, descriptorIndex := 194, attributes := #[] }, { accessFlags := 25, nameIndex := 316, descriptorIndex := 194, attributes := #[] }, { accessFlags := 25, nameIndex := 318, descriptorIndex := 194, attributes := #[] }, { accessFlags := 26, nameIndex := 320, descriptorIndex := 321, attributes := #[] }])
  fields := #[{ name := "MIN_VALUE", type := .int, accessFlags := 25, slot := 0, constantValue := 0 }, { name := "MAX_VALUE", type := .int, accessFlags := 25, slot := 1, constantValue := 0 }, { name := "TYPE", type := (.object "java/lang/Class"), accessFlags := 25, slot := 2, constantValue := 0 }, { name := "digits", type := (.array .char), accessFlags := 24, slot := 3, constantValue := 0 }, { name := "DigitTens", type := (.array .byte), accessFlags := 24, slot := 4, constantValue := 0 }, { name := "DigitOnes", type := (.array .byte), accessFlags := 24, slot := 5, constantValue := 0 }, { name := "value", type := .int, accessFlags := 18, slot := 0, constantValue := 0 }, { name := "SIZE", type := .int, accessFlags := 25, slot := 6, constantValue := 0 }, { name := "BYTES", type := .int, accessFlags := 25, slot := 7, constantValue := 0 }, { name := "serialVersionUID", type := .long, accessFlags := 26, slot := 8, constantValue := 0 }]
  methods := #[k9m0, k9m1, k9m2]
  instanceTypes := #[.int]
  staticTypes := #[.int, .int, (.object "java/lang/Class"), (.array .char), (.array .byte), (.array .byte), .int, .int, .long]
  resolved := Array.replicate 453 none
  statics := none }

def pool10 : Array CpInfo := pool [(2, .class_ 4), (1, u "java/lang/Object"), (0, u "<init>"), (0, u "()V"), (0, .class_ 8), (0, u "java/lang/Integer"), (7, .class_ 18), (1, u "java/lang/Integer$IntegerCache"), (0, u "$assertionsDisabled"), (0, u "Z"), (26, u "high"), (0, u "I"), (8, u "archivedCache"), (0, u "[Ljava/lang/Integer;"), (12, u "cache"), (0, u "low")] 27

def k10m0 : Method := { name := "<init>", desc := "()V", sig := { parameters := [], returnType := none }, accessFlags := 2, code := none }
/-- java/lang/Integer$IntegerCache -/
def k10 : Class := { plain "java/lang/Integer$IntegerCache" (some 0) with
  accessFlags := 48
  interfaces := #[]
  cf := some (fileOf pool10 16 #[.nestHost 7] #[{ accessFlags := 2, nameIndex := 5, descriptorIndex := 6, attributes := #[] }] 48 2 #[] #[{ accessFlags := 24, nameIndex := 72, descriptorIndex := 48, attributes := #[] }, { accessFlags := 24, nameIndex := 47, descriptorIndex := 48, attributes := #[] }, { accessFlags := 24, nameIndex := 71, descriptorIndex := 58, attributes := #[] }, { accessFlags := 8, nameIndex := 57, descriptorIndex := 58, attributes := #[] }, { accessFlags := 4120, nameIndex := 19, descriptorIndex := 20, attributes := #[] }])
  fields := #[{ name := "low", type := .int, accessFlags := 24, slot := 0, constantValue := 0 }, { name := "high", type := .int, accessFlags := 24, slot := 1, constantValue := 0 }, { name := "cache", type := (.array (.object "java/lang/Integer")), accessFlags := 24, slot := 2, constantValue := 0 }, { name := "archivedCache", type := (.array (.object "java/lang/Integer")), accessFlags := 8, slot := 3, constantValue := 0 }, { name := "$assertionsDisabled", type := .boolean, accessFlags := 4120, slot := 4, constantValue := 0 }]
  methods := #[k10m0]
  instanceTypes := #[]
  staticTypes := #[.int, .int, (.array (.object "java/lang/Integer")), (.array (.object "java/lang/Integer")), .boolean]
  resolved := Array.replicate 100 none
  statics := some 0 }

def pool11 : Array CpInfo := pool [(2, .class_ 4), (1, u "java/lang/CharSequence"), (42, .class_ 48), (0, u "java/lang/CharSequence$1CodePointIterator"), (10, .class_ 60), (0, u "java/lang/CharSequence$1CharIterator"), (5, .class_ 67), (0, u "java/lang/Object")] 63

/-- java/lang/CharSequence -/
def k11 : Class := { plain "java/lang/CharSequence" (some 0) with
  accessFlags := 1537
  interfaces := #[]
  cf := some (fileOf pool11 2 #[.nestMembers #[47, 59]] #[] 1537 66 #[] #[])
  fields := #[]
  methods := #[]
  instanceTypes := #[]
  staticTypes := #[]
  resolved := Array.replicate 131 none
  statics := none }

def pool12 : Array CpInfo := pool [(1, .methodref 2 3), (0, .class_ 4), (0, .nameAndType 5 6), (0, u "java/lang/Object"), (0, u "<init>"), (0, u "()V"), (2, .fieldref 10 11), (0, .class_ 12), (0, .nameAndType 13 14), (0, u "java/lang/String"), (0, u "value"), (0, u "[B"), (0, .fieldref 10 16), (0, .nameAndType 17 18), (0, u "coder"), (0, u "B"), (2, u "hash"), (0, u "I"), (2, u "hashIsZero"), (0, u "Z"), (0, .methodref 10 28), (0, .nameAndType 5 29), (0, u "([CIILjava/lang/Void;)V"), (8, .fieldref 10 39), (0, .nameAndType 40 26), (0, u "COMPACT_STRINGS"), (1, .class_ 44), (1, u "java/lang/StringUTF16"), (0, u "compress"), (1, .methodref 42 48), (0, .nameAndType 49 50), (0, u "coderFromArrayLen"), (0, u "([BI)B"), (56, .class_ 109), (1, u "java/lang/StringLatin1"), (32, u "()Z"), (34, .methodref 42 178), (0, .nameAndType 45 179), (0, u "([CII)[B"), (154, u "()I"), (0, .methodref 10 336), (0, .nameAndType 17 337), (0, u "()B"), (25, u "([BI)C"), (27, u "(II)V"), (35, u "(I)C"), (64, .methodref 10 493), (0, .nameAndType 494 142), (0, u "isLatin1"), (0, .methodref 107 496), (0, .nameAndType 497 363), (0, u "charAt"), (3, u "checkIndex"), (5, u "length"), (67, .class_ 576), (0, u "java/lang/CharSequence"), (22, u "CASE_INSENSITIVE_ORDER"), (0, u "Ljava/util/Comparator;"), (409, u "([C)V"), (42, .fieldref 1054 1055), (0, .class_ 1056), (0, .nameAndType 1057 1058), (0, u "jdk/internal/util/Preconditions"), (0, u "SIOOBE_FORMATTER"), (0, u "Ljava/util/function/BiFunction;"), (0, .methodref 1054 1060), (0, .nameAndType 501 1061), (0, u "(IILjava/util/function/BiFunction;)I"), (39, u "serialPersistentFields"), (0, u "[Ljava/io/ObjectStreamField;"), (0, .class_ 1104), (0, u "java/lang/String$CaseInsensitiveComparator"), (1, .class_ 1107), (0, u "java/io/Serializable"), (0, .class_ 1109), (0, u "java/lang/Comparable"), (0, .class_ 1111), (0, u "java/lang/constant/Constable"), (0, .class_ 1113), (0, u "java/lang/constant/ConstantDesc"), (2, u "serialVersionUID"), (0, u "J"), (3, u "REPL"), (0, u "C"), (2, u "LATIN1"), (1, u "UTF16")] 323

def k12m0 : Method := { name := "<init>", desc := "()V", sig := { parameters := [], returnType := none }, accessFlags := 1, code := none }
def k12c1 : Code := { maxStack := 5, maxLocals := 2, code := jdk_42_method_3_code, exceptionTable := #[], attributes := #[] }
def k12m1 : Method := { name := "<init>", desc := "([C)V", sig := { parameters := [(.array .char)], returnType := none }, accessFlags := 1, code := some k12c1 }
def k12c2 : Code := { maxStack := 2, maxLocals := 1, code := jdk_42_method_54_code, exceptionTable := #[], attributes := #[] }
def k12m2 : Method := { name := "length", desc := "()I", sig := { parameters := [], returnType := some .int }, accessFlags := 1, code := some k12c2 }
def k12c3 : Code := { maxStack := 2, maxLocals := 2, code := jdk_42_method_56_code, exceptionTable := #[], attributes := #[] }
def k12m3 : Method := { name := "charAt", desc := "(I)C", sig := { parameters := [.int], returnType := some .char }, accessFlags := 1, code := some k12c3 }
def k12c4 : Code := { maxStack := 4, maxLocals := 6, code := jdk_42_method_149_code, exceptionTable := #[], attributes := #[] }
def k12m4 : Method := { name := "<init>", desc := "([CIILjava/lang/Void;)V", sig := { parameters := [(.array .char), .int, .int, (.object "java/lang/Void")], returnType := none }, accessFlags := 2, code := some k12c4 }
def k12c5 : Code := { maxStack := 1, maxLocals := 1, code := jdk_42_method_152_code, exceptionTable := #[], attributes := #[] }
def k12m5 : Method := { name := "coder", desc := "()B", sig := { parameters := [], returnType := some .byte }, accessFlags := 0, code := some k12c5 }
def k12c6 : Code := { maxStack := 1, maxLocals := 1, code := jdk_42_method_154_code, exceptionTable := #[], attributes := #[] }
def k12m6 : Method := { name := "isLatin1", desc := "()Z", sig := { parameters := [], returnType := some .boolean }, accessFlags := 0, code := some k12c6 }
def k12c7 : Code := { maxStack := 3, maxLocals := 2, code := jdk_42_method_155_code, exceptionTable := #[], attributes := #[] }
def k12m7 : Method := { name := "checkIndex", desc := "(II)V", sig := { parameters := [.int, .int], returnType := none }, accessFlags := 8, code := some k12c7 }
/-- java/lang/String -/
def k12 : Class := { plain "java/lang/String" (some 0) with
  accessFlags := 49
  interfaces := #[4, 6, 11, 7, 8]
  cf := some (fileOf pool12 10 #[.nestMembers #[1103]] #[{ accessFlags := 1, nameIndex := 5, descriptorIndex := 6, attributes := #[] }, { accessFlags := 1, nameIndex := 5, descriptorIndex := 1010, attributes := #[] }, { accessFlags := 1, nameIndex := 507, descriptorIndex := 334, attributes := #[] }, { accessFlags := 1, nameIndex := 497, descriptorIndex := 427, attributes := #[] }, { accessFlags := 2, nameIndex := 5, descriptorIndex := 29, attributes := #[] }, { accessFlags := 0, nameIndex := 17, descriptorIndex := 337, attributes := #[] }, { accessFlags := 0, nameIndex := 494, descriptorIndex := 142, attributes := #[] }, { accessFlags := 8, nameIndex := 501, descriptorIndex := 391, attributes := #[] }] 49 2 #[1106, 1108, 575, 1110, 1112] #[{ accessFlags := 18, nameIndex := 13, descriptorIndex := 14, attributes := #[] }, { accessFlags := 18, nameIndex := 17, descriptorIndex := 18, attributes := #[] }, { accessFlags := 2, nameIndex := 21, descriptorIndex := 22, attributes := #[] }, { accessFlags := 2, nameIndex := 25, descriptorIndex := 26, attributes := #[] }, { accessFlags := 26, nameIndex := 1116, descriptorIndex := 1117, attributes := #[] }, { accessFlags := 24, nameIndex := 40, descriptorIndex := 26, attributes := #[] }, { accessFlags := 26, nameIndex := 1101, descriptorIndex := 1102, attributes := #[] }, { accessFlags := 26, nameIndex := 1121, descriptorIndex := 1122, attributes := #[] }, { accessFlags := 25, nameIndex := 599, descriptorIndex := 600, attributes := #[] }, { accessFlags := 24, nameIndex := 1125, descriptorIndex := 18, attributes := #[] }, { accessFlags := 24, nameIndex := 1127, descriptorIndex := 18, attributes := #[] }])
  fields := #[{ name := "value", type := (.array .byte), accessFlags := 18, slot := 0, constantValue := 0 }, { name := "coder", type := .byte, accessFlags := 18, slot := 1, constantValue := 0 }, { name := "hash", type := .int, accessFlags := 2, slot := 2, constantValue := 0 }, { name := "hashIsZero", type := .boolean, accessFlags := 2, slot := 3, constantValue := 0 }, { name := "serialVersionUID", type := .long, accessFlags := 26, slot := 0, constantValue := 0 }, { name := "COMPACT_STRINGS", type := .boolean, accessFlags := 24, slot := 1, constantValue := 0 }, { name := "serialPersistentFields", type := (.array (.object "java/io/ObjectStreamField")), accessFlags := 26, slot := 2, constantValue := 0 }, { name := "REPL", type := .char, accessFlags := 26, slot := 3, constantValue := 0 }, { name := "CASE_INSENSITIVE_ORDER", type := (.object "java/util/Comparator"), accessFlags := 25, slot := 4, constantValue := 0 }, { name := "LATIN1", type := .byte, accessFlags := 24, slot := 5, constantValue := 0 }, { name := "UTF16", type := .byte, accessFlags := 24, slot := 6, constantValue := 0 }]
  methods := #[k12m0, k12m1, k12m2, k12m3, k12m4, k12m5, k12m6, k12m7]
  instanceTypes := #[(.array .byte), .byte, .int, .boolean]
  staticTypes := #[.long, .boolean, (.array (.object "java/io/ObjectStreamField")), .char, (.object "java/util/Comparator"), .byte, .byte]
  resolved := Array.replicate 1451 none
  statics := some 1 }

def pool13 : Array CpInfo := pool [(6, .class_ 8), (1, u "java/lang/Object"), (0, u "<init>"), (0, u "()V"), (1, .class_ 14), (1, u "java/lang/StringUTF16"), (31, u "$assertionsDisabled"), (0, u "Z"), (13, u "HI_BYTE_SHIFT"), (0, u "I"), (2, u "LO_BYTE_SHIFT"), (49, .methodref 12 116), (0, .nameAndType 117 118), (0, u "compress"), (0, u "([CI[BII)I"), (3, u "([CII)[B"), (138, u "coderFromArrayLen"), (0, u "([BI)B"), (106, .class_ 371), (1, u "java/lang/StringUTF16$LinesSpliterator"), (58, u "MAX_LENGTH"), (196, .class_ 628), (0, u "java/lang/StringUTF16$CodePointsSpliterator"), (0, .class_ 630), (0, u "java/lang/StringUTF16$CharsSpliterator")] 4

def k13m0 : Method := { name := "<init>", desc := "()V", sig := { parameters := [], returnType := none }, accessFlags := 0, code := none }
def k13c1 : Code := { maxStack := 2, maxLocals := 2, code := jdk_52_method_15_code, exceptionTable := #[], attributes := #[] }
def k13m1 : Method := { name := "coderFromArrayLen", desc := "([BI)B", sig := { parameters := [(.array .byte), .int], returnType := some .byte }, accessFlags := 8, code := some k13c1 }
def k13c2 : Code := { maxStack := 5, maxLocals := 6, code := jdk_52_method_16_code, exceptionTable := #[], attributes := #[] }
def k13m2 : Method := { name := "compress", desc := "([CII)[B", sig := { parameters := [(.array .char), .int, .int], returnType := some (.array .byte) }, accessFlags := 9, code := some k13c2 }
def k13c3 : Code := { maxStack := 3, maxLocals := 7, code := jdk_52_method_21_code, exceptionTable := #[], attributes := #[] }
def k13m3 : Method := { name := "compress", desc := "([CI[BII)I", sig := { parameters := [(.array .char), .int, (.array .byte), .int, .int], returnType := some .int }, accessFlags := 9, code := some k13c3 }
/-- java/lang/StringUTF16 -/
def k13 : Class := { plain "java/lang/StringUTF16" (some 0) with
  accessFlags := 48
  interfaces := #[]
  cf := some (fileOf pool13 12 #[.nestMembers #[627, 629, 369]] #[{ accessFlags := 0, nameIndex := 9, descriptorIndex := 10, attributes := #[] }, { accessFlags := 8, nameIndex := 261, descriptorIndex := 262, attributes := #[] }, { accessFlags := 9, nameIndex := 117, descriptorIndex := 122, attributes := #[] }, { accessFlags := 9, nameIndex := 117, descriptorIndex := 118, attributes := #[] }] 48 6 #[] #[{ accessFlags := 26, nameIndex := 61, descriptorIndex := 62, attributes := #[] }, { accessFlags := 26, nameIndex := 65, descriptorIndex := 62, attributes := #[] }, { accessFlags := 24, nameIndex := 430, descriptorIndex := 62, attributes := #[] }, { accessFlags := 4120, nameIndex := 46, descriptorIndex := 47, attributes := #[] }])
  fields := #[{ name := "HI_BYTE_SHIFT", type := .int, accessFlags := 26, slot := 0, constantValue := 0 }, { name := "LO_BYTE_SHIFT", type := .int, accessFlags := 26, slot := 1, constantValue := 0 }, { name := "MAX_LENGTH", type := .int, accessFlags := 24, slot := 2, constantValue := 0 }, { name := "$assertionsDisabled", type := .boolean, accessFlags := 4120, slot := 3, constantValue := 0 }]
  methods := #[k13m0, k13m1, k13m2, k13m3]
  instanceTypes := #[]
  staticTypes := #[.int, .int, .int, .boolean]
  resolved := Array.replicate 635 none
  statics := none }

def pool14 : Array CpInfo := pool [(1, .class_ 2), (0, u "java/lang/String"), (1, .class_ 6), (1, u "java/lang/Object"), (0, u "<init>"), (0, u "()V"), (0, .methodref 1 10), (0, .nameAndType 11 12), (0, u "checkIndex"), (0, u "(II)V"), (1, .class_ 16), (1, u "java/lang/StringLatin1"), (36, u "([BI)C"), (67, u "$assertionsDisabled"), (0, u "Z"), (98, .class_ 223), (1, u "java/lang/StringLatin1$LinesSpliterator"), (28, u "charAt"), (137, .class_ 391), (0, u "java/lang/StringLatin1$CharsSpliterator")] 3

def k14m0 : Method := { name := "<init>", desc := "()V", sig := { parameters := [], returnType := none }, accessFlags := 0, code := none }
def k14c1 : Code := { maxStack := 2, maxLocals := 2, code := jdk_43_method_2_code, exceptionTable := #[], attributes := #[] }
def k14m1 : Method := { name := "charAt", desc := "([BI)C", sig := { parameters := [(.array .byte), .int], returnType := some .char }, accessFlags := 9, code := some k14c1 }
/-- java/lang/StringLatin1 -/
def k14 : Class := { plain "java/lang/StringLatin1" (some 0) with
  accessFlags := 48
  interfaces := #[]
  cf := some (fileOf pool14 14 #[.nestMembers #[390, 221]] #[{ accessFlags := 0, nameIndex := 7, descriptorIndex := 8, attributes := #[] }, { accessFlags := 9, nameIndex := 252, descriptorIndex := 53, attributes := #[] }] 48 4 #[] #[{ accessFlags := 4120, nameIndex := 121, descriptorIndex := 122, attributes := #[] }])
  fields := #[{ name := "$assertionsDisabled", type := .boolean, accessFlags := 4120, slot := 0, constantValue := 0 }]
  methods := #[k14m0, k14m1]
  instanceTypes := #[]
  staticTypes := #[.boolean]
  resolved := Array.replicate 395 none
  statics := none }

def pool15 : Array CpInfo := pool [(2, .class_ 4), (1, u "java/lang/Object"), (0, u "<init>"), (0, u "()V"), (17, .class_ 26), (1, u "jdk/internal/util/Preconditions"), (6, u "checkIndex"), (21, .class_ 56), (0, u "jdk/internal/util/Preconditions$4"), (57, .class_ 115), (0, u "jdk/internal/util/Preconditions$1"), (7, u "SIOOBE_FORMATTER"), (0, u "Ljava/util/function/BiFunction;"), (0, .class_ 126), (0, u "jdk/internal/util/Preconditions$2"), (3, u "AIOOBE_FORMATTER"), (0, .class_ 132), (0, u "jdk/internal/util/Preconditions$3"), (3, u "IOOBE_FORMATTER"), (41, u "(IILjava/util/function/BiFunction;)I")] 15

def k15m0 : Method := { name := "<init>", desc := "()V", sig := { parameters := [], returnType := none }, accessFlags := 1, code := none }
def k15c1 : Code := { maxStack := 3, maxLocals := 3, code := jdk_41_method_11_code, exceptionTable := #[], attributes := #[] }
def k15m1 : Method := { name := "checkIndex", desc := "(IILjava/util/function/BiFunction;)I", sig := { parameters := [.int, .int, (.object "java/util/function/BiFunction")], returnType := some .int }, accessFlags := 9, code := some k15c1 }
/-- jdk/internal/util/Preconditions -/
def k15 : Class := { plain "jdk/internal/util/Preconditions" (some 0) with
  accessFlags := 33
  interfaces := #[]
  cf := some (fileOf pool15 24 #[.nestMembers #[55, 131, 125, 114]] #[{ accessFlags := 1, nameIndex := 5, descriptorIndex := 6, attributes := #[] }, { accessFlags := 9, nameIndex := 33, descriptorIndex := 178, attributes := #[] }] 33 2 #[] #[{ accessFlags := 25, nameIndex := 123, descriptorIndex := 124, attributes := #[] }, { accessFlags := 25, nameIndex := 130, descriptorIndex := 124, attributes := #[] }, { accessFlags := 25, nameIndex := 136, descriptorIndex := 124, attributes := #[] }])
  fields := #[{ name := "SIOOBE_FORMATTER", type := (.object "java/util/function/BiFunction"), accessFlags := 25, slot := 0, constantValue := 0 }, { name := "AIOOBE_FORMATTER", type := (.object "java/util/function/BiFunction"), accessFlags := 25, slot := 1, constantValue := 0 }, { name := "IOOBE_FORMATTER", type := (.object "java/util/function/BiFunction"), accessFlags := 25, slot := 2, constantValue := 0 }]
  methods := #[k15m0, k15m1]
  instanceTypes := #[]
  staticTypes := #[(.object "java/util/function/BiFunction"), (.object "java/util/function/BiFunction"), (.object "java/util/function/BiFunction")]
  resolved := Array.replicate 194 none
  statics := some 2 }

def pool16 : Array CpInfo := pool [(9, u "<init>"), (6, .class_ 18), (1, u "java/lang/Object"), (0, u "()V"), (1, .class_ 23), (1, u "jdk/internal/util/ArraysSupport"), (0, u "LOG2_ARRAY_LONG_INDEX_SCALE"), (0, u "I"), (2, u "U"), (0, u "Ljdk/internal/misc/Unsafe;"), (8, u "BIG_ENDIAN"), (0, u "Z"), (8, u "LOG2_BYTE_BIT_SIZE"), (4, u "LOG2_ARRAY_INT_INDEX_SCALE"), (54, u "JLA"), (0, u "Ljdk/internal/access/JavaLangAccess;"), (11, u "LOG2_ARRAY_BOOLEAN_INDEX_SCALE"), (9, u "LOG2_ARRAY_BYTE_INDEX_SCALE"), (5, u "LOG2_ARRAY_CHAR_INDEX_SCALE"), (5, u "LOG2_ARRAY_SHORT_INDEX_SCALE"), (18, u "LOG2_ARRAY_FLOAT_INDEX_SCALE"), (24, u "LOG2_ARRAY_DOUBLE_INDEX_SCALE"), (89, u "T_BOOLEAN"), (2, u "T_CHAR"), (1, u "T_FLOAT"), (1, u "T_DOUBLE"), (1, u "T_BYTE"), (1, u "T_SHORT"), (1, u "T_INT"), (1, u "T_LONG"), (1, u "SOFT_MAX_ARRAY_LENGTH")] 83

def k16m0 : Method := { name := "<init>", desc := "()V", sig := { parameters := [], returnType := none }, accessFlags := 2, code := none }
/-- jdk/internal/util/ArraysSupport -/
def k16 : Class := { plain "jdk/internal/util/ArraysSupport" (some 0) with
  accessFlags := 33
  interfaces := #[]
  cf := some (fileOf pool16 21 #[] #[{ accessFlags := 2, nameIndex := 9, descriptorIndex := 19, attributes := #[] }] 33 16 #[] #[{ accessFlags := 24, nameIndex := 28, descriptorIndex := 29, attributes := #[] }, { accessFlags := 26, nameIndex := 38, descriptorIndex := 39, attributes := #[] }, { accessFlags := 25, nameIndex := 121, descriptorIndex := 25, attributes := #[] }, { accessFlags := 25, nameIndex := 131, descriptorIndex := 25, attributes := #[] }, { accessFlags := 25, nameIndex := 137, descriptorIndex := 25, attributes := #[] }, { accessFlags := 25, nameIndex := 143, descriptorIndex := 25, attributes := #[] }, { accessFlags := 25, nameIndex := 53, descriptorIndex := 25, attributes := #[] }, { accessFlags := 25, nameIndex := 24, descriptorIndex := 25, attributes := #[] }, { accessFlags := 25, nameIndex := 162, descriptorIndex := 25, attributes := #[] }, { accessFlags := 25, nameIndex := 187, descriptorIndex := 25, attributes := #[] }, { accessFlags := 26, nameIndex := 48, descriptorIndex := 25, attributes := #[] }, { accessFlags := 25, nameIndex := 277, descriptorIndex := 25, attributes := #[] }, { accessFlags := 25, nameIndex := 280, descriptorIndex := 25, attributes := #[] }, { accessFlags := 25, nameIndex := 282, descriptorIndex := 25, attributes := #[] }, { accessFlags := 25, nameIndex := 284, descriptorIndex := 25, attributes := #[] }, { accessFlags := 25, nameIndex := 286, descriptorIndex := 25, attributes := #[] }, { accessFlags := 25, nameIndex := 288, descriptorIndex := 25, attributes := #[] }, { accessFlags := 25, nameIndex := 290, descriptorIndex := 25, attributes := #[] }, { accessFlags := 25, nameIndex := 292, descriptorIndex := 25, attributes := #[] }, { accessFlags := 26, nameIndex := 108, descriptorIndex := 109, attributes := #[] }, { accessFlags := 25, nameIndex := 294, descriptorIndex := 25, attributes := #[] }])
  fields := #[{ name := "U", type := (.object "jdk/internal/misc/Unsafe"), accessFlags := 24, slot := 0, constantValue := 0 }, { name := "BIG_ENDIAN", type := .boolean, accessFlags := 26, slot := 1, constantValue := 0 }, { name := "LOG2_ARRAY_BOOLEAN_INDEX_SCALE", type := .int, accessFlags := 25, slot := 2, constantValue := 0 }, { name := "LOG2_ARRAY_BYTE_INDEX_SCALE", type := .int, accessFlags := 25, slot := 3, constantValue := 0 }, { name := "LOG2_ARRAY_CHAR_INDEX_SCALE", type := .int, accessFlags := 25, slot := 4, constantValue := 0 }, { name := "LOG2_ARRAY_SHORT_INDEX_SCALE", type := .int, accessFlags := 25, slot := 5, constantValue := 0 }, { name := "LOG2_ARRAY_INT_INDEX_SCALE", type := .int, accessFlags := 25, slot := 6, constantValue := 0 }, { name := "LOG2_ARRAY_LONG_INDEX_SCALE", type := .int, accessFlags := 25, slot := 7, constantValue := 0 }, { name := "LOG2_ARRAY_FLOAT_INDEX_SCALE", type := .int, accessFlags := 25, slot := 8, constantValue := 0 }, { name := "LOG2_ARRAY_DOUBLE_INDEX_SCALE", type := .int, accessFlags := 25, slot := 9, constantValue := 0 }, { name := "LOG2_BYTE_BIT_SIZE", type := .int, accessFlags := 26, slot := 10, constantValue := 0 }, { name := "T_BOOLEAN", type := .int, accessFlags := 25, slot := 11, constantValue := 0 }, { name := "T_CHAR", type := .int, accessFlags := 25, slot := 12, constantValue := 0 }, { name := "T_FLOAT", type := .int, accessFlags := 25, slot := 13, constantValue := 0 }, { name := "T_DOUBLE", type := .int, accessFlags := 25, slot := 14, constantValue := 0 }, { name := "T_BYTE", type := .int, accessFlags := 25, slot := 15, constantValue := 0 }, { name := "T_SHORT", type := .int, accessFlags := 25, slot := 16, constantValue := 0 }, { name := "T_INT", type := .int, accessFlags := 25, slot := 17, constantValue := 0 }, { name := "T_LONG", type := .int, accessFlags := 25, slot := 18, constantValue := 0 }, { name := "JLA", type := (.object "jdk/internal/access/JavaLangAccess"), accessFlags := 26, slot := 19, constantValue := 0 }, { name := "SOFT_MAX_ARRAY_LENGTH", type := .int, accessFlags := 25, slot := 20, constantValue := 0 }]
  methods := #[k16m0]
  instanceTypes := #[]
  staticTypes := #[(.object "jdk/internal/misc/Unsafe"), .boolean, .int, .int, .int, .int, .int, .int, .int, .int, .int, .int, .int, .int, .int, .int, .int, .int, .int, (.object "jdk/internal/access/JavaLangAccess"), .int]
  resolved := Array.replicate 378 none
  statics := none }

def pool17 : Array CpInfo := pool [(1, u "java/lang/Cloneable"), (0, .class_ 1), (0, u "java/lang/Object"), (0, .class_ 3)] 3

/-- java/lang/Cloneable -/
def k17 : Class := { plain "java/lang/Cloneable" (some 0) with
  accessFlags := 1537
  interfaces := #[]
  cf := some (fileOf pool17 2 #[] #[] 1537 4 #[] #[])
  fields := #[]
  methods := #[]
  instanceTypes := #[]
  staticTypes := #[]
  resolved := Array.replicate 8 none
  statics := none }

/-- the primitive byte -/
def k18 : Class := { plain "byte" none with kind := .primitive 'B', accessFlags := 0x411 }
/-- [B -/
def k19 : Class := { plain "[B" (some 0) with kind := .array 18 .byte, interfaces := #[17, 4], accessFlags := 1041 }

/-- the primitive char -/
def k20 : Class := { plain "char" none with kind := .primitive 'C', accessFlags := 0x411 }
/-- [C -/
def k21 : Class := { plain "[C" (some 0) with kind := .array 20 .char, interfaces := #[17, 4], accessFlags := 1041 }

/-- the primitive int -/
def k22 : Class := { plain "int" none with kind := .primitive 'I', accessFlags := 0x411 }
/-- [I -/
def k23 : Class := { plain "[I" (some 0) with kind := .array 22 .int, interfaces := #[17, 4], accessFlags := 1041 }

/-- [Ljava/lang/Integer; -/
def k24 : Class := { plain "[Ljava/lang/Integer;" (some 0) with kind := .array 9 (.object "java/lang/Integer"), interfaces := #[17, 4], accessFlags := 1041 }

def heap : Heap := #[{ cls := 10, slots := #[.int 0, .int 127, .ref 3, .null, .int 0], vm := .statics 10 },
  { cls := 12, slots := #[.long 0, .int 1, .null, .int 0, .null, .int 0, .int 0], vm := .statics 12 },
  { cls := 15, slots := #[.null, .null, .null], vm := .statics 15 },
  { cls := 24, slots := #[.ref 4, .ref 5, .ref 6, .ref 7, .ref 8, .ref 9, .ref 10, .ref 11, .ref 12, .ref 13, .ref 14, .ref 15, .ref 16, .ref 17, .ref 18, .ref 19, .ref 20, .ref 21, .ref 22, .ref 23, .ref 24, .ref 25, .ref 26, .ref 27, .ref 28, .ref 29, .ref 30, .ref 31, .ref 32, .ref 33, .ref 34, .ref 35, .ref 36, .ref 37, .ref 38, .ref 39, .ref 40, .ref 41, .ref 42, .ref 43, .ref 44, .ref 45, .ref 46, .ref 47, .ref 48, .ref 49, .ref 50, .ref 51, .ref 52, .ref 53, .ref 54, .ref 55, .ref 56, .ref 57, .ref 58, .ref 59, .ref 60, .ref 61, .ref 62, .ref 63, .ref 64, .ref 65, .ref 66, .ref 67, .ref 68, .ref 69, .ref 70, .ref 71, .ref 72, .ref 73, .ref 74, .ref 75, .ref 76, .ref 77, .ref 78, .ref 79, .ref 80, .ref 81, .ref 82, .ref 83, .ref 84, .ref 85, .ref 86, .ref 87, .ref 88, .ref 89, .ref 90, .ref 91, .ref 92, .ref 93, .ref 94, .ref 95, .ref 96, .ref 97, .ref 98, .ref 99, .ref 100, .ref 101, .ref 102, .ref 103, .ref 104, .ref 105, .ref 106, .ref 107, .ref 108, .ref 109, .ref 110, .ref 111, .ref 112, .ref 113, .ref 114, .ref 115, .ref 116, .ref 117, .ref 118, .ref 119, .ref 120, .ref 121, .ref 122, .ref 123, .ref 124, .ref 125, .ref 126, .ref 127, .ref 128, .ref 129, .ref 130, .ref 131, .ref 132, .ref 133, .ref 134, .ref 135, .ref 136, .ref 137, .ref 138, .ref 139, .ref 140, .ref 141, .ref 142, .ref 143, .ref 144, .ref 145, .ref 146, .ref 147, .ref 148, .ref 149, .ref 150, .ref 151, .ref 152, .ref 153, .ref 154, .ref 155, .ref 156, .ref 157, .ref 158, .ref 159, .ref 160, .ref 161, .ref 162, .ref 163, .ref 164, .ref 165, .ref 166, .ref 167, .ref 168, .ref 169, .ref 170, .ref 171, .ref 172, .ref 173, .ref 174, .ref 175, .ref 176, .ref 177, .ref 178, .ref 179, .ref 180, .ref 181, .ref 182, .ref 183, .ref 184, .ref 185, .ref 186, .ref 187, .ref 188, .ref 189, .ref 190, .ref 191, .ref 192, .ref 193, .ref 194, .ref 195, .ref 196, .ref 197, .ref 198, .ref 199, .ref 200, .ref 201, .ref 202, .ref 203, .ref 204, .ref 205, .ref 206, .ref 207, .ref 208, .ref 209, .ref 210, .ref 211, .ref 212, .ref 213, .ref 214, .ref 215, .ref 216, .ref 217, .ref 218, .ref 219, .ref 220, .ref 221, .ref 222, .ref 223, .ref 224, .ref 225, .ref 226, .ref 227, .ref 228, .ref 229, .ref 230, .ref 231, .ref 232, .ref 233, .ref 234, .ref 235, .ref 236, .ref 237, .ref 238, .ref 239, .ref 240, .ref 241, .ref 242, .ref 243, .ref 244, .ref 245, .ref 246, .ref 247, .ref 248, .ref 249, .ref 250, .ref 251, .ref 252, .ref 253, .ref 254, .ref 255, .ref 256, .ref 257, .ref 258, .ref 259], vm := .none },
  { cls := 9, slots := #[.int (-128)], vm := .none },
  { cls := 9, slots := #[.int (-127)], vm := .none },
  { cls := 9, slots := #[.int (-126)], vm := .none },
  { cls := 9, slots := #[.int (-125)], vm := .none },
  { cls := 9, slots := #[.int (-124)], vm := .none },
  { cls := 9, slots := #[.int (-123)], vm := .none },
  { cls := 9, slots := #[.int (-122)], vm := .none },
  { cls := 9, slots := #[.int (-121)], vm := .none },
  { cls := 9, slots := #[.int (-120)], vm := .none },
  { cls := 9, slots := #[.int (-119)], vm := .none },
  { cls := 9, slots := #[.int (-118)], vm := .none },
  { cls := 9, slots := #[.int (-117)], vm := .none },
  { cls := 9, slots := #[.int (-116)], vm := .none },
  { cls := 9, slots := #[.int (-115)], vm := .none },
  { cls := 9, slots := #[.int (-114)], vm := .none },
  { cls := 9, slots := #[.int (-113)], vm := .none },
  { cls := 9, slots := #[.int (-112)], vm := .none },
  { cls := 9, slots := #[.int (-111)], vm := .none },
  { cls := 9, slots := #[.int (-110)], vm := .none },
  { cls := 9, slots := #[.int (-109)], vm := .none },
  { cls := 9, slots := #[.int (-108)], vm := .none },
  { cls := 9, slots := #[.int (-107)], vm := .none },
  { cls := 9, slots := #[.int (-106)], vm := .none },
  { cls := 9, slots := #[.int (-105)], vm := .none },
  { cls := 9, slots := #[.int (-104)], vm := .none },
  { cls := 9, slots := #[.int (-103)], vm := .none },
  { cls := 9, slots := #[.int (-102)], vm := .none },
  { cls := 9, slots := #[.int (-101)], vm := .none },
  { cls := 9, slots := #[.int (-100)], vm := .none },
  { cls := 9, slots := #[.int (-99)], vm := .none },
  { cls := 9, slots := #[.int (-98)], vm := .none },
  { cls := 9, slots := #[.int (-97)], vm := .none },
  { cls := 9, slots := #[.int (-96)], vm := .none },
  { cls := 9, slots := #[.int (-95)], vm := .none },
  { cls := 9, slots := #[.int (-94)], vm := .none },
  { cls := 9, slots := #[.int (-93)], vm := .none },
  { cls := 9, slots := #[.int (-92)], vm := .none },
  { cls := 9, slots := #[.int (-91)], vm := .none },
  { cls := 9, slots := #[.int (-90)], vm := .none },
  { cls := 9, slots := #[.int (-89)], vm := .none },
  { cls := 9, slots := #[.int (-88)], vm := .none },
  { cls := 9, slots := #[.int (-87)], vm := .none },
  { cls := 9, slots := #[.int (-86)], vm := .none },
  { cls := 9, slots := #[.int (-85)], vm := .none },
  { cls := 9, slots := #[.int (-84)], vm := .none },
  { cls := 9, slots := #[.int (-83)], vm := .none },
  { cls := 9, slots := #[.int (-82)], vm := .none },
  { cls := 9, slots := #[.int (-81)], vm := .none },
  { cls := 9, slots := #[.int (-80)], vm := .none },
  { cls := 9, slots := #[.int (-79)], vm := .none },
  { cls := 9, slots := #[.int (-78)], vm := .none },
  { cls := 9, slots := #[.int (-77)], vm := .none },
  { cls := 9, slots := #[.int (-76)], vm := .none },
  { cls := 9, slots := #[.int (-75)], vm := .none },
  { cls := 9, slots := #[.int (-74)], vm := .none },
  { cls := 9, slots := #[.int (-73)], vm := .none },
  { cls := 9, slots := #[.int (-72)], vm := .none },
  { cls := 9, slots := #[.int (-71)], vm := .none },
  { cls := 9, slots := #[.int (-70)], vm := .none },
  { cls := 9, slots := #[.int (-69)], vm := .none },
  { cls := 9, slots := #[.int (-68)], vm := .none },
  { cls := 9, slots := #[.int (-67)], vm := .none },
  { cls := 9, slots := #[.int (-66)], vm := .none },
  { cls := 9, slots := #[.int (-65)], vm := .none },
  { cls := 9, slots := #[.int (-64)], vm := .none },
  { cls := 9, slots := #[.int (-63)], vm := .none },
  { cls := 9, slots := #[.int (-62)], vm := .none },
  { cls := 9, slots := #[.int (-61)], vm := .none },
  { cls := 9, slots := #[.int (-60)], vm := .none },
  { cls := 9, slots := #[.int (-59)], vm := .none },
  { cls := 9, slots := #[.int (-58)], vm := .none },
  { cls := 9, slots := #[.int (-57)], vm := .none },
  { cls := 9, slots := #[.int (-56)], vm := .none },
  { cls := 9, slots := #[.int (-55)], vm := .none },
  { cls := 9, slots := #[.int (-54)], vm := .none },
  { cls := 9, slots := #[.int (-53)], vm := .none },
  { cls := 9, slots := #[.int (-52)], vm := .none },
  { cls := 9, slots := #[.int (-51)], vm := .none },
  { cls := 9, slots := #[.int (-50)], vm := .none },
  { cls := 9, slots := #[.int (-49)], vm := .none },
  { cls := 9, slots := #[.int (-48)], vm := .none },
  { cls := 9, slots := #[.int (-47)], vm := .none },
  { cls := 9, slots := #[.int (-46)], vm := .none },
  { cls := 9, slots := #[.int (-45)], vm := .none },
  { cls := 9, slots := #[.int (-44)], vm := .none },
  { cls := 9, slots := #[.int (-43)], vm := .none },
  { cls := 9, slots := #[.int (-42)], vm := .none },
  { cls := 9, slots := #[.int (-41)], vm := .none },
  { cls := 9, slots := #[.int (-40)], vm := .none },
  { cls := 9, slots := #[.int (-39)], vm := .none },
  { cls := 9, slots := #[.int (-38)], vm := .none },
  { cls := 9, slots := #[.int (-37)], vm := .none },
  { cls := 9, slots := #[.int (-36)], vm := .none },
  { cls := 9, slots := #[.int (-35)], vm := .none },
  { cls := 9, slots := #[.int (-34)], vm := .none },
  { cls := 9, slots := #[.int (-33)], vm := .none },
  { cls := 9, slots := #[.int (-32)], vm := .none },
  { cls := 9, slots := #[.int (-31)], vm := .none },
  { cls := 9, slots := #[.int (-30)], vm := .none },
  { cls := 9, slots := #[.int (-29)], vm := .none },
  { cls := 9, slots := #[.int (-28)], vm := .none },
  { cls := 9, slots := #[.int (-27)], vm := .none },
  { cls := 9, slots := #[.int (-26)], vm := .none },
  { cls := 9, slots := #[.int (-25)], vm := .none },
  { cls := 9, slots := #[.int (-24)], vm := .none },
  { cls := 9, slots := #[.int (-23)], vm := .none },
  { cls := 9, slots := #[.int (-22)], vm := .none },
  { cls := 9, slots := #[.int (-21)], vm := .none },
  { cls := 9, slots := #[.int (-20)], vm := .none },
  { cls := 9, slots := #[.int (-19)], vm := .none },
  { cls := 9, slots := #[.int (-18)], vm := .none },
  { cls := 9, slots := #[.int (-17)], vm := .none },
  { cls := 9, slots := #[.int (-16)], vm := .none },
  { cls := 9, slots := #[.int (-15)], vm := .none },
  { cls := 9, slots := #[.int (-14)], vm := .none },
  { cls := 9, slots := #[.int (-13)], vm := .none },
  { cls := 9, slots := #[.int (-12)], vm := .none },
  { cls := 9, slots := #[.int (-11)], vm := .none },
  { cls := 9, slots := #[.int (-10)], vm := .none },
  { cls := 9, slots := #[.int (-9)], vm := .none },
  { cls := 9, slots := #[.int (-8)], vm := .none },
  { cls := 9, slots := #[.int (-7)], vm := .none },
  { cls := 9, slots := #[.int (-6)], vm := .none },
  { cls := 9, slots := #[.int (-5)], vm := .none },
  { cls := 9, slots := #[.int (-4)], vm := .none },
  { cls := 9, slots := #[.int (-3)], vm := .none },
  { cls := 9, slots := #[.int (-2)], vm := .none },
  { cls := 9, slots := #[.int (-1)], vm := .none },
  { cls := 9, slots := #[.int (0)], vm := .none },
  { cls := 9, slots := #[.int (1)], vm := .none },
  { cls := 9, slots := #[.int (2)], vm := .none },
  { cls := 9, slots := #[.int (3)], vm := .none },
  { cls := 9, slots := #[.int (4)], vm := .none },
  { cls := 9, slots := #[.int (5)], vm := .none },
  { cls := 9, slots := #[.int (6)], vm := .none },
  { cls := 9, slots := #[.int (7)], vm := .none },
  { cls := 9, slots := #[.int (8)], vm := .none },
  { cls := 9, slots := #[.int (9)], vm := .none },
  { cls := 9, slots := #[.int (10)], vm := .none },
  { cls := 9, slots := #[.int (11)], vm := .none },
  { cls := 9, slots := #[.int (12)], vm := .none },
  { cls := 9, slots := #[.int (13)], vm := .none },
  { cls := 9, slots := #[.int (14)], vm := .none },
  { cls := 9, slots := #[.int (15)], vm := .none },
  { cls := 9, slots := #[.int (16)], vm := .none },
  { cls := 9, slots := #[.int (17)], vm := .none },
  { cls := 9, slots := #[.int (18)], vm := .none },
  { cls := 9, slots := #[.int (19)], vm := .none },
  { cls := 9, slots := #[.int (20)], vm := .none },
  { cls := 9, slots := #[.int (21)], vm := .none },
  { cls := 9, slots := #[.int (22)], vm := .none },
  { cls := 9, slots := #[.int (23)], vm := .none },
  { cls := 9, slots := #[.int (24)], vm := .none },
  { cls := 9, slots := #[.int (25)], vm := .none },
  { cls := 9, slots := #[.int (26)], vm := .none },
  { cls := 9, slots := #[.int (27)], vm := .none },
  { cls := 9, slots := #[.int (28)], vm := .none },
  { cls := 9, slots := #[.int (29)], vm := .none },
  { cls := 9, slots := #[.int (30)], vm := .none },
  { cls := 9, slots := #[.int (31)], vm := .none },
  { cls := 9, slots := #[.int (32)], vm := .none },
  { cls := 9, slots := #[.int (33)], vm := .none },
  { cls := 9, slots := #[.int (34)], vm := .none },
  { cls := 9, slots := #[.int (35)], vm := .none },
  { cls := 9, slots := #[.int (36)], vm := .none },
  { cls := 9, slots := #[.int (37)], vm := .none },
  { cls := 9, slots := #[.int (38)], vm := .none },
  { cls := 9, slots := #[.int (39)], vm := .none },
  { cls := 9, slots := #[.int (40)], vm := .none },
  { cls := 9, slots := #[.int (41)], vm := .none },
  { cls := 9, slots := #[.int (42)], vm := .none },
  { cls := 9, slots := #[.int (43)], vm := .none },
  { cls := 9, slots := #[.int (44)], vm := .none },
  { cls := 9, slots := #[.int (45)], vm := .none },
  { cls := 9, slots := #[.int (46)], vm := .none },
  { cls := 9, slots := #[.int (47)], vm := .none },
  { cls := 9, slots := #[.int (48)], vm := .none },
  { cls := 9, slots := #[.int (49)], vm := .none },
  { cls := 9, slots := #[.int (50)], vm := .none },
  { cls := 9, slots := #[.int (51)], vm := .none },
  { cls := 9, slots := #[.int (52)], vm := .none },
  { cls := 9, slots := #[.int (53)], vm := .none },
  { cls := 9, slots := #[.int (54)], vm := .none },
  { cls := 9, slots := #[.int (55)], vm := .none },
  { cls := 9, slots := #[.int (56)], vm := .none },
  { cls := 9, slots := #[.int (57)], vm := .none },
  { cls := 9, slots := #[.int (58)], vm := .none },
  { cls := 9, slots := #[.int (59)], vm := .none },
  { cls := 9, slots := #[.int (60)], vm := .none },
  { cls := 9, slots := #[.int (61)], vm := .none },
  { cls := 9, slots := #[.int (62)], vm := .none },
  { cls := 9, slots := #[.int (63)], vm := .none },
  { cls := 9, slots := #[.int (64)], vm := .none },
  { cls := 9, slots := #[.int (65)], vm := .none },
  { cls := 9, slots := #[.int (66)], vm := .none },
  { cls := 9, slots := #[.int (67)], vm := .none },
  { cls := 9, slots := #[.int (68)], vm := .none },
  { cls := 9, slots := #[.int (69)], vm := .none },
  { cls := 9, slots := #[.int (70)], vm := .none },
  { cls := 9, slots := #[.int (71)], vm := .none },
  { cls := 9, slots := #[.int (72)], vm := .none },
  { cls := 9, slots := #[.int (73)], vm := .none },
  { cls := 9, slots := #[.int (74)], vm := .none },
  { cls := 9, slots := #[.int (75)], vm := .none },
  { cls := 9, slots := #[.int (76)], vm := .none },
  { cls := 9, slots := #[.int (77)], vm := .none },
  { cls := 9, slots := #[.int (78)], vm := .none },
  { cls := 9, slots := #[.int (79)], vm := .none },
  { cls := 9, slots := #[.int (80)], vm := .none },
  { cls := 9, slots := #[.int (81)], vm := .none },
  { cls := 9, slots := #[.int (82)], vm := .none },
  { cls := 9, slots := #[.int (83)], vm := .none },
  { cls := 9, slots := #[.int (84)], vm := .none },
  { cls := 9, slots := #[.int (85)], vm := .none },
  { cls := 9, slots := #[.int (86)], vm := .none },
  { cls := 9, slots := #[.int (87)], vm := .none },
  { cls := 9, slots := #[.int (88)], vm := .none },
  { cls := 9, slots := #[.int (89)], vm := .none },
  { cls := 9, slots := #[.int (90)], vm := .none },
  { cls := 9, slots := #[.int (91)], vm := .none },
  { cls := 9, slots := #[.int (92)], vm := .none },
  { cls := 9, slots := #[.int (93)], vm := .none },
  { cls := 9, slots := #[.int (94)], vm := .none },
  { cls := 9, slots := #[.int (95)], vm := .none },
  { cls := 9, slots := #[.int (96)], vm := .none },
  { cls := 9, slots := #[.int (97)], vm := .none },
  { cls := 9, slots := #[.int (98)], vm := .none },
  { cls := 9, slots := #[.int (99)], vm := .none },
  { cls := 9, slots := #[.int (100)], vm := .none },
  { cls := 9, slots := #[.int (101)], vm := .none },
  { cls := 9, slots := #[.int (102)], vm := .none },
  { cls := 9, slots := #[.int (103)], vm := .none },
  { cls := 9, slots := #[.int (104)], vm := .none },
  { cls := 9, slots := #[.int (105)], vm := .none },
  { cls := 9, slots := #[.int (106)], vm := .none },
  { cls := 9, slots := #[.int (107)], vm := .none },
  { cls := 9, slots := #[.int (108)], vm := .none },
  { cls := 9, slots := #[.int (109)], vm := .none },
  { cls := 9, slots := #[.int (110)], vm := .none },
  { cls := 9, slots := #[.int (111)], vm := .none },
  { cls := 9, slots := #[.int (112)], vm := .none },
  { cls := 9, slots := #[.int (113)], vm := .none },
  { cls := 9, slots := #[.int (114)], vm := .none },
  { cls := 9, slots := #[.int (115)], vm := .none },
  { cls := 9, slots := #[.int (116)], vm := .none },
  { cls := 9, slots := #[.int (117)], vm := .none },
  { cls := 9, slots := #[.int (118)], vm := .none },
  { cls := 9, slots := #[.int (119)], vm := .none },
  { cls := 9, slots := #[.int (120)], vm := .none },
  { cls := 9, slots := #[.int (121)], vm := .none },
  { cls := 9, slots := #[.int (122)], vm := .none },
  { cls := 9, slots := #[.int (123)], vm := .none },
  { cls := 9, slots := #[.int (124)], vm := .none },
  { cls := 9, slots := #[.int (125)], vm := .none },
  { cls := 9, slots := #[.int (126)], vm := .none },
  { cls := 9, slots := #[.int (127)], vm := .none }]
def classes : Array Class := #[k0, k1, k2, k3, k4, k5, k6, k7, k8, k9, k10, k11, k12, k13, k14, k15, k16, k17, k18, k19, k20, k21, k22, k23, k24]
def interned : List (Array UInt16 × Addr) := []
def slotsUsed : Nat := 527
def theMethod : MethodId := ⟨1, 1⟩
def args0 : Array Value := #[.int 0, .int 5, .int 7, .int 9]
def aboutOver (below : List Frame) : State where
  vm := { classes := classes, interned := interned.toArray }
  heap := heap
  slotsUsed := slotsUsed
  threads := #[{ frames := .invoking theMethod args0 :: below }]
def below0 : List Frame := [.native { method := ⟨0, 0⟩, args := #[] }]
def about1 : State := aboutOver below0
def p0 : Program := .bare "" "" ""
def e0 : Env := launch0.env 0 0 0
theorem w_frames : about1.frames = Frame.invoking theMethod args0 :: below0 := rfl
set_option maxRecDepth 65536 in
theorem w_args : argsFit about1.vm theMethod args0 = true := by decide +kernel
set_option maxRecDepth 65536 in
theorem w_heap : heapFits about1 = true := by decide +kernel
set_option maxRecDepth 65536 in
theorem w_runnable : about1.curStatus? = some .runnable := by decide +kernel
set_option maxRecDepth 65536 in
theorem w_alone : about1.alone = true := by decide +kernel
set_option maxRecDepth 65536 in
theorem w_named : about1.methodNamed? x = some theMethod := by decide +kernel
set_option maxRecDepth 65536 in
theorem w_hears : about1.hears theMethod below0 = true := by decide +kernel
set_option maxRecDepth 65536 in
theorem w_ripe : about1.ripe theMethod args0 below0 = true := by decide +kernel
theorem w_running : about1.status = .running := rfl
set_option maxRecDepth 65536 in
theorem w_room : about1.hasRoom e0.platform room_1 = true :=
  launch0.hasRoom_least _ room_1 (by decide +kernel) (by decide +kernel) (by decide +kernel) (by decide +kernel) (by decide +kernel) (by decide +kernel)
theorem allAtoms_all (ts : List Jvm.Cond) (a : Array Jvm.Value) (st : Jvm.State) : (allAtoms ts).before a st = ts.all (fun c => c.before a st) := by
  induction ts with
  | nil => rfl
  | cons c t ih =>
    show (Jvm.Cond.and c (allAtoms t)).before a st = _
    rw [Jvm.Cond.before_and, ih, List.all_cons]
def words1 : List Jvm.Cond := Jvm.Cond.code x code maxLocals ret :: tables_1
/-- a 'code' word, met by the world's own term for the bytes: nothing is compared byte by byte -/
theorem code_word {y : MethodName} {bytes : ByteArray} {mx : Nat} {rt : Option FieldType} {a : Array Value} {s : State} {m : MethodId} {meth : Method} {c : Code} (h1 : s.methodNamed? y = some m) (h2 : s.vm.method? m = some meth) (h3 : meth.code = some c) (h4 : c.code = bytes)
    (h5 : (c.maxLocals == mx && c.exceptionTable.isEmpty && decide (c.maxStack ≤ mostOperands) && decide (meth.sig.returnType = rt) && !meth.locks && decide (parseMethodDescriptor y.desc = some meth.sig)) = true) : (Jvm.Cond.code y bytes mx rt).before a s = true := by
  simp only [Bool.and_eq_true, beq_iff_eq, Bool.not_eq_true', decide_eq_true_eq] at h5
  obtain ⟨⟨⟨⟨⟨g1, g2⟩, g3⟩, g4⟩, g5⟩, g6⟩ := h5
  simp [Cond.before, Cond.holds, Cond.value, h1, h2, h3, h4, g1, g2, g3, g4, g5, g6]
def isCode : Jvm.Cond → Bool
  | .code _ _ _ _ => true
  | _ => false
theorem all_split {L : List Jvm.Cond} {P : Jvm.Cond → Bool} (h1 : L.all (fun c => isCode c || P c) = true) (h2 : ∀ c ∈ L.filter isCode, P c = true) : L.all P = true := by
  refine List.all_eq_true.mpr fun c hc => ?_
  have h := List.all_eq_true.mp h1 c hc
  rcases Bool.eq_false_or_eq_true (isCode c) with hi | hi
  · exact h2 c (List.mem_filter.mpr ⟨hc, hi⟩)
  · simpa [hi] using h
set_option maxRecDepth 65536 in
theorem w_c0 : (Jvm.Cond.code x code maxLocals ret).before args0 about1 = true := code_word (m := ⟨1, 1⟩) (meth := k1m1) (c := k1c1) (by decide +kernel) rfl rfl rfl (by decide +kernel)
set_option maxRecDepth 65536 in
theorem w_c1 : (Jvm.Cond.code ({ cls := "com/example/tapstone/tapstone/store/TokenStore$Outcome", name := "<init>", desc := "(Ljava/lang/Object;Lcom/example/tapstone/tapstone/store/TokenRefusedException$Refusal;)V" } : Jvm.MethodName) prog_63_method_1_code (3 : Nat) (Option.none : Option Jvm.ClassFile.FieldType)).before args0 about1 = true := code_word (m := ⟨3, 0⟩) (meth := k3m0) (c := k3c0) (by decide +kernel) rfl rfl rfl (by decide +kernel)
set_option maxRecDepth 65536 in
theorem w_c2 : (Jvm.Cond.code ({ cls := "java/lang/Record", name := "<init>", desc := "()V" } : Jvm.MethodName) jdk_30_method_1_code (1 : Nat) (Option.none : Option Jvm.ClassFile.FieldType)).before args0 about1 = true := code_word (m := ⟨2, 0⟩) (meth := k2m0) (c := k2c0) (by decide +kernel) rfl rfl rfl (by decide +kernel)
set_option maxRecDepth 65536 in
theorem w_c3 : (Jvm.Cond.code ({ cls := "java/lang/Object", name := "<init>", desc := "()V" } : Jvm.MethodName) object_method_1_code (1 : Nat) (Option.none : Option Jvm.ClassFile.FieldType)).before args0 about1 = true := code_word (m := ⟨0, 0⟩) (meth := k0m0) (c := k0c0) (by decide +kernel) rfl rfl rfl (by decide +kernel)
set_option maxRecDepth 65536 in
theorem w_c4 : (Jvm.Cond.code ({ cls := "com/example/tapstone/tapstone/store/TokenStore$Outcome", name := "orRefused", desc := "()Ljava/lang/Object;" } : Jvm.MethodName) prog_63_method_4_code (1 : Nat) (Option.some (Jvm.ClassFile.FieldType.object "java/lang/Object"))).before args0 about1 = true := code_word (m := ⟨3, 1⟩) (meth := k3m1) (c := k3c1) (by decide +kernel) rfl rfl rfl (by decide +kernel)
set_option maxRecDepth 65536 in
theorem w_c5 : (Jvm.Cond.code ({ cls := "java/lang/Integer", name := "valueOf", desc := "(I)Ljava/lang/Integer;" } : Jvm.MethodName) jdk_33_method_22_code (1 : Nat) (Option.some (Jvm.ClassFile.FieldType.object "java/lang/Integer"))).before args0 about1 = true := code_word (m := ⟨9, 0⟩) (meth := k9m0) (c := k9c0) (by decide +kernel) rfl rfl rfl (by decide +kernel)
set_option maxRecDepth 65536 in
theorem w_c6 : (Jvm.Cond.code ({ cls := "java/lang/Integer", name := "<init>", desc := "(I)V" } : Jvm.MethodName) jdk_33_method_23_code (2 : Nat) (Option.none : Option Jvm.ClassFile.FieldType)).before args0 about1 = true := code_word (m := ⟨9, 1⟩) (meth := k9m1) (c := k9c1) (by decide +kernel) rfl rfl rfl (by decide +kernel)
set_option maxRecDepth 65536 in
theorem w_c7 : (Jvm.Cond.code ({ cls := "java/lang/Number", name := "<init>", desc := "()V" } : Jvm.MethodName) jdk_18_method_1_code (1 : Nat) (Option.none : Option Jvm.ClassFile.FieldType)).before args0 about1 = true := code_word (m := ⟨5, 0⟩) (meth := k5m0) (c := k5c0) (by decide +kernel) rfl rfl rfl (by decide +kernel)
set_option maxRecDepth 65536 in
theorem w_c8 : (Jvm.Cond.code ({ cls := "java/lang/Integer", name := "intValue", desc := "()I" } : Jvm.MethodName) jdk_33_method_27_code (1 : Nat) (Option.some Jvm.ClassFile.FieldType.int)).before args0 about1 = true := code_word (m := ⟨9, 2⟩) (meth := k9m2) (c := k9c2) (by decide +kernel) rfl rfl rfl (by decide +kernel)
set_option maxRecDepth 65536 in
theorem w_c9 : (Jvm.Cond.code ({ cls := "java/lang/String", name := "<init>", desc := "([C)V" } : Jvm.MethodName) jdk_42_method_3_code (2 : Nat) (Option.none : Option Jvm.ClassFile.FieldType)).before args0 about1 = true := code_word (m := ⟨12, 1⟩) (meth := k12m1) (c := k12c1) (by decide +kernel) rfl rfl rfl (by decide +kernel)
set_option maxRecDepth 65536 in
theorem w_c10 : (Jvm.Cond.code ({ cls := "java/lang/String", name := "<init>", desc := "([CIILjava/lang/Void;)V" } : Jvm.MethodName) jdk_42_method_149_code (6 : Nat) (Option.none : Option Jvm.ClassFile.FieldType)).before args0 about1 = true := code_word (m := ⟨12, 4⟩) (meth := k12m4) (c := k12c4) (by decide +kernel) rfl rfl rfl (by decide +kernel)
set_option maxRecDepth 65536 in
theorem w_c11 : (Jvm.Cond.code ({ cls := "java/lang/StringUTF16", name := "compress", desc := "([CII)[B" } : Jvm.MethodName) jdk_52_method_16_code (6 : Nat) (Option.some (Jvm.ClassFile.FieldType.array Jvm.ClassFile.FieldType.byte))).before args0 about1 = true := code_word (m := ⟨13, 2⟩) (meth := k13m2) (c := k13c2) (by decide +kernel) rfl rfl rfl (by decide +kernel)
set_option maxRecDepth 65536 in
theorem w_c12 : (Jvm.Cond.code ({ cls := "java/lang/StringUTF16", name := "compress", desc := "([CI[BII)I" } : Jvm.MethodName) jdk_52_method_21_code (7 : Nat) (Option.some Jvm.ClassFile.FieldType.int)).before args0 about1 = true := code_word (m := ⟨13, 3⟩) (meth := k13m3) (c := k13c3) (by decide +kernel) rfl rfl rfl (by decide +kernel)
set_option maxRecDepth 65536 in
theorem w_c13 : (Jvm.Cond.code ({ cls := "java/lang/StringUTF16", name := "coderFromArrayLen", desc := "([BI)B" } : Jvm.MethodName) jdk_52_method_15_code (2 : Nat) (Option.some Jvm.ClassFile.FieldType.byte)).before args0 about1 = true := code_word (m := ⟨13, 1⟩) (meth := k13m1) (c := k13c1) (by decide +kernel) rfl rfl rfl (by decide +kernel)
set_option maxRecDepth 65536 in
theorem w_c14 : (Jvm.Cond.code ({ cls := "java/lang/String", name := "length", desc := "()I" } : Jvm.MethodName) jdk_42_method_54_code (1 : Nat) (Option.some Jvm.ClassFile.FieldType.int)).before args0 about1 = true := code_word (m := ⟨12, 2⟩) (meth := k12m2) (c := k12c2) (by decide +kernel) rfl rfl rfl (by decide +kernel)
set_option maxRecDepth 65536 in
theorem w_c15 : (Jvm.Cond.code ({ cls := "java/lang/String", name := "coder", desc := "()B" } : Jvm.MethodName) jdk_42_method_152_code (1 : Nat) (Option.some Jvm.ClassFile.FieldType.byte)).before args0 about1 = true := code_word (m := ⟨12, 5⟩) (meth := k12m5) (c := k12c5) (by decide +kernel) rfl rfl rfl (by decide +kernel)
set_option maxRecDepth 65536 in
theorem w_c16 : (Jvm.Cond.code ({ cls := "java/lang/String", name := "charAt", desc := "(I)C" } : Jvm.MethodName) jdk_42_method_56_code (2 : Nat) (Option.some Jvm.ClassFile.FieldType.char)).before args0 about1 = true := code_word (m := ⟨12, 3⟩) (meth := k12m3) (c := k12c3) (by decide +kernel) rfl rfl rfl (by decide +kernel)
set_option maxRecDepth 65536 in
theorem w_c17 : (Jvm.Cond.code ({ cls := "java/lang/String", name := "isLatin1", desc := "()Z" } : Jvm.MethodName) jdk_42_method_154_code (1 : Nat) (Option.some Jvm.ClassFile.FieldType.boolean)).before args0 about1 = true := code_word (m := ⟨12, 6⟩) (meth := k12m6) (c := k12c6) (by decide +kernel) rfl rfl rfl (by decide +kernel)
set_option maxRecDepth 65536 in
theorem w_c18 : (Jvm.Cond.code ({ cls := "java/lang/StringLatin1", name := "charAt", desc := "([BI)C" } : Jvm.MethodName) jdk_43_method_2_code (2 : Nat) (Option.some Jvm.ClassFile.FieldType.char)).before args0 about1 = true := code_word (m := ⟨14, 1⟩) (meth := k14m1) (c := k14c1) (by decide +kernel) rfl rfl rfl (by decide +kernel)
set_option maxRecDepth 65536 in
theorem w_c19 : (Jvm.Cond.code ({ cls := "java/lang/String", name := "checkIndex", desc := "(II)V" } : Jvm.MethodName) jdk_42_method_155_code (2 : Nat) (Option.none : Option Jvm.ClassFile.FieldType)).before args0 about1 = true := code_word (m := ⟨12, 7⟩) (meth := k12m7) (c := k12c7) (by decide +kernel) rfl rfl rfl (by decide +kernel)
set_option maxRecDepth 65536 in
theorem w_c20 : (Jvm.Cond.code ({ cls := "jdk/internal/util/Preconditions", name := "checkIndex", desc := "(IILjava/util/function/BiFunction;)I" } : Jvm.MethodName) jdk_41_method_11_code (3 : Nat) (Option.some Jvm.ClassFile.FieldType.int)).before args0 about1 = true := code_word (m := ⟨15, 1⟩) (meth := k15m1) (c := k15c1) (by decide +kernel) rfl rfl rfl (by decide +kernel)
def codes1 : List Jvm.Cond := [Jvm.Cond.code x code maxLocals ret, Jvm.Cond.code ({ cls := "com/example/tapstone/tapstone/store/TokenStore$Outcome", name := "<init>", desc := "(Ljava/lang/Object;Lcom/example/tapstone/tapstone/store/TokenRefusedException$Refusal;)V" } : Jvm.MethodName) prog_63_method_1_code (3 : Nat) (Option.none : Option Jvm.ClassFile.FieldType), Jvm.Cond.code ({ cls := "java/lang/Record", name := "<init>", desc := "()V" } : Jvm.MethodName) jdk_30_method_1_code (1 : Nat) (Option.none : Option Jvm.ClassFile.FieldType), Jvm.Cond.code ({ cls := "java/lang/Object", name := "<init>", desc := "()V" } : Jvm.MethodName) object_method_1_code (1 : Nat) (Option.none : Option Jvm.ClassFile.FieldType), Jvm.Cond.code ({ cls := "com/example/tapstone/tapstone/store/TokenStore$Outcome", name := "orRefused", desc := "()Ljava/lang/Object;" } : Jvm.MethodName) prog_63_method_4_code (1 : Nat) (Option.some (Jvm.ClassFile.FieldType.object "java/lang/Object")), Jvm.Cond.code ({ cls := "java/lang/Integer", name := "valueOf", desc := "(I)Ljava/lang/Integer;" } : Jvm.MethodName) jdk_33_method_22_code (1 : Nat) (Option.some (Jvm.ClassFile.FieldType.object "java/lang/Integer")), Jvm.Cond.code ({ cls := "java/lang/Integer", name := "<init>", desc := "(I)V" } : Jvm.MethodName) jdk_33_method_23_code (2 : Nat) (Option.none : Option Jvm.ClassFile.FieldType), Jvm.Cond.code ({ cls := "java/lang/Number", name := "<init>", desc := "()V" } : Jvm.MethodName) jdk_18_method_1_code (1 : Nat) (Option.none : Option Jvm.ClassFile.FieldType), Jvm.Cond.code ({ cls := "java/lang/Integer", name := "intValue", desc := "()I" } : Jvm.MethodName) jdk_33_method_27_code (1 : Nat) (Option.some Jvm.ClassFile.FieldType.int), Jvm.Cond.code ({ cls := "java/lang/String", name := "<init>", desc := "([C)V" } : Jvm.MethodName) jdk_42_method_3_code (2 : Nat) (Option.none : Option Jvm.ClassFile.FieldType), Jvm.Cond.code ({ cls := "java/lang/String", name := "<init>", desc := "([CIILjava/lang/Void;)V" } : Jvm.MethodName) jdk_42_method_149_code (6 : Nat) (Option.none : Option Jvm.ClassFile.FieldType), Jvm.Cond.code ({ cls := "java/lang/StringUTF16", name := "compress", desc := "([CII)[B" } : Jvm.MethodName) jdk_52_method_16_code (6 : Nat) (Option.some (Jvm.ClassFile.FieldType.array Jvm.ClassFile.FieldType.byte)), Jvm.Cond.code ({ cls := "java/lang/StringUTF16", name := "compress", desc := "([CI[BII)I" } : Jvm.MethodName) jdk_52_method_21_code (7 : Nat) (Option.some Jvm.ClassFile.FieldType.int), Jvm.Cond.code ({ cls := "java/lang/StringUTF16", name := "coderFromArrayLen", desc := "([BI)B" } : Jvm.MethodName) jdk_52_method_15_code (2 : Nat) (Option.some Jvm.ClassFile.FieldType.byte), Jvm.Cond.code ({ cls := "java/lang/String", name := "length", desc := "()I" } : Jvm.MethodName) jdk_42_method_54_code (1 : Nat) (Option.some Jvm.ClassFile.FieldType.int), Jvm.Cond.code ({ cls := "java/lang/String", name := "coder", desc := "()B" } : Jvm.MethodName) jdk_42_method_152_code (1 : Nat) (Option.some Jvm.ClassFile.FieldType.byte), Jvm.Cond.code ({ cls := "java/lang/String", name := "charAt", desc := "(I)C" } : Jvm.MethodName) jdk_42_method_56_code (2 : Nat) (Option.some Jvm.ClassFile.FieldType.char), Jvm.Cond.code ({ cls := "java/lang/String", name := "isLatin1", desc := "()Z" } : Jvm.MethodName) jdk_42_method_154_code (1 : Nat) (Option.some Jvm.ClassFile.FieldType.boolean), Jvm.Cond.code ({ cls := "java/lang/StringLatin1", name := "charAt", desc := "([BI)C" } : Jvm.MethodName) jdk_43_method_2_code (2 : Nat) (Option.some Jvm.ClassFile.FieldType.char), Jvm.Cond.code ({ cls := "java/lang/String", name := "checkIndex", desc := "(II)V" } : Jvm.MethodName) jdk_42_method_155_code (2 : Nat) (Option.none : Option Jvm.ClassFile.FieldType), Jvm.Cond.code ({ cls := "jdk/internal/util/Preconditions", name := "checkIndex", desc := "(IILjava/util/function/BiFunction;)I" } : Jvm.MethodName) jdk_41_method_11_code (3 : Nat) (Option.some Jvm.ClassFile.FieldType.int)]
set_option maxRecDepth 65536 in
theorem codes_eq : words1.filter isCode = codes1 := rfl
theorem w_codes : ∀ c ∈ words1.filter isCode, c.before args0 about1 = true := by
  rw [codes_eq]
  intro c hc
  simp only [codes1, List.mem_cons, List.not_mem_nil, or_false] at hc
  rcases hc with rfl | rfl | rfl | rfl | rfl | rfl | rfl | rfl | rfl | rfl | rfl | rfl | rfl | rfl | rfl | rfl | rfl | rfl | rfl | rfl | rfl
  · exact w_c0
  · exact w_c1
  · exact w_c2
  · exact w_c3
  · exact w_c4
  · exact w_c5
  · exact w_c6
  · exact w_c7
  · exact w_c8
  · exact w_c9
  · exact w_c10
  · exact w_c11
  · exact w_c12
  · exact w_c13
  · exact w_c14
  · exact w_c15
  · exact w_c16
  · exact w_c17
  · exact w_c18
  · exact w_c19
  · exact w_c20
set_option maxRecDepth 65536 in
theorem w_t1 : (words1.take 24).all (fun c => isCode c || c.before args0 about1) = true := by decide +kernel
set_option maxRecDepth 65536 in
theorem w_t2 : ((words1.drop 24).take 24).all (fun c => isCode c || c.before args0 about1) = true := by decide +kernel
set_option maxRecDepth 65536 in
theorem w_t3 : (((words1.drop 24).drop 24).take 24).all (fun c => isCode c || c.before args0 about1) = true := by decide +kernel
set_option maxRecDepth 65536 in
theorem w_t4 : ((((words1.drop 24).drop 24).drop 24).take 24).all (fun c => isCode c || c.before args0 about1) = true := by decide +kernel
set_option maxRecDepth 65536 in
theorem w_t5 : ((((words1.drop 24).drop 24).drop 24).drop 24).all (fun c => isCode c || c.before args0 about1) = true := by decide +kernel
theorem w_tables : (allAtoms (Jvm.Cond.code x code maxLocals ret :: tables_1)).before args0 about1 = true := by
  rw [allAtoms_all]
  show words1.all (fun c => c.before args0 about1) = true
  refine all_split ?_ w_codes
  rw [← List.take_append_drop 24 words1, List.all_append, w_t1, ← List.take_append_drop 24 (words1.drop 24), List.all_append, w_t2, ← List.take_append_drop 24 ((words1.drop 24).drop 24), List.all_append, w_t3, ← List.take_append_drop 24 (((words1.drop 24).drop 24).drop 24), List.all_append, w_t4, w_t5]
  rfl
set_option maxRecDepth 65536 in
theorem w_rest : rest_1_c.before args0 about1 = true := by decide +kernel
set_option maxRecDepth 65536 in
theorem w_case : (Jvm.Cond.and given_1 narrow_1).before args0 about1 = true := by decide +kernel
theorem w_applies : (headSpec (Jvm.Cond.code x code maxLocals ret :: tables_1) room_1).applies x e0.platform about1 = true :=
  (Spec.applies_iff w_frames).mpr ⟨w_running, w_runnable, w_alone, w_named, w_hears, w_ripe, w_room, w_tables⟩
theorem atStart : AtStart classFile x code maxLocals ret World_1 tables_1 room_1 Calls_1 rest_1 Pre_1 launch0 p0 e0 about1 theMethod args0 below0 :=
  ⟨lists_1, trivial, launch0.admits_env _ _ _, launch0.least_env, fairChoices_fair.cas, fairChoices_fair.clock, w_frames, w_args, w_heap, w_applies, trivial, w_rest, w_case⟩
end start1
theorem witness_1 : WitnessClaimed_1 := ⟨start1.p0, start1.e0, start1.about1, start1.theMethod, start1.args0, start1.below0, start1.atStart⟩
end Jvm.Pilot.@@N@@
