import JvmDerived
import JvmDerived.Pilot.@@N@@Statement
import JvmDerived.Pilot.@@N@@Code
set_option linter.unusedVariables false
set_option linter.unusedSimpArgs false
namespace Jvm.OwnK
open Jvm Sem ClassFile Op Lib Jvm.Free Jvm.Stand Jvm.LawKit Jvm.RoadKit Bundle
/-! OwnK: a body's walk as a judgement. 'Go .. SF h k n pc Ls st': from the place pc, with the locals Ls and the operands st, over the heap h (SF: what this walk may write; k cells and n slots made so far), the body ends, and Q holds of what it returns and of the heap. One rule a step; a callee by 'Met'. -/
def Own (Z : State) (EL : List (String × Nat)) (n0 : Nat) (h0 : Heap) (WS : List Addr) (vm : Vm) (h : Heap) (SF : List Addr) : Prop := ∀ x ∈ SF, (n0 ≤ x ∧ x < h.size ∧ (x ∈ WS ∨ h0.size ≤ x)) ∧ Safe Z EL vm h x
def Cor (Z : State) (EL : List (String × Nat)) (n0 : Nat) (nr : Bool) (h0 : Heap) (WS SF : List Addr) (h : Heap) (s : State) (vm0 : Vm) (k0 : Nat) (locs : List Loc) : Prop :=
  Z.Warmed39 vm0 ∧ (s.Since vm0 k0 ∧ k0 ≤ h.size) ∧ Fr n0 locs ∧ CHr Z EL s.vm h0 vm0 h ∧ Own Z EL n0 h0 WS vm0 h SF ∧ (nr = true → s.WarmedH vm0) ∧ (Z.heap.size = n0 ∧ Ext Z.heap h) ∧ Keep h0 h WS ∧ s.heap = h0 ∧ ∃ a0, EW Z a0 EL
def Pst (Z : State) (EL : List (String × Nat)) (n0 : Nat) (nr : Bool) (R : Room) (h0 : Heap) (WS : List Addr) (Q : Option Value → Heap → List Addr → Prop) (s : State) (o : Outcome) (t : State) : Prop :=
  ∃ v L SN, o = .returned v ∧ Q v t.heap SN ∧ Fr n0 L ∧ Keep h0 t.heap WS ∧ (∀ x ∈ SN, (h0.size ≤ x ∧ x < t.heap.size) ∧ Safe Z EL t.vm t.heap x) ∧ CHr Z EL s.vm h0 t.vm t.heap ∧ (nr = true → s.WarmedH t.vm) ∧ ReturnedEndW s o t L R.cells R.slots
def Run (l : Launch) (Z : State) (EL : List (String × Nat)) (n0 : Nat) (nr kn : Bool) (y : MethodName) (bytes : ByteArray) (mL : Nat) (ret : Option FieldType) (R : Room) (h0 : Heap) (WS SF : List Addr) (h : Heap) (k n : Nat)
    (p : Program) (e : Env) (s : State) (m : MethodId) (args : Array Value) (below : List Frame) (meth : Method) (c : Code) (T : State) : Prop :=
  (p.tables.exec = Jvm.exec ∧ c.code = bytes ∧ c.maxLocals = mL ∧ s.vm.findClass y.cls = some m.cls ∧ meth.name = y.name ∧ meth.sig.returnType = ret ∧ meth.locks = false ∧ (kn = true → s.vm.MethodsKnown ∧ s.vm.FramesKnown below)) ∧
  ∃ vm0 k0 locs, Stand p l e R (s.setVm vm0) m args below meth c T locs k n ∧ T.heap = h ∧ Cor Z EL n0 nr h0 WS SF h s vm0 k0 locs
def Go (l : Launch) (Z : State) (EL : List (String × Nat)) (n0 : Nat) (nr kn : Bool) (y : MethodName) (bytes : ByteArray) (mL : Nat) (ret : Option FieldType) (R : Room) (h0 : Heap) (WS : List Addr) (Q : Option Value → Heap → List Addr → Prop)
    (SF : List Addr) (h : Heap) (k n : Nat) (pc : Nat) (Ls : Array Slot) (st : List Value) : Prop :=
  ∀ (p : Program) (e : Env) (s : State) (m : MethodId) (args : Array Value) (below : List Frame) (meth : Method) (c : Code) (T : State), Run l Z EL n0 nr kn y bytes mL ret R h0 WS SF h k n p e s m args below meth c T →
    ∃ t o, Steps p.tables e below (T.setTop (mkF m pc Ls st)) t ∧ t.status = .running ∧ Ended t below o ∧ Pst Z EL n0 nr R h0 WS Q s o t
def Met (l : Launch) (Z : State) (EL : List (String × Nat)) (n0 : Nat) (nr kn : Bool) (y : MethodName) (bytes : ByteArray) (mL : Nat) (ret : Option FieldType) (R : Room) (WS : List Addr) (as' : Array Value) (h : Heap) (Q : Option Value → Heap → List Addr → Prop) : Prop :=
  ∀ ws : List Jvm.Cond, MetFree l y (head1 (Jvm.Cond.code y bytes mL ret :: ws) R)
    (fun a U => a = as' ∧ Z.Warmed39 U.vm ∧ U.heap = h ∧ CHv Z EL U.vm h ∧ (∀ x ∈ WS, (n0 ≤ x ∧ x < h.size) ∧ Safe Z EL U.vm h x) ∧ (Z.heap.size = n0 ∧ Ext Z.heap h) ∧ ∃ a0, EW Z a0 EL)
    (fun _ _ bl s _ => kn = true → s.vm.MethodsKnown ∧ s.vm.FramesKnown bl) (fun _ U o U' => Pst Z EL n0 nr R h WS Q U o U')
def Pays (l : Launch) (Z : State) (EL : List (String × Nat)) (n0 : Nat) (nr kn : Bool) (R : Room) (len : Nat) (z : MethodName) (W ck cn : Nat) (ws : List Addr) (as' : Array Value) (h : Heap) (Q : Option Value → Heap → List Addr → Prop) : Prop :=
  ∀ (p : Program) (e : Env) (below : List Frame) (s : State) (args : Array Value) (vm0 : Vm), p.tables.exec = Jvm.exec → Z.Warmed39 vm0 → CHv Z EL vm0 h → (∀ x ∈ ws, (n0 ≤ x ∧ x < h.size) ∧ Safe Z EL vm0 h x) → (Z.heap.size = n0 ∧ Ext Z.heap h) → (∃ a0, EW Z a0 EL) →
    (kn = true → vm0.MethodsKnown ∧ vm0.FramesKnown below) →
    BackS l R p e below (s.setVm vm0) args z len W (fun A a => a = as' ∧ A.U.heap = h ∧ A.cells + ck ≤ R.cells ∧ A.slots + cn ≤ R.slots)
      (fun A _ v B => ∃ L SN, Q v B.U.heap SN ∧ Fr n0 L ∧ Keep h B.U.heap ws ∧ (∀ x ∈ SN, (h.size ≤ x ∧ x < B.U.heap.size) ∧ Safe Z EL B.U.vm B.U.heap x) ∧ CHr Z EL vm0 h B.U.vm B.U.heap ∧ (nr = true → (s.setVm vm0).WarmedH B.U.vm) ∧ B.locs = A.locs ++ L ∧ B.cells = A.cells + ck ∧ B.slots = A.slots + cn)
def Mr (Z : State) (CC : String) (m : Addr) : Prop := ∃ (c : ClassId) (k : Class), Z.vm.findClass CC = some c ∧ Z.vm.classes[c]? = some k ∧ k.mirror = some m
section Rules
variable {l : Launch} {Z : State} {EL : List (String × Nat)} {n0 : Nat} {nr kn : Bool} {y : MethodName} {bytes : ByteArray} {mL : Nat} {ret : Option FieldType} {R : Room} {h0 : Heap} {WS : List Addr} {Q : Option Value → Heap → List Addr → Prop} {SF : List Addr} {h h' : Heap} {k n : Nat} {pc pc' : Nat} {Ls Ls' : Array Slot} {st rest : List Value} {a0 : Array Value} {s : State} {vm0 vm1 : Vm} {k0 : Nat} {locs : List Loc}
theorem Cor.ext (C : Cor Z EL n0 nr h0 WS SF h s vm0 k0 locs) (E : Ext h h') : Cor Z EL n0 nr h0 WS SF h' s vm0 k0 locs := by
  obtain ⟨c1, ⟨c2, c2'⟩, c3, c4, c5, c6, ⟨c7, c7'⟩, c8, c9, c10⟩ := C
  exact ⟨c1, ⟨c2, Nat.le_trans c2' E.1⟩, c3, c4.trans (CHr.ext E c4.1), fun x hx => ⟨⟨(c5 x hx).1.1, Nat.lt_of_lt_of_le (c5 x hx).1.2.1 E.1, (c5 x hx).1.2.2⟩, Safe.ext E c4.1 (c5 x hx).2⟩, c6, ⟨c7, Nat.le_trans c7'.1 E.1, fun a c q => E.2 a c (c7'.2 a c q)⟩, c8.ext E, c9, c10⟩
theorem Cor.push (C : Cor Z EL n0 nr h0 WS SF h s vm0 k0 locs) (E : Ext h h') (hlt : h.size < h'.size) : Cor Z EL n0 nr h0 WS (h.size :: SF) h' s vm0 k0 locs := by
  have D := C.ext E
  obtain ⟨c1, c2, c3, c4, c5, c6, ⟨c7, c7'⟩, c8, c9, c10⟩ := C
  obtain ⟨d1, d2, d3, d4, d5, d6, d7, d8, d9, d10⟩ := D
  refine ⟨d1, d2, d3, d4, fun x hx => ?_, d6, d7, d8, d9, d10⟩
  rcases List.mem_cons.mp hx with rfl | hx
  · exact ⟨⟨c7 ▸ c7'.1, hlt, Or.inr c8.1⟩, Safe.ext E c4.1 (Safe.new (Nat.le_refl _))⟩
  · exact d5 x hx
theorem Cor.wr {a : Addr} {sl : Nat} {v : Value} (C : Cor Z EL n0 nr h0 WS SF h s vm0 k0 locs) (W : Wr h h' a sl v) (ha : a ∈ SF) : Cor Z EL n0 nr h0 WS SF h' s vm0 k0 (locs ++ [⟨a, sl⟩]) := by
  obtain ⟨c1, ⟨c2, c2'⟩, c3, c4, c5, c6, ⟨c7, c7'⟩, c8, c9, c10⟩ := C
  have S := (c5 a ha).2
  have O : Old Z n0 h := ⟨c7, c7'⟩
  refine ⟨c1, ⟨c2, by rw [W.size]; exact c2'⟩, c3.app fun z hz => by cases List.mem_singleton.mp hz; exact (c5 a ha).1.1, c4.trans (CHr.wr W S c4.1), fun x hx => ⟨⟨(c5 x hx).1.1, by rw [W.size]; exact (c5 x hx).1.2.1, (c5 x hx).1.2.2⟩, Safe.wr W S c4.1 (c5 x hx).2⟩, c6, O.wr W (c5 a ha).1.1, c8.wr W (c5 a ha).1.2.2, c9, c10⟩
theorem Cor.keep {ws SN : List Addr} {L : List Loc} {k1 : Nat} (C : Cor Z EL n0 nr h0 WS SF h s vm0 k0 locs) (K : Keep h h' ws) (hws : ∀ x ∈ ws, x ∈ SF) (hL : Fr n0 L) (hC : CHr Z EL vm0 h vm1 h') (hZ : Z.Warmed39 vm1) (hS : s.Since vm1 k1) (hk : k1 ≤ h'.size) (hN : nr = true → s.WarmedH vm1)
    (hSN : ∀ x ∈ SN, (h.size ≤ x ∧ x < h'.size) ∧ Safe Z EL vm1 h' x) : Cor Z EL n0 nr h0 WS (SN ++ SF) h' s vm1 k1 (locs ++ L) := by
  obtain ⟨c1, ⟨c2, c2'⟩, c3, c4, c5, c6, ⟨c7, c7'⟩, c8, c9, c10⟩ := C
  have O : Old Z n0 h := ⟨c7, c7'⟩
  refine ⟨hZ, ⟨hS, hk⟩, c3.app hL, c4.trans hC, fun x hx => ?_, hN, O.keep K fun x hx => (c5 x (hws x hx)).1.1, c8.trans K fun x hx => (c5 x (hws x hx)).1.2.2, c9, c10⟩
  rcases List.mem_append.mp hx with hx | hx
  · obtain ⟨⟨q1, q2⟩, q3⟩ := hSN x hx
    exact ⟨⟨Nat.le_trans (c7 ▸ c7'.1) q1, q2, Or.inr (Nat.le_trans c8.1 q1)⟩, q3⟩
  · exact ⟨⟨(c5 x hx).1.1, Nat.lt_of_lt_of_le (c5 x hx).1.2.1 K.1, (c5 x hx).1.2.2⟩, hC.safe (c5 x hx).1.2.1 (c5 x hx).2⟩
theorem Go.inv (K : (Z.heap.size = n0 ∧ Ext Z.heap h) → Keep h0 h WS → (∀ x ∈ SF, n0 ≤ x ∧ x < h.size ∧ (x ∈ WS ∨ h0.size ≤ x)) → Go l Z EL n0 nr kn y bytes mL ret R h0 WS Q SF h k n pc Ls st) : Go l Z EL n0 nr kn y bytes mL ret R h0 WS Q SF h k n pc Ls st := by
  intro p e s m args below meth c T hR
  obtain ⟨hA, vm0, k0, locs, X, e0, C⟩ := hR
  exact K C.2.2.2.2.2.2.1 C.2.2.2.2.2.2.2.1 (fun x hx => (C.2.2.2.2.1 x hx).1) p e s m args below meth c T ⟨hA, vm0, k0, locs, X, e0, C⟩
theorem Go.more {k' n' : Nat} (hk : k ≤ k') (hn : n ≤ n') (K : Go l Z EL n0 nr kn y bytes mL ret R h0 WS Q SF h k' n' pc Ls st) : Go l Z EL n0 nr kn y bytes mL ret R h0 WS Q SF h k n pc Ls st := by
  intro p e s m args below meth c T hR
  obtain ⟨hA, vm0, k0, locs, X, e0, C⟩ := hR
  exact K p e s m args below meth c T ⟨hA, vm0, k0, locs, X.more hk hn, e0, C⟩
theorem Go.fewer {SF' : List Addr} (hs : ∀ x ∈ SF', x ∈ SF) (K : Go l Z EL n0 nr kn y bytes mL ret R h0 WS Q SF' h k n pc Ls st) : Go l Z EL n0 nr kn y bytes mL ret R h0 WS Q SF h k n pc Ls st := by
  intro p e s m args below meth c T hR
  obtain ⟨hA, vm0, k0, locs, X, e0, c1, c2, c3, c4, c5, r⟩ := hR
  exact K p e s m args below meth c T ⟨hA, vm0, k0, locs, X, e0, c1, c2, c3, c4, fun x hx => c5 x (hs x hx), r⟩
theorem Go.plain {st' : List Value} (H : ∀ (p : Program) (e : Env) (below : List Frame) (T : State) (m : MethodId) (c : Code) (target : State), At T m c below → p.tables.exec = Jvm.exec → c.code = bytes → Steps p.tables e below (T.setTop (mkF m pc' Ls' st')) target → Steps p.tables e below (T.setTop (mkF m pc Ls st)) target)
    (K : Go l Z EL n0 nr kn y bytes mL ret R h0 WS Q SF h k n pc' Ls' st') : Go l Z EL n0 nr kn y bytes mL ret R h0 WS Q SF h k n pc Ls st := by
  intro p e s m args below meth c T hR
  obtain ⟨t, o, hs, r⟩ := K p e s m args below meth c T hR
  obtain ⟨⟨hx, hb, -⟩, vm0, k0, locs, X, -⟩ := hR
  exact ⟨t, o, H p e below T m c t X.here hx hb hs, r⟩

theorem Go.aload_n {i : Fin 4} {v : Value} (hd : decode bytes pc = .ok (.aload_n i, 1)) (hq : pc + 1 = pc') (hl : Ls[i.val]? = some (.val v)) (hv : v.isRef = true) (K : Go l Z EL n0 nr kn y bytes mL ret R h0 WS Q SF h k n pc' Ls (v :: st)) : Go l Z EL n0 nr kn y bytes mL ret R h0 WS Q SF h k n pc Ls st :=
  Go.plain (fun p e below T m c target hA hx hb hk => XS.aloadN hA hx rfl (hb ▸ hd) hl hv (by subst hq; exact hk)) K
theorem Go.aload {i : Nat} {v : Value} (hd : decode bytes pc = .ok (.aload i, 2)) (hq : pc + 2 = pc') (hl : Ls[i]? = some (.val v)) (hv : v.isRef = true) (K : Go l Z EL n0 nr kn y bytes mL ret R h0 WS Q SF h k n pc' Ls (v :: st)) : Go l Z EL n0 nr kn y bytes mL ret R h0 WS Q SF h k n pc Ls st :=
  Go.plain (fun p e below T m c target hA hx hb hk => XS.aload hA hx rfl (hb ▸ hd) hl hv (by subst hq; exact hk)) K
theorem Go.iload_n {i : Fin 4} {v : Int32} (hd : decode bytes pc = .ok (.iload_n i, 1)) (hq : pc + 1 = pc') (hl : Ls[i.val]? = some (.val (.int v))) (K : Go l Z EL n0 nr kn y bytes mL ret R h0 WS Q SF h k n pc' Ls (.int v :: st)) : Go l Z EL n0 nr kn y bytes mL ret R h0 WS Q SF h k n pc Ls st :=
  Go.plain (fun p e below T m c target hA hx hb hk => XS.iloadN hA hx rfl (hb ▸ hd) hl (by subst hq; exact hk)) K
theorem Go.iload {i : Nat} {v : Int32} (hd : decode bytes pc = .ok (.iload i, 2)) (hq : pc + 2 = pc') (hl : Ls[i]? = some (.val (.int v))) (K : Go l Z EL n0 nr kn y bytes mL ret R h0 WS Q SF h k n pc' Ls (.int v :: st)) : Go l Z EL n0 nr kn y bytes mL ret R h0 WS Q SF h k n pc Ls st :=
  Go.plain (fun p e below T m c target hA hx hb hk => XS.iload hA hx rfl (hb ▸ hd) hl (by subst hq; exact hk)) K
theorem Go.lload_n {i : Fin 4} {v : Int64} (hd : decode bytes pc = .ok (.lload_n i, 1)) (hq : pc + 1 = pc') (hl : Ls[i.val]? = some (.val (.long v))) (K : Go l Z EL n0 nr kn y bytes mL ret R h0 WS Q SF h k n pc' Ls (.long v :: st)) : Go l Z EL n0 nr kn y bytes mL ret R h0 WS Q SF h k n pc Ls st :=
  Go.plain (fun p e below T m c target hA hx hb hk => XS.lloadN hA hx rfl (hb ▸ hd) hl (by subst hq; exact hk)) K
theorem Go.iconst {i : Int} {v : Int32} (hd : decode bytes pc = .ok (.iconst i, 1)) (hq : pc + 1 = pc') (hv : Int32.ofInt i = v) (K : Go l Z EL n0 nr kn y bytes mL ret R h0 WS Q SF h k n pc' Ls (.int v :: st)) : Go l Z EL n0 nr kn y bytes mL ret R h0 WS Q SF h k n pc Ls st :=
  Go.plain (fun p e below T m c target hA hx hb hk => XS.iconst hA hx rfl (hb ▸ hd) (by subst hq; subst hv; exact hk)) K
theorem Go.bipush {i : Int} {v : Int32} (hd : decode bytes pc = .ok (.bipush i, 2)) (hq : pc + 2 = pc') (hv : (Int8.ofInt i).toInt32 = v) (K : Go l Z EL n0 nr kn y bytes mL ret R h0 WS Q SF h k n pc' Ls (.int v :: st)) : Go l Z EL n0 nr kn y bytes mL ret R h0 WS Q SF h k n pc Ls st :=
  Go.plain (fun p e below T m c target hA hx hb hk => XS.bipush hA hx rfl (hb ▸ hd) (by subst hq; subst hv; exact hk)) K
theorem Go.sipush {i : Int} {v : Int32} (hd : decode bytes pc = .ok (.sipush i, 3)) (hq : pc + 3 = pc') (hv : (Int16.ofInt i).toInt32 = v) (K : Go l Z EL n0 nr kn y bytes mL ret R h0 WS Q SF h k n pc' Ls (.int v :: st)) : Go l Z EL n0 nr kn y bytes mL ret R h0 WS Q SF h k n pc Ls st :=
  Go.plain (fun p e below T m c target hA hx hb hk => XS.sipush hA hx rfl (hb ▸ hd) (by subst hq; subst hv; exact hk)) K
theorem Go.aconst_null (hd : decode bytes pc = .ok (.aconst_null, 1)) (hq : pc + 1 = pc') (K : Go l Z EL n0 nr kn y bytes mL ret R h0 WS Q SF h k n pc' Ls (.null :: st)) : Go l Z EL n0 nr kn y bytes mL ret R h0 WS Q SF h k n pc Ls st :=
  Go.plain (fun p e below T m c target hA hx hb hk => XS.aconstNull hA hx rfl (hb ▸ hd) (by subst hq; exact hk)) K
theorem Go.iadd {x z : Int32} (hd : decode bytes pc = .ok (.iadd, 1)) (hq : pc + 1 = pc') (K : Go l Z EL n0 nr kn y bytes mL ret R h0 WS Q SF h k n pc' Ls (.int (x + z) :: st)) : Go l Z EL n0 nr kn y bytes mL ret R h0 WS Q SF h k n pc Ls (.int z :: .int x :: st) :=
  Go.plain (fun p e below T m c target hA hx hb hk => XS.iadd hA hx rfl (hb ▸ hd) rfl (by subst hq; exact hk)) K
theorem Go.isub {x z : Int32} (hd : decode bytes pc = .ok (.isub, 1)) (hq : pc + 1 = pc') (K : Go l Z EL n0 nr kn y bytes mL ret R h0 WS Q SF h k n pc' Ls (.int (x - z) :: st)) : Go l Z EL n0 nr kn y bytes mL ret R h0 WS Q SF h k n pc Ls (.int z :: .int x :: st) :=
  Go.plain (fun p e below T m c target hA hx hb hk => XS.isub hA hx rfl (hb ▸ hd) rfl (by subst hq; exact hk)) K
theorem Go.iand {x z : Int32} (hd : decode bytes pc = .ok (.iand, 1)) (hq : pc + 1 = pc') (K : Go l Z EL n0 nr kn y bytes mL ret R h0 WS Q SF h k n pc' Ls (.int (x &&& z) :: st)) : Go l Z EL n0 nr kn y bytes mL ret R h0 WS Q SF h k n pc Ls (.int z :: .int x :: st) :=
  Go.plain (fun p e below T m c target hA hx hb hk => XS.iand hA hx rfl (hb ▸ hd) rfl (by subst hq; exact hk)) K
theorem Go.imul {x z : Int32} (hd : decode bytes pc = .ok (.imul, 1)) (hq : pc + 1 = pc') (K : Go l Z EL n0 nr kn y bytes mL ret R h0 WS Q SF h k n pc' Ls (.int (x * z) :: st)) : Go l Z EL n0 nr kn y bytes mL ret R h0 WS Q SF h k n pc Ls (.int z :: .int x :: st) :=
  Go.plain (fun p e below T m c target hA hx hb hk => XS.imul hA hx rfl (hb ▸ hd) rfl (by subst hq; exact hk)) K
theorem Go.ior {x z : Int32} (hd : decode bytes pc = .ok (.ior, 1)) (hq : pc + 1 = pc') (K : Go l Z EL n0 nr kn y bytes mL ret R h0 WS Q SF h k n pc' Ls (.int (x ||| z) :: st)) : Go l Z EL n0 nr kn y bytes mL ret R h0 WS Q SF h k n pc Ls (.int z :: .int x :: st) :=
  Go.plain (fun p e below T m c target hA hx hb hk => XS.ior hA hx rfl (hb ▸ hd) rfl (by subst hq; exact hk)) K
theorem Go.ixor {x z : Int32} (hd : decode bytes pc = .ok (.ixor, 1)) (hq : pc + 1 = pc') (K : Go l Z EL n0 nr kn y bytes mL ret R h0 WS Q SF h k n pc' Ls (.int (x ^^^ z) :: st)) : Go l Z EL n0 nr kn y bytes mL ret R h0 WS Q SF h k n pc Ls (.int z :: .int x :: st) :=
  Go.plain (fun p e below T m c target hA hx hb hk => XS.ixor hA hx rfl (hb ▸ hd) rfl (by subst hq; exact hk)) K
theorem Go.ishl {x z : Int32} (hd : decode bytes pc = .ok (.ishl, 1)) (hq : pc + 1 = pc') (K : Go l Z EL n0 nr kn y bytes mL ret R h0 WS Q SF h k n pc' Ls (.int (x <<< (z &&& 31)) :: st)) : Go l Z EL n0 nr kn y bytes mL ret R h0 WS Q SF h k n pc Ls (.int z :: .int x :: st) :=
  Go.plain (fun p e below T m c target hA hx hb hk => XS.ishl hA hx rfl (hb ▸ hd) rfl (by subst hq; exact hk)) K
theorem Go.ishr {x z : Int32} (hd : decode bytes pc = .ok (.ishr, 1)) (hq : pc + 1 = pc') (K : Go l Z EL n0 nr kn y bytes mL ret R h0 WS Q SF h k n pc' Ls (.int (x >>> (z &&& 31)) :: st)) : Go l Z EL n0 nr kn y bytes mL ret R h0 WS Q SF h k n pc Ls (.int z :: .int x :: st) :=
  Go.plain (fun p e below T m c target hA hx hb hk => XS.ishr hA hx rfl (hb ▸ hd) rfl (by subst hq; exact hk)) K
theorem Go.iushr {x z : Int32} (hd : decode bytes pc = .ok (.iushr, 1)) (hq : pc + 1 = pc') (K : Go l Z EL n0 nr kn y bytes mL ret R h0 WS Q SF h k n pc' Ls (.int ((x.toUInt32 >>> (z &&& 31).toUInt32).toInt32) :: st)) : Go l Z EL n0 nr kn y bytes mL ret R h0 WS Q SF h k n pc Ls (.int z :: .int x :: st) :=
  Go.plain (fun p e below T m c target hA hx hb hk => XS.iushr hA hx rfl (hb ▸ hd) rfl (by subst hq; exact hk)) K
theorem Go.ineg {x : Int32} (hd : decode bytes pc = .ok (.ineg, 1)) (hq : pc + 1 = pc') (K : Go l Z EL n0 nr kn y bytes mL ret R h0 WS Q SF h k n pc' Ls (.int (-x) :: st)) : Go l Z EL n0 nr kn y bytes mL ret R h0 WS Q SF h k n pc Ls (.int x :: st) :=
  Go.plain (fun p e below T m c target hA hx hb hk => XS.ineg hA hx rfl (hb ▸ hd) rfl (by subst hq; exact hk)) K
theorem Go.i2b {x : Int32} (hd : decode bytes pc = .ok (.i2b, 1)) (hq : pc + 1 = pc') (K : Go l Z EL n0 nr kn y bytes mL ret R h0 WS Q SF h k n pc' Ls (.int x.toInt8.toInt32 :: st)) : Go l Z EL n0 nr kn y bytes mL ret R h0 WS Q SF h k n pc Ls (.int x :: st) :=
  Go.plain (fun p e below T m c target hA hx hb hk => XS.i2b hA hx rfl (hb ▸ hd) rfl (by subst hq; exact hk)) K
theorem Go.i2c {x : Int32} (hd : decode bytes pc = .ok (.i2c, 1)) (hq : pc + 1 = pc') (K : Go l Z EL n0 nr kn y bytes mL ret R h0 WS Q SF h k n pc' Ls (.int x.toUInt32.toUInt16.toUInt32.toInt32 :: st)) : Go l Z EL n0 nr kn y bytes mL ret R h0 WS Q SF h k n pc Ls (.int x :: st) :=
  Go.plain (fun p e below T m c target hA hx hb hk => XS.i2c hA hx rfl (hb ▸ hd) rfl (by subst hq; exact hk)) K
theorem Go.i2l {x : Int32} (hd : decode bytes pc = .ok (.i2l, 1)) (hq : pc + 1 = pc') (K : Go l Z EL n0 nr kn y bytes mL ret R h0 WS Q SF h k n pc' Ls (.long x.toInt64 :: st)) : Go l Z EL n0 nr kn y bytes mL ret R h0 WS Q SF h k n pc Ls (.int x :: st) :=
  Go.plain (fun p e below T m c target hA hx hb hk => XS.i2l hA hx rfl (hb ▸ hd) rfl (by subst hq; exact hk)) K
theorem Go.l2i {x : Int64} (hd : decode bytes pc = .ok (.l2i, 1)) (hq : pc + 1 = pc') (K : Go l Z EL n0 nr kn y bytes mL ret R h0 WS Q SF h k n pc' Ls (.int x.toInt32 :: st)) : Go l Z EL n0 nr kn y bytes mL ret R h0 WS Q SF h k n pc Ls (.long x :: st) :=
  Go.plain (fun p e below T m c target hA hx hb hk => XS.l2i hA hx rfl (hb ▸ hd) rfl (by subst hq; exact hk)) K
theorem Go.ladd {x z : Int64} (hd : decode bytes pc = .ok (.ladd, 1)) (hq : pc + 1 = pc') (K : Go l Z EL n0 nr kn y bytes mL ret R h0 WS Q SF h k n pc' Ls (.long (x + z) :: st)) : Go l Z EL n0 nr kn y bytes mL ret R h0 WS Q SF h k n pc Ls (.long z :: .long x :: st) :=
  Go.plain (fun p e below T m c target hA hx hb hk => XS.ladd hA hx rfl (hb ▸ hd) rfl (by subst hq; exact hk)) K
theorem Go.lsub {x z : Int64} (hd : decode bytes pc = .ok (.lsub, 1)) (hq : pc + 1 = pc') (K : Go l Z EL n0 nr kn y bytes mL ret R h0 WS Q SF h k n pc' Ls (.long (x - z) :: st)) : Go l Z EL n0 nr kn y bytes mL ret R h0 WS Q SF h k n pc Ls (.long z :: .long x :: st) :=
  Go.plain (fun p e below T m c target hA hx hb hk => XS.lsub hA hx rfl (hb ▸ hd) rfl (by subst hq; exact hk)) K
theorem Go.lmul {x z : Int64} (hd : decode bytes pc = .ok (.lmul, 1)) (hq : pc + 1 = pc') (K : Go l Z EL n0 nr kn y bytes mL ret R h0 WS Q SF h k n pc' Ls (.long (x * z) :: st)) : Go l Z EL n0 nr kn y bytes mL ret R h0 WS Q SF h k n pc Ls (.long z :: .long x :: st) :=
  Go.plain (fun p e below T m c target hA hx hb hk => XS.lmul hA hx rfl (hb ▸ hd) rfl (by subst hq; exact hk)) K
theorem Go.lcmp {x z : Int64} (hd : decode bytes pc = .ok (.lcmp, 1)) (hq : pc + 1 = pc') (K : Go l Z EL n0 nr kn y bytes mL ret R h0 WS Q SF h k n pc' Ls (.int (lcmpW x z) :: st)) : Go l Z EL n0 nr kn y bytes mL ret R h0 WS Q SF h k n pc Ls (.long z :: .long x :: st) :=
  Go.plain (fun p e below T m c target hA hx hb hk => XS.lcmp hA hx rfl (hb ▸ hd) rfl (by subst hq; exact hk)) K
theorem Go.dup {v : Value} (hd : decode bytes pc = .ok (.dup, 1)) (hq : pc + 1 = pc') (hc : v.category = 1) (K : Go l Z EL n0 nr kn y bytes mL ret R h0 WS Q SF h k n pc' Ls (v :: v :: st)) : Go l Z EL n0 nr kn y bytes mL ret R h0 WS Q SF h k n pc Ls (v :: st) :=
  Go.plain (fun p e below T m c target hA hx hb hk => XS.dup hA hx rfl (hb ▸ hd) rfl hc (by subst hq; exact hk)) K
theorem Go.pop {v : Value} (hd : decode bytes pc = .ok (.pop, 1)) (hq : pc + 1 = pc') (hc : v.category = 1) (K : Go l Z EL n0 nr kn y bytes mL ret R h0 WS Q SF h k n pc' Ls st) : Go l Z EL n0 nr kn y bytes mL ret R h0 WS Q SF h k n pc Ls (v :: st) :=
  Go.plain (fun p e below T m c target hA hx hb hk => XS.pop hA hx rfl (hb ▸ hd) rfl hc (by subst hq; exact hk)) K
theorem Go.dup_x1 {v u : Value} (hd : decode bytes pc = .ok (.dup_x1, 1)) (hq : pc + 1 = pc') (hc : v.category = 1) (hc' : u.category = 1) (K : Go l Z EL n0 nr kn y bytes mL ret R h0 WS Q SF h k n pc' Ls (v :: u :: v :: st)) : Go l Z EL n0 nr kn y bytes mL ret R h0 WS Q SF h k n pc Ls (v :: u :: st) :=
  Go.plain (fun p e below T m c target hA hx hb hk => XS.dupX1 hA hx rfl (hb ▸ hd) rfl hc hc' (by subst hq; exact hk)) K
theorem Go.istore_n {i : Fin 4} {x : Int32} (hd : decode bytes pc = .ok (.istore_n i, 1)) (hq : pc + 1 = pc') (hl : storeLocals Ls i.val (.int x) = some Ls') (K : Go l Z EL n0 nr kn y bytes mL ret R h0 WS Q SF h k n pc' Ls' st) : Go l Z EL n0 nr kn y bytes mL ret R h0 WS Q SF h k n pc Ls (.int x :: st) :=
  Go.plain (fun p e below T m c target hA hx hb hk => XS.istoreN hA hx rfl (hb ▸ hd) rfl hl (by subst hq; exact hk)) K
theorem Go.istore {i : Nat} {x : Int32} (hd : decode bytes pc = .ok (.istore i, 2)) (hq : pc + 2 = pc') (hl : storeLocals Ls i (.int x) = some Ls') (K : Go l Z EL n0 nr kn y bytes mL ret R h0 WS Q SF h k n pc' Ls' st) : Go l Z EL n0 nr kn y bytes mL ret R h0 WS Q SF h k n pc Ls (.int x :: st) :=
  Go.plain (fun p e below T m c target hA hx hb hk => XS.istore hA hx rfl (hb ▸ hd) rfl hl (by subst hq; exact hk)) K
theorem Go.istoreS {i : Nat} {x : Int32} {o : Slot} (hd : decode bytes pc = .ok (.istore i, 2)) (hq : pc + 2 = pc') (hold : Ls[i]? = some o) (ho : One o) (hl : Ls.setIfInBounds i (.val (.int x)) = Ls') (K : Go l Z EL n0 nr kn y bytes mL ret R h0 WS Q SF h k n pc' Ls' st) : Go l Z EL n0 nr kn y bytes mL ret R h0 WS Q SF h k n pc Ls (.int x :: st) :=
  Go.plain (fun p e below T m c target hA hx hb hk => XS.istoreS hA hx rfl (hb ▸ hd) rfl hold ho (by subst hq; subst hl; exact hk)) K
theorem Go.lstore_n {i : Fin 4} {x : Int64} (hd : decode bytes pc = .ok (.lstore_n i, 1)) (hq : pc + 1 = pc') (hl : storeLocals Ls i.val (.long x) = some Ls') (K : Go l Z EL n0 nr kn y bytes mL ret R h0 WS Q SF h k n pc' Ls' st) : Go l Z EL n0 nr kn y bytes mL ret R h0 WS Q SF h k n pc Ls (.long x :: st) :=
  Go.plain (fun p e below T m c target hA hx hb hk => XS.lstoreN hA hx rfl (hb ▸ hd) rfl hl (by subst hq; exact hk)) K
theorem Go.astore_n {i : Fin 4} {v : Value} (hd : decode bytes pc = .ok (.astore_n i, 1)) (hq : pc + 1 = pc') (hv : v.isRef = true) (hl : storeLocals Ls i.val v = some Ls') (K : Go l Z EL n0 nr kn y bytes mL ret R h0 WS Q SF h k n pc' Ls' st) : Go l Z EL n0 nr kn y bytes mL ret R h0 WS Q SF h k n pc Ls (v :: st) :=
  Go.plain (fun p e below T m c target hA hx hb hk => XS.astoreN hA hx rfl (hb ▸ hd) rfl hv hl (by subst hq; exact hk)) K
theorem Go.astore {i : Nat} {v : Value} (hd : decode bytes pc = .ok (.astore i, 2)) (hq : pc + 2 = pc') (hv : v.isRef = true) (hl : storeLocals Ls i v = some Ls') (K : Go l Z EL n0 nr kn y bytes mL ret R h0 WS Q SF h k n pc' Ls' st) : Go l Z EL n0 nr kn y bytes mL ret R h0 WS Q SF h k n pc Ls (v :: st) :=
  Go.plain (fun p e below T m c target hA hx hb hk => XS.astore hA hx rfl (hb ▸ hd) rfl hv hl (by subst hq; exact hk)) K
theorem Go.iinc {i : Nat} {cst : Int} {x cv : Int32} (hd : decode bytes pc = .ok (.iinc i cst, 3)) (hq : pc + 3 = pc') (hv : Int32.ofInt cst = cv) (hl : Ls[i]? = some (.val (.int x))) (hl' : storeLocals Ls i (.int (x + cv)) = some Ls') (K : Go l Z EL n0 nr kn y bytes mL ret R h0 WS Q SF h k n pc' Ls' st) : Go l Z EL n0 nr kn y bytes mL ret R h0 WS Q SF h k n pc Ls st :=
  Go.plain (fun p e below T m c target hA hx hb hk => XS.iinc hA hx rfl (hb ▸ hd) hl (by subst hv; exact hl') (by subst hq; exact hk)) K
theorem Go.irem {x z : Int32} (hd : decode bytes pc = .ok (.irem, 1)) (hq : pc + 1 = pc') (hz : z ≠ 0) (K : Go l Z EL n0 nr kn y bytes mL ret R h0 WS Q SF h k n pc' Ls (.int (x % z) :: st)) : Go l Z EL n0 nr kn y bytes mL ret R h0 WS Q SF h k n pc Ls (.int z :: .int x :: st) :=
  Go.plain (fun p e below T m c target hA hx hb hk => XS.irem hA hx rfl (hb ▸ hd) rfl hz (by rw [show x - x / z * z = x % z from irem_eq_mod x z]; subst hq; exact hk)) K
theorem Go.idiv {x z : Int32} (hd : decode bytes pc = .ok (.idiv, 1)) (hq : pc + 1 = pc') (hz : z ≠ 0) (K : Go l Z EL n0 nr kn y bytes mL ret R h0 WS Q SF h k n pc' Ls (.int (x / z) :: st)) : Go l Z EL n0 nr kn y bytes mL ret R h0 WS Q SF h k n pc Ls (.int z :: .int x :: st) :=
  Go.plain (fun p e below T m c target hA hx hb hk => XS.idiv hA hx rfl (hb ▸ hd) rfl hz (by subst hq; exact hk)) K
theorem Go.goto {o : Int} (hd : decode bytes pc = .ok (.goto o, 3)) (ho : 0 ≤ (pc : Int) + o) (hq : ((pc : Int) + o).toNat = pc') (K : Go l Z EL n0 nr kn y bytes mL ret R h0 WS Q SF h k n pc' Ls st) : Go l Z EL n0 nr kn y bytes mL ret R h0 WS Q SF h k n pc Ls st :=
  Go.plain (fun p e below T m c target hA hx hb hk => XS.goto hA hx rfl (pc0 := pc) (pc' := pc') rfl (hb ▸ hd) ho hq hk) K
theorem Go.ifY {cd : ClassFile.Cond} {x : Int32} {o : Int} (hd : decode bytes pc = .ok (.ifCond cd o, 3)) (ho : 0 ≤ (pc : Int) + o) (hq : ((pc : Int) + o).toNat = pc') (hc : ifCond.holds cd x = true) (K : Go l Z EL n0 nr kn y bytes mL ret R h0 WS Q SF h k n pc' Ls st) : Go l Z EL n0 nr kn y bytes mL ret R h0 WS Q SF h k n pc Ls (.int x :: st) :=
  Go.plain (fun p e below T m c target hA hx hb hk => XS.ifYes hA hx rfl (pc0 := pc) (pc' := pc') rfl (hb ▸ hd) rfl hc ho hq hk) K
theorem Go.icmpY {cd : ClassFile.Cond} {x z : Int32} {o : Int} (hd : decode bytes pc = .ok (.if_icmp cd o, 3)) (ho : 0 ≤ (pc : Int) + o) (hq : ((pc : Int) + o).toNat = pc') (hc : if_icmp.holds cd x z = true) (K : Go l Z EL n0 nr kn y bytes mL ret R h0 WS Q SF h k n pc' Ls st) : Go l Z EL n0 nr kn y bytes mL ret R h0 WS Q SF h k n pc Ls (.int z :: .int x :: st) :=
  Go.plain (fun p e below T m c target hA hx hb hk => XS.icmpYes hA hx rfl (pc0 := pc) (pc' := pc') rfl (hb ▸ hd) rfl hc ho hq hk) K
theorem Go.ifnullY {o : Int} (hd : decode bytes pc = .ok (.ifnull o, 3)) (ho : 0 ≤ (pc : Int) + o) (hq : ((pc : Int) + o).toNat = pc') (K : Go l Z EL n0 nr kn y bytes mL ret R h0 WS Q SF h k n pc' Ls st) : Go l Z EL n0 nr kn y bytes mL ret R h0 WS Q SF h k n pc Ls (.null :: st) :=
  Go.plain (fun p e below T m c target hA hx hb hk => XS.ifnullYes hA hx rfl (pc0 := pc) (pc' := pc') rfl (hb ▸ hd) rfl ho hq hk) K
theorem Go.ifnonnullY {b : Addr} {o : Int} (hd : decode bytes pc = .ok (.ifnonnull o, 3)) (ho : 0 ≤ (pc : Int) + o) (hq : ((pc : Int) + o).toNat = pc') (K : Go l Z EL n0 nr kn y bytes mL ret R h0 WS Q SF h k n pc' Ls st) : Go l Z EL n0 nr kn y bytes mL ret R h0 WS Q SF h k n pc Ls (.ref b :: st) :=
  Go.plain (fun p e below T m c target hA hx hb hk => XS.ifnonnullYes hA hx rfl (pc0 := pc) (pc' := pc') rfl (hb ▸ hd) rfl ho hq hk) K
theorem Go.ifN {cd : ClassFile.Cond} {o : Int} {x : Int32} (hd : decode bytes pc = .ok (.ifCond cd o, 3)) (hq : pc + 3 = pc') (hc : ifCond.holds cd x = false) (K : Go l Z EL n0 nr kn y bytes mL ret R h0 WS Q SF h k n pc' Ls st) : Go l Z EL n0 nr kn y bytes mL ret R h0 WS Q SF h k n pc Ls (.int x :: st) :=
  Go.plain (fun p e below T m c target hA hx hb hk => XS.ifNo hA hx rfl (hb ▸ hd) rfl hc (by subst hq; exact hk)) K
theorem Go.icmpN {cd : ClassFile.Cond} {o : Int} {x z : Int32} (hd : decode bytes pc = .ok (.if_icmp cd o, 3)) (hq : pc + 3 = pc') (hc : if_icmp.holds cd x z = false) (K : Go l Z EL n0 nr kn y bytes mL ret R h0 WS Q SF h k n pc' Ls st) : Go l Z EL n0 nr kn y bytes mL ret R h0 WS Q SF h k n pc Ls (.int z :: .int x :: st) :=
  Go.plain (fun p e below T m c target hA hx hb hk => XS.icmpNo hA hx rfl (hb ▸ hd) rfl hc (by subst hq; exact hk)) K
theorem Go.ifnullN {o : Int} {b : Addr} (hd : decode bytes pc = .ok (.ifnull o, 3)) (hq : pc + 3 = pc') (K : Go l Z EL n0 nr kn y bytes mL ret R h0 WS Q SF h k n pc' Ls st) : Go l Z EL n0 nr kn y bytes mL ret R h0 WS Q SF h k n pc Ls (.ref b :: st) :=
  Go.plain (fun p e below T m c target hA hx hb hk => XS.ifnullNo hA hx rfl (hb ▸ hd) rfl (by subst hq; exact hk)) K
theorem Go.ifnonnullN {o : Int} (hd : decode bytes pc = .ok (.ifnonnull o, 3)) (hq : pc + 3 = pc') (K : Go l Z EL n0 nr kn y bytes mL ret R h0 WS Q SF h k n pc' Ls st) : Go l Z EL n0 nr kn y bytes mL ret R h0 WS Q SF h k n pc Ls (.null :: st) :=
  Go.plain (fun p e below T m c target hA hx hb hk => XS.ifnonnullNo hA hx rfl (hb ▸ hd) rfl (by subst hq; exact hk)) K
theorem Go.acmp {cd : ACond} {v u : Value} {o : Int} {same : Bool} (hd : decode bytes pc = .ok (.if_acmp cd o, 3)) (hv : v.isRef = true) (hu : u.isRef = true) (hs : decide (v = u) = same) (ho : 0 ≤ (pc : Int) + o) (hq : pc' = if acV cd same = true then ((pc : Int) + o).toNat else pc + 3) (K : Go l Z EL n0 nr kn y bytes mL ret R h0 WS Q SF h k n pc' Ls st) : Go l Z EL n0 nr kn y bytes mL ret R h0 WS Q SF h k n pc Ls (u :: v :: st) := by
  intro p e s m args below meth c T hR
  obtain ⟨t, o, hs', r⟩ := K p e s m args below meth c T hR
  obtain ⟨⟨hx, hb, -⟩, vm0, k0, locs, X, -⟩ := hR
  exact ⟨t, o, Jvm.RoadKit.acmp (g := mkF m pc Ls (u :: v :: st)) X hx rfl hv hu (pc0 := pc) (pc' := pc') (same := same) rfl (hb ▸ hd) rfl hs ho hq hs', r⟩
theorem Go.getF {R0 O nf d host : String} {index : Nat} {a : Addr} {v : Value} (hd : decode bytes pc = .ok (.getfield index, 3)) (hq : pc + 3 = pc') (w : (Jvm.Cond.fieldLink y.cls index R0 nf d).before a0 Z = true ∨ (Jvm.Cond.fieldLinkNest y.cls index R0 nf d host).before a0 Z = true) (via : Via Z R0 O nf d) (F : Fld Z h a O nf d v) (K : Go l Z EL n0 nr kn y bytes mL ret R h0 WS Q SF h k n pc' Ls (v :: st)) : Go l Z EL n0 nr kn y bytes mL ret R h0 WS Q SF h k n pc Ls (.ref a :: st) := by
  intro p e s m args below meth c T hR
  obtain ⟨⟨hx, hby, hml, hown, hnm, hret, hlk, hkn⟩, vm0, k0, locs, X, e0, C⟩ := hR
  have hZ : Z.Warmed39 (s.setVm vm0).vm := C.1
  have hown' : (s.setVm vm0).vm.findClass y.cls = some m.cls := by rw [show (s.setVm vm0).vm = vm0 from rfl, C.2.1.1.1.alike.findClass]; exact hown
  obtain ⟨T', X', e', st'⟩ := Jvm.RoadKit.getF X hx hZ hown' w via e0 F (g := mkF m pc Ls (.ref a :: st)) rfl rfl (hb hby hd)
  obtain ⟨t, o, hs, r⟩ := K p e s m args below meth c T' ⟨⟨hx, hby, hml, hown, hnm, hret, hlk, hkn⟩, vm0, k0, locs, X', e', C⟩
  exact ⟨t, o, st' _ (by subst hq; exact hs), r⟩
theorem Go.getS {R0 O nf d host : String} {index : Nat} {v : Value} (hd : decode bytes pc = .ok (.getstatic index, 3)) (hq : pc + 3 = pc') (w : (Jvm.Cond.fieldLink y.cls index R0 nf d).before a0 Z = true ∨ (Jvm.Cond.fieldLinkNest y.cls index R0 nf d host).before a0 Z = true) (via : Via Z R0 O nf d) (F : Sta Z Z.heap O nf d v) (K : Go l Z EL n0 nr kn y bytes mL ret R h0 WS Q SF h k n pc' Ls (v :: st)) : Go l Z EL n0 nr kn y bytes mL ret R h0 WS Q SF h k n pc Ls st := by
  intro p e s m args below meth c T hR
  obtain ⟨⟨hx, hby, hml, hown, hnm, hret, hlk, hkn⟩, vm0, k0, locs, X, e0, C⟩ := hR
  have hZ : Z.Warmed39 (s.setVm vm0).vm := C.1
  have hown' : (s.setVm vm0).vm.findClass y.cls = some m.cls := by rw [show (s.setVm vm0).vm = vm0 from rfl, C.2.1.1.1.alike.findClass]; exact hown
  obtain ⟨T', X', e', st'⟩ := Jvm.RoadKit.getS2 X hx hZ hown' w via e0 (F.ext C.2.2.2.2.2.2.1.2) (g := mkF m pc Ls st) rfl (hb hby hd)
  obtain ⟨t, o, hs, r⟩ := K p e s m args below meth c T' ⟨⟨hx, hby, hml, hown, hnm, hret, hlk, hkn⟩, vm0, k0, locs, X', e', C⟩
  exact ⟨t, o, st' _ (by subst hq; exact hs), r⟩
theorem Go.castY {D : String} {index : Nat} {a : Addr} (hd : decode bytes pc = .ok (.checkcast index, 3)) (hq : pc + 3 = pc') (w : (Jvm.Cond.classLink y.cls index D).before a0 Z = true) (F : Ins Z h a D true) (K : Go l Z EL n0 nr kn y bytes mL ret R h0 WS Q SF h k n pc' Ls (.ref a :: st)) : Go l Z EL n0 nr kn y bytes mL ret R h0 WS Q SF h k n pc Ls (.ref a :: st) := by
  intro p e s m args below meth c T hR
  obtain ⟨⟨hx, hby, hml, hown, hnm, hret, hlk, hkn⟩, vm0, k0, locs, X, e0, C⟩ := hR
  have hZ : Z.Warmed39 (s.setVm vm0).vm := C.1
  have hown' : (s.setVm vm0).vm.findClass y.cls = some m.cls := by rw [show (s.setVm vm0).vm = vm0 from rfl, C.2.1.1.1.alike.findClass]; exact hown
  obtain ⟨T', X', e', st'⟩ := Jvm.RoadKit.castY X hx hZ hown' w e0 F (g := mkF m pc Ls (.ref a :: st)) rfl rfl (hb hby hd)
  obtain ⟨t, o, hs, r⟩ := K p e s m args below meth c T' ⟨⟨hx, hby, hml, hown, hnm, hret, hlk, hkn⟩, vm0, k0, locs, X', e', C⟩
  exact ⟨t, o, st' _ (by subst hq; exact hs), r⟩
theorem Go.instY {D : String} {index : Nat} {a : Addr} (hd : decode bytes pc = .ok (.instanceof index, 3)) (hq : pc + 3 = pc') (w : (Jvm.Cond.classLink y.cls index D).before a0 Z = true) (F : Ins Z h a D true) (K : Go l Z EL n0 nr kn y bytes mL ret R h0 WS Q SF h k n pc' Ls (.int 1 :: st)) : Go l Z EL n0 nr kn y bytes mL ret R h0 WS Q SF h k n pc Ls (.ref a :: st) := by
  intro p e s m args below meth c T hR
  obtain ⟨⟨hx, hby, hml, hown, hnm, hret, hlk, hkn⟩, vm0, k0, locs, X, e0, C⟩ := hR
  have hZ : Z.Warmed39 (s.setVm vm0).vm := C.1
  have hown' : (s.setVm vm0).vm.findClass y.cls = some m.cls := by rw [show (s.setVm vm0).vm = vm0 from rfl, C.2.1.1.1.alike.findClass]; exact hown
  obtain ⟨T', X', e', st'⟩ := Jvm.RoadKit.instY X hx hZ hown' w e0 F (g := mkF m pc Ls (.ref a :: st)) rfl rfl (hb hby hd)
  obtain ⟨t, o, hs, r⟩ := K p e s m args below meth c T' ⟨⟨hx, hby, hml, hown, hnm, hret, hlk, hkn⟩, vm0, k0, locs, X', e', C⟩
  exact ⟨t, o, st' _ (by subst hq; exact hs), r⟩
theorem Go.instNo {D CC : String} {index : Nat} {a : Addr} (hd : decode bytes pc = .ok (.instanceof index, 3)) (hq : pc + 3 = pc') (w : (Jvm.Cond.classLink y.cls index D).before a0 Z = true) (E : Exa Z h a CC) (F : ∃ c t, Z.vm.findClass CC = some c ∧ Z.vm.findClass D = some t ∧ Z.vm.assignable c t = false) (K : Go l Z EL n0 nr kn y bytes mL ret R h0 WS Q SF h k n pc' Ls (.int 0 :: st)) : Go l Z EL n0 nr kn y bytes mL ret R h0 WS Q SF h k n pc Ls (.ref a :: st) := by
  intro p e s m args below meth c T hR
  obtain ⟨⟨hx, hby, hml, hown, hnm, hret, hlk, hkn⟩, vm0, k0, locs, X, e0, C⟩ := hR
  have hZ : Z.Warmed39 (s.setVm vm0).vm := C.1
  have hown' : (s.setVm vm0).vm.findClass y.cls = some m.cls := by rw [show (s.setVm vm0).vm = vm0 from rfl, C.2.1.1.1.alike.findClass]; exact hown
  obtain ⟨T', X', e', st'⟩ := Jvm.RoadKit.instNo X hx hZ hown' w e0 E F (g := mkF m pc Ls (.ref a :: st)) rfl rfl (hb hby hd)
  obtain ⟨t, o, hs, r⟩ := K p e s m args below meth c T' ⟨⟨hx, hby, hml, hown, hnm, hret, hlk, hkn⟩, vm0, k0, locs, X', e', C⟩
  exact ⟨t, o, st' _ (by subst hq; exact hs), r⟩
theorem Go.initO {index W : Nat} {a : Addr} (hd : decode bytes pc = .ok (.invokespecial index, 3)) (hq : pc + 3 = pc') (w1 : (Jvm.Cond.methodLink y.cls index Lib.objectInit).before a0 Z = true) (w2 : (Jvm.Cond.instanceMethod Lib.objectInit).before a0 Z = true) (w3 : (Jvm.Cond.code Lib.objectInit ⟨#[0xb1]⟩ 1 none).before a0 Z = true) (hsz : Ls.size = mL) (hf : 1 ≤ R.frames) (hW : (st.map fun v => v.category).sum ≤ W) (hl : W + 12 ≤ R.locals) (K : Go l Z EL n0 nr kn y bytes mL ret R h0 WS Q SF h k n pc' Ls st) : Go l Z EL n0 nr kn y bytes mL ret R h0 WS Q SF h k n pc Ls (.ref a :: st) := by
  intro p e s m args below meth c T hR
  obtain ⟨⟨hx, hby, hml, hown, hnm, hret, hlk, hkn⟩, vm0, k0, locs, X, e0, C⟩ := hR
  have hZ : Z.Warmed39 (s.setVm vm0).vm := C.1
  have hown' : (s.setVm vm0).vm.findClass y.cls = some m.cls := by rw [show (s.setVm vm0).vm = vm0 from rfl, C.2.1.1.1.alike.findClass]; exact hown
  obtain ⟨T', X', e', st'⟩ := Jvm.RoadKit.initO X hx hZ hown' w1 w2 w3 e0 (g := mkF m pc Ls (.ref a :: st)) rfl (by rw [hml]; exact hsz) rfl (hb hby hd) hf (W := W) (by show 2 * 0 + _ ≤ _; rw [Nat.mul_zero, Nat.zero_add]; exact hW) hl
  obtain ⟨t, o, hs, r⟩ := K p e s m args below meth c T' ⟨⟨hx, hby, hml, hown, hnm, hret, hlk, hkn⟩, vm0, k0, locs, X', e', C⟩
  exact ⟨t, o, st' _ (by subst hq; exact hs), r⟩
theorem Go.gcls {index W : Nat} {CC : String} {a mr : Addr} (hd : decode bytes pc = .ok (.invokevirtual index, 3)) (hq : pc + 3 = pc') (w1 : (Jvm.Cond.methodLink y.cls index ⟨"java/lang/Object", "getClass", "()Ljava/lang/Class;"⟩).before a0 Z = true) (w2 : (Jvm.Cond.declares ⟨"java/lang/Object", "getClass", "()Ljava/lang/Class;"⟩).before a0 Z = true) (w3 : (Jvm.Cond.noSuperclass "java/lang/Object").before a0 Z = true) (w4 : (Jvm.Cond.selects CC ⟨"java/lang/Object", "getClass", "()Ljava/lang/Class;"⟩ ⟨"java/lang/Object", "getClass", "()Ljava/lang/Class;"⟩).before a0 Z = true)
    (w5 : (Jvm.Cond.instanceMethod ⟨"java/lang/Object", "getClass", "()Ljava/lang/Class;"⟩).before a0 Z = true) (w6 : (Jvm.Cond.native ⟨"java/lang/Object", "getClass", "()Ljava/lang/Class;"⟩).before a0 Z = true) (E : Exa Z h a CC) (M : Mr Z CC mr) (hsz : Ls.size = mL) (hf : 1 ≤ R.frames) (hW : (st.map fun v => v.category).sum ≤ W) (hl : W + (nativeFrameWords "java/lang/Object" "getClass" 1 + 11) ≤ R.locals) (K : Go l Z EL n0 nr kn y bytes mL ret R h0 WS Q SF h k n pc' Ls (.ref mr :: st)) : Go l Z EL n0 nr kn y bytes mL ret R h0 WS Q SF h k n pc Ls (.ref a :: st) := by
  intro p e s m args below meth c T hR
  obtain ⟨⟨hx, hby, hml, hown, hnm, hret, hlk, hkn⟩, vm0, k0, locs, X, e0, C⟩ := hR
  have hZ : Z.Warmed39 (s.setVm vm0).vm := C.1
  have hown' : (s.setVm vm0).vm.findClass y.cls = some m.cls := by rw [show (s.setVm vm0).vm = vm0 from rfl, C.2.1.1.1.alike.findClass]; exact hown
  obtain ⟨cB, kB, i1, i2, i3⟩ := isOf hZ e0 E
  obtain ⟨cc, kc, m1, m2, m3⟩ := M
  rw [hZ.alike.findClass] at i1
  cases i1.symm.trans m1
  obtain ⟨k', q, ek⟩ := hZ.alike.2.2 _ _ m2
  obtain ⟨vm', X', st'⟩ := X.getClassOf hx hown' (mvT hZ w1) (mvT hZ w2) (nf_top (args := #[]) (mvT hZ w3)) (mvT hZ w4) (mvT hZ w5) (mvT hZ w6) (by rw [hZ.alike.findClass]; exact m1) i3 q (by rw [ek]; exact m3) (g := mkF m pc Ls (.ref a :: st)) rfl (by rw [hml]; exact hsz) rfl (hb hby hd) hf (by show 2 * 0 + _ + _ ≤ _; omega)
  obtain ⟨t, o, hs, r⟩ := K p e s m args below meth c _ ⟨⟨hx, hby, hml, hown, hnm, hret, hlk, hkn⟩, vm0, k0, locs, X', e0, C⟩
  exact ⟨t, o, st' _ (by subst hq; exact hs), r⟩
theorem Go.ldcM {index : Nat} {CC : String} {mr : Addr} (hd : decode bytes pc = .ok (.ldc index, 2)) (hq : pc + 2 = pc') (w : (Jvm.Cond.classLink y.cls index CC).before a0 Z = true) (M : Mr Z CC mr) (K : Go l Z EL n0 nr kn y bytes mL ret R h0 WS Q SF h k n pc' Ls (.ref mr :: st)) : Go l Z EL n0 nr kn y bytes mL ret R h0 WS Q SF h k n pc Ls st := by
  intro p e s m args below meth c T hR
  obtain ⟨⟨hx, hby, hml, hown, hnm, hret, hlk, hkn⟩, vm0, k0, locs, X, e0, C⟩ := hR
  have hZ : Z.Warmed39 (s.setVm vm0).vm := C.1
  have hown' : (s.setVm vm0).vm.findClass y.cls = some m.cls := by rw [show (s.setVm vm0).vm = vm0 from rfl, C.2.1.1.1.alike.findClass]; exact hown
  obtain ⟨cc, kc, m1, m2, m3⟩ := M
  obtain ⟨k', q, ek⟩ := hZ.alike.2.2 _ _ m2
  have hev : (Term.mirror CC).eval args (s.setVm vm0) none [] (s.setVm vm0) = some (.ref mr) := by
    have q1 : (s.setVm vm0).vm.findClass CC = some cc := by rw [hZ.alike.findClass]; exact m1
    have q2 : k'.mirror = some mr := by rw [ek]; exact m3
    simp only [Term.eval, q1, q, q2, Option.bind_eq_bind, Option.bind_some, Option.pure_def]
  obtain ⟨vm', X', st'⟩ := X.ldcMirror hx hown' (mvT hZ w) hev (g := mkF m pc Ls st) rfl (hb hby hd)
  obtain ⟨t, o, hs, r⟩ := K p e s m args below meth c _ ⟨⟨hx, hby, hml, hown, hnm, hret, hlk, hkn⟩, vm0, k0, locs, X', e0, C⟩
  exact ⟨t, o, st' _ (by subst hq; exact hs), r⟩
theorem Go.ldcInt {index : Nat} {v : Int32} (hd : decode bytes pc = .ok (.ldc index, 2)) (hq : pc + 2 = pc') (w : (Jvm.Cond.constant y.cls index v).before a0 Z = true) (K : Go l Z EL n0 nr kn y bytes mL ret R h0 WS Q SF h k n pc' Ls (.int v :: st)) : Go l Z EL n0 nr kn y bytes mL ret R h0 WS Q SF h k n pc Ls st := by
  intro p e s m args below meth c T hR
  obtain ⟨⟨hx, hby, hml, hown, hnm, hret, hlk, hkn⟩, vm0, k0, locs, X, e0, C⟩ := hR
  have hZ : Z.Warmed39 (s.setVm vm0).vm := C.1
  have hown' : (s.setVm vm0).vm.findClass y.cls = some m.cls := by rw [show (s.setVm vm0).vm = vm0 from rfl, C.2.1.1.1.alike.findClass]; exact hown
  obtain ⟨t, o, hs, r⟩ := K p e s m args below meth c T ⟨⟨hx, hby, hml, hown, hnm, hret, hlk, hkn⟩, vm0, k0, locs, X, e0, C⟩
  exact ⟨t, o, X.ldcInt hx hown' (mvT hZ w) (g := mkF m pc Ls st) rfl (hb hby hd) _ (by subst hq; exact hs), r⟩
theorem Go.ldc2Long {index : Nat} {v : Int64} (hd : decode bytes pc = .ok (.ldc2_w index, 3)) (hq : pc + 3 = pc') (w : (Jvm.Cond.constantLong y.cls index v).before a0 Z = true) (K : Go l Z EL n0 nr kn y bytes mL ret R h0 WS Q SF h k n pc' Ls (.long v :: st)) : Go l Z EL n0 nr kn y bytes mL ret R h0 WS Q SF h k n pc Ls st := by
  intro p e s m args below meth c T hR
  obtain ⟨⟨hx, hby, hml, hown, hnm, hret, hlk, hkn⟩, vm0, k0, locs, X, e0, C⟩ := hR
  have hZ : Z.Warmed39 (s.setVm vm0).vm := C.1
  have hown' : (s.setVm vm0).vm.findClass y.cls = some m.cls := by rw [show (s.setVm vm0).vm = vm0 from rfl, C.2.1.1.1.alike.findClass]; exact hown
  obtain ⟨t, o, hs, r⟩ := K p e s m args below meth c T ⟨⟨hx, hby, hml, hown, hnm, hret, hlk, hkn⟩, vm0, k0, locs, X, e0, C⟩
  exact ⟨t, o, X.ldc2Long hx hown' (mvT hZ w) (g := mkF m pc Ls st) rfl (hb hby hd) _ (by subst hq; exact hs), r⟩
theorem Go.arraylength {a : Addr} {cl : Cell} {ty : FieldType} {z : Int32} (hd : decode bytes pc = .ok (.arraylength, 1)) (hq : pc + 1 = pc') (F : Arr Z h a cl ty) (hz : cl.slots.size.toInt32 = z) (K : Go l Z EL n0 nr kn y bytes mL ret R h0 WS Q SF h k n pc' Ls (.int z :: st)) : Go l Z EL n0 nr kn y bytes mL ret R h0 WS Q SF h k n pc Ls (.ref a :: st) := by
  intro p e s m args below meth c T hR
  obtain ⟨⟨hx, hby, hml, hown, hnm, hret, hlk, hkn⟩, vm0, k0, locs, X, e0, C⟩ := hR
  have hZ : Z.Warmed39 (s.setVm vm0).vm := C.1
  have hown' : (s.setVm vm0).vm.findClass y.cls = some m.cls := by rw [show (s.setVm vm0).vm = vm0 from rfl, C.2.1.1.1.alike.findClass]; exact hown
  obtain ⟨t, o, hs, r⟩ := K p e s m args below meth c T ⟨⟨hx, hby, hml, hown, hnm, hret, hlk, hkn⟩, vm0, k0, locs, X, e0, C⟩
  exact ⟨t, o, X.arraylength hx (by rw [e0]; exact F.1) (State.isArrayOf_alike hZ.alike F.2.1) (g := mkF m pc Ls (.ref a :: st)) rfl rfl (hb hby hd) _ (by subst hq; rw [hz]; exact hs), r⟩
theorem Go.lenV {a : Addr} {kk : ClassId} {ty : FieldType} {z : Int32} {vs : List Value} {dv : Value} (hd : decode bytes pc = .ok (.arraylength, 1)) (hq : pc + 1 = pc') (F : Arv Z h a kk ty z vs dv) (K : Go l Z EL n0 nr kn y bytes mL ret R h0 WS Q SF h k n pc' Ls (.int z :: st)) : Go l Z EL n0 nr kn y bytes mL ret R h0 WS Q SF h k n pc Ls (.ref a :: st) := by
  intro p e s m args below meth c T hR
  obtain ⟨⟨hx, hby, hml, hown, hnm, hret, hlk, hkn⟩, vm0, k0, locs, X, e0, C⟩ := hR
  have hZ : Z.Warmed39 (s.setVm vm0).vm := C.1
  have hown' : (s.setVm vm0).vm.findClass y.cls = some m.cls := by rw [show (s.setVm vm0).vm = vm0 from rfl, C.2.1.1.1.alike.findClass]; exact hown
  obtain ⟨cl, F, -, S, N, -, -⟩ := F
  obtain ⟨t, o, hs, r⟩ := K p e s m args below meth c T ⟨⟨hx, hby, hml, hown, hnm, hret, hlk, hkn⟩, vm0, k0, locs, X, e0, C⟩
  exact ⟨t, o, X.arraylength hx (by rw [e0]; exact F.1) (State.isArrayOf_alike hZ.alike F.2.1) (g := mkF m pc Ls (.ref a :: st)) rfl rfl (hb hby hd) _ (by subst hq; rw [len_of S N]; exact hs), r⟩
theorem Go.caload {a : Addr} {cl : Cell} {j : Int32} {v : Value} (hd : decode bytes pc = .ok (.caload, 1)) (hq : pc + 1 = pc') (F : Arr Z h a cl .char) (hin : ¬ (j < 0 ∨ cl.slots.size ≤ j.toNatClampNeg)) (hv : cl.slots[j.toNatClampNeg]? = some v) (K : Go l Z EL n0 nr kn y bytes mL ret R h0 WS Q SF h k n pc' Ls (v :: st)) : Go l Z EL n0 nr kn y bytes mL ret R h0 WS Q SF h k n pc Ls (.int j :: .ref a :: st) := by
  intro p e s m args below meth c T hR
  obtain ⟨⟨hx, hby, hml, hown, hnm, hret, hlk, hkn⟩, vm0, k0, locs, X, e0, C⟩ := hR
  have hZ : Z.Warmed39 (s.setVm vm0).vm := C.1
  have hown' : (s.setVm vm0).vm.findClass y.cls = some m.cls := by rw [show (s.setVm vm0).vm = vm0 from rfl, C.2.1.1.1.alike.findClass]; exact hown
  obtain ⟨t, o, hs, r⟩ := K p e s m args below meth c T ⟨⟨hx, hby, hml, hown, hnm, hret, hlk, hkn⟩, vm0, k0, locs, X, e0, C⟩
  exact ⟨t, o, X.caload hx (by rw [e0]; exact F.1) (State.isArrayOf_alike hZ.alike F.2.1) F.2.2 hin hv (g := mkF m pc Ls (.int j :: .ref a :: st)) rfl rfl (hb hby hd) _ (by subst hq; exact hs), r⟩
theorem Go.caloadV {a : Addr} {kk : ClassId} {z j : Int32} {vs : List Value} {v dv : Value} (hd : decode bytes pc = .ok (.caload, 1)) (hq : pc + 1 = pc') (F : Arv Z h a kk .char z vs dv) (hj : ¬ j < 0 ∧ j < z) (hv : vs.getD j.toNatClampNeg dv = v) (K : Go l Z EL n0 nr kn y bytes mL ret R h0 WS Q SF h k n pc' Ls (v :: st)) : Go l Z EL n0 nr kn y bytes mL ret R h0 WS Q SF h k n pc Ls (.int j :: .ref a :: st) := by
  intro p e s m args below meth c T hR
  obtain ⟨⟨hx, hby, hml, hown, hnm, hret, hlk, hkn⟩, vm0, k0, locs, X, e0, C⟩ := hR
  have hZ : Z.Warmed39 (s.setVm vm0).vm := C.1
  have hown' : (s.setVm vm0).vm.findClass y.cls = some m.cls := by rw [show (s.setVm vm0).vm = vm0 from rfl, C.2.1.1.1.alike.findClass]; exact hown
  obtain ⟨cl, F, -, S, N, H, -⟩ := F
  have hin := inb_of S hj
  have hv := Has.at H hin hv
  obtain ⟨t, o, hs, r⟩ := K p e s m args below meth c T ⟨⟨hx, hby, hml, hown, hnm, hret, hlk, hkn⟩, vm0, k0, locs, X, e0, C⟩
  exact ⟨t, o, X.caload hx (by rw [e0]; exact F.1) (State.isArrayOf_alike hZ.alike F.2.1) F.2.2 hin hv (g := mkF m pc Ls (.int j :: .ref a :: st)) rfl rfl (hb hby hd) _ (by subst hq; exact hs), r⟩
theorem Go.baload {a : Addr} {cl : Cell} {j : Int32} {v : Value} (hd : decode bytes pc = .ok (.baload, 1)) (hq : pc + 1 = pc') (F : Arr Z h a cl .byte) (hin : ¬ (j < 0 ∨ cl.slots.size ≤ j.toNatClampNeg)) (hv : cl.slots[j.toNatClampNeg]? = some v) (K : Go l Z EL n0 nr kn y bytes mL ret R h0 WS Q SF h k n pc' Ls (v :: st)) : Go l Z EL n0 nr kn y bytes mL ret R h0 WS Q SF h k n pc Ls (.int j :: .ref a :: st) := by
  intro p e s m args below meth c T hR
  obtain ⟨⟨hx, hby, hml, hown, hnm, hret, hlk, hkn⟩, vm0, k0, locs, X, e0, C⟩ := hR
  have hZ : Z.Warmed39 (s.setVm vm0).vm := C.1
  have hown' : (s.setVm vm0).vm.findClass y.cls = some m.cls := by rw [show (s.setVm vm0).vm = vm0 from rfl, C.2.1.1.1.alike.findClass]; exact hown
  obtain ⟨t, o, hs, r⟩ := K p e s m args below meth c T ⟨⟨hx, hby, hml, hown, hnm, hret, hlk, hkn⟩, vm0, k0, locs, X, e0, C⟩
  exact ⟨t, o, X.baloadBytes hx (by rw [e0]; exact F.1) (State.isArrayOf_alike hZ.alike F.2.1) F.2.2 hin hv (g := mkF m pc Ls (.int j :: .ref a :: st)) rfl rfl (hb hby hd) _ (by subst hq; exact hs), r⟩
theorem Go.baloadV {a : Addr} {kk : ClassId} {z j : Int32} {vs : List Value} {v dv : Value} (hd : decode bytes pc = .ok (.baload, 1)) (hq : pc + 1 = pc') (F : Arv Z h a kk .byte z vs dv) (hj : ¬ j < 0 ∧ j < z) (hv : vs.getD j.toNatClampNeg dv = v) (K : Go l Z EL n0 nr kn y bytes mL ret R h0 WS Q SF h k n pc' Ls (v :: st)) : Go l Z EL n0 nr kn y bytes mL ret R h0 WS Q SF h k n pc Ls (.int j :: .ref a :: st) := by
  intro p e s m args below meth c T hR
  obtain ⟨⟨hx, hby, hml, hown, hnm, hret, hlk, hkn⟩, vm0, k0, locs, X, e0, C⟩ := hR
  have hZ : Z.Warmed39 (s.setVm vm0).vm := C.1
  have hown' : (s.setVm vm0).vm.findClass y.cls = some m.cls := by rw [show (s.setVm vm0).vm = vm0 from rfl, C.2.1.1.1.alike.findClass]; exact hown
  obtain ⟨cl, F, -, S, N, H, -⟩ := F
  have hin := inb_of S hj
  have hv := Has.at H hin hv
  obtain ⟨t, o, hs, r⟩ := K p e s m args below meth c T ⟨⟨hx, hby, hml, hown, hnm, hret, hlk, hkn⟩, vm0, k0, locs, X, e0, C⟩
  exact ⟨t, o, X.baloadBytes hx (by rw [e0]; exact F.1) (State.isArrayOf_alike hZ.alike F.2.1) F.2.2 hin hv (g := mkF m pc Ls (.int j :: .ref a :: st)) rfl rfl (hb hby hd) _ (by subst hq; exact hs), r⟩
theorem Go.iaload {a : Addr} {cl : Cell} {j : Int32} {v : Value} (hd : decode bytes pc = .ok (.iaload, 1)) (hq : pc + 1 = pc') (F : Arr Z h a cl .int) (hin : ¬ (j < 0 ∨ cl.slots.size ≤ j.toNatClampNeg)) (hv : cl.slots[j.toNatClampNeg]? = some v) (K : Go l Z EL n0 nr kn y bytes mL ret R h0 WS Q SF h k n pc' Ls (v :: st)) : Go l Z EL n0 nr kn y bytes mL ret R h0 WS Q SF h k n pc Ls (.int j :: .ref a :: st) := by
  intro p e s m args below meth c T hR
  obtain ⟨⟨hx, hby, hml, hown, hnm, hret, hlk, hkn⟩, vm0, k0, locs, X, e0, C⟩ := hR
  have hZ : Z.Warmed39 (s.setVm vm0).vm := C.1
  have hown' : (s.setVm vm0).vm.findClass y.cls = some m.cls := by rw [show (s.setVm vm0).vm = vm0 from rfl, C.2.1.1.1.alike.findClass]; exact hown
  obtain ⟨t, o, hs, r⟩ := K p e s m args below meth c T ⟨⟨hx, hby, hml, hown, hnm, hret, hlk, hkn⟩, vm0, k0, locs, X, e0, C⟩
  exact ⟨t, o, X.iaload hx (by rw [e0]; exact F.1) (State.isArrayOf_alike hZ.alike F.2.1) F.2.2 hin hv (g := mkF m pc Ls (.int j :: .ref a :: st)) rfl rfl (hb hby hd) _ (by subst hq; exact hs), r⟩
theorem Go.ialoadV {a : Addr} {kk : ClassId} {z j : Int32} {vs : List Value} {v dv : Value} (hd : decode bytes pc = .ok (.iaload, 1)) (hq : pc + 1 = pc') (F : Arv Z h a kk .int z vs dv) (hj : ¬ j < 0 ∧ j < z) (hv : vs.getD j.toNatClampNeg dv = v) (K : Go l Z EL n0 nr kn y bytes mL ret R h0 WS Q SF h k n pc' Ls (v :: st)) : Go l Z EL n0 nr kn y bytes mL ret R h0 WS Q SF h k n pc Ls (.int j :: .ref a :: st) := by
  intro p e s m args below meth c T hR
  obtain ⟨⟨hx, hby, hml, hown, hnm, hret, hlk, hkn⟩, vm0, k0, locs, X, e0, C⟩ := hR
  have hZ : Z.Warmed39 (s.setVm vm0).vm := C.1
  have hown' : (s.setVm vm0).vm.findClass y.cls = some m.cls := by rw [show (s.setVm vm0).vm = vm0 from rfl, C.2.1.1.1.alike.findClass]; exact hown
  obtain ⟨cl, F, -, S, N, H, -⟩ := F
  have hin := inb_of S hj
  have hv := Has.at H hin hv
  obtain ⟨t, o, hs, r⟩ := K p e s m args below meth c T ⟨⟨hx, hby, hml, hown, hnm, hret, hlk, hkn⟩, vm0, k0, locs, X, e0, C⟩
  exact ⟨t, o, X.iaload hx (by rw [e0]; exact F.1) (State.isArrayOf_alike hZ.alike F.2.1) F.2.2 hin hv (g := mkF m pc Ls (.int j :: .ref a :: st)) rfl rfl (hb hby hd) _ (by subst hq; exact hs), r⟩
theorem Go.aaload {ty : FieldType} {a : Addr} {cl : Cell} {j : Int32} {v : Value} (hd : decode bytes pc = .ok (.aaload, 1)) (hq : pc + 1 = pc') (F : Arr Z h a cl ty) (hty : ty.isReference = true) (hin : ¬ (j < 0 ∨ cl.slots.size ≤ j.toNatClampNeg)) (hv : cl.slots[j.toNatClampNeg]? = some v) (K : Go l Z EL n0 nr kn y bytes mL ret R h0 WS Q SF h k n pc' Ls (v :: st)) : Go l Z EL n0 nr kn y bytes mL ret R h0 WS Q SF h k n pc Ls (.int j :: .ref a :: st) := by
  intro p e s m args below meth c T hR
  obtain ⟨⟨hx, hby, hml, hown, hnm, hret, hlk, hkn⟩, vm0, k0, locs, X, e0, C⟩ := hR
  have hZ : Z.Warmed39 (s.setVm vm0).vm := C.1
  have hown' : (s.setVm vm0).vm.findClass y.cls = some m.cls := by rw [show (s.setVm vm0).vm = vm0 from rfl, C.2.1.1.1.alike.findClass]; exact hown
  obtain ⟨t, o, hs, r⟩ := K p e s m args below meth c T ⟨⟨hx, hby, hml, hown, hnm, hret, hlk, hkn⟩, vm0, k0, locs, X, e0, C⟩
  exact ⟨t, o, X.aaload hx (by rw [e0]; exact F.1) (State.isArrayOf_alike hZ.alike F.2.1) hty F.2.2 hin hv (g := mkF m pc Ls (.int j :: .ref a :: st)) rfl rfl (hb hby hd) _ (by subst hq; exact hs), r⟩
theorem Go.aaloadV {ty : FieldType} {a : Addr} {kk : ClassId} {z j : Int32} {vs : List Value} {v dv : Value} (hd : decode bytes pc = .ok (.aaload, 1)) (hq : pc + 1 = pc') (F : Arv Z h a kk ty z vs dv) (hty : ty.isReference = true) (hj : ¬ j < 0 ∧ j < z) (hv : vs.getD j.toNatClampNeg dv = v) (K : Go l Z EL n0 nr kn y bytes mL ret R h0 WS Q SF h k n pc' Ls (v :: st)) : Go l Z EL n0 nr kn y bytes mL ret R h0 WS Q SF h k n pc Ls (.int j :: .ref a :: st) := by
  intro p e s m args below meth c T hR
  obtain ⟨⟨hx, hby, hml, hown, hnm, hret, hlk, hkn⟩, vm0, k0, locs, X, e0, C⟩ := hR
  have hZ : Z.Warmed39 (s.setVm vm0).vm := C.1
  have hown' : (s.setVm vm0).vm.findClass y.cls = some m.cls := by rw [show (s.setVm vm0).vm = vm0 from rfl, C.2.1.1.1.alike.findClass]; exact hown
  obtain ⟨cl, F, -, S, N, H, -⟩ := F
  have hin := inb_of S hj
  have hv := Has.at H hin hv
  obtain ⟨t, o, hs, r⟩ := K p e s m args below meth c T ⟨⟨hx, hby, hml, hown, hnm, hret, hlk, hkn⟩, vm0, k0, locs, X, e0, C⟩
  exact ⟨t, o, X.aaload hx (by rw [e0]; exact F.1) (State.isArrayOf_alike hZ.alike F.2.1) hty F.2.2 hin hv (g := mkF m pc Ls (.int j :: .ref a :: st)) rfl rfl (hb hby hd) _ (by subst hq; exact hs), r⟩
theorem Go.newO {CC : String} {index nn : Nat} (hd : decode bytes pc = .ok (.new index, 3)) (hq : pc + 3 = pc') (w : (Jvm.Cond.classLink y.cls index CC).before a0 Z = true) (wi : (Jvm.Cond.instantiable CC nn).before a0 Z = true) (wz : (Jvm.Cond.initialized CC).before a0 Z = true) (hc : k + 1 ≤ R.cells) (hl : n + nn ≤ R.slots)
    (K : ∀ h' a, h.size = a → h0.size ≤ a → Ext h h' → Exa Z h' a CC → (∀ {O nm d : String} {ty : FieldType}, Laid Z a0 CC O nm d → parseFieldDescriptor d = some ty → Fld Z h' a O nm d (defaultValue ty)) → Unt h' a → Go l Z EL n0 nr kn y bytes mL ret R h0 WS Q (a :: SF) h' (k + 1) (n + nn) pc' Ls (.ref a :: st)) : Go l Z EL n0 nr kn y bytes mL ret R h0 WS Q SF h k n pc Ls st := by
  intro p e s m args below meth c T hR
  obtain ⟨⟨hx, hby, hml, hown, hnm, hret, hlk, hkn⟩, vm0, k0, locs, X, e0, C⟩ := hR
  have hZ : Z.Warmed39 (s.setVm vm0).vm := C.1
  have hown' : (s.setVm vm0).vm.findClass y.cls = some m.cls := by rw [show (s.setVm vm0).vm = vm0 from rfl, C.2.1.1.1.alike.findClass]; exact hown
  obtain ⟨T', h', X', e', E, AA, D, U, st'⟩ := Jvm.RoadKit.newO X hx hZ hown' w wi wz e0 (g := mkF m pc Ls st) rfl (hb hby hd) hc hl
  have hlt : h.size < h'.size := AA.lt
  obtain ⟨t, o, hs, r⟩ := K h' h.size rfl C.2.2.2.2.2.2.2.1.1 E AA D U p e s m args below meth c T' ⟨⟨hx, hby, hml, hown, hnm, hret, hlk, hkn⟩, vm0, k0, locs, X', e', C.push E hlt⟩
  exact ⟨t, o, st' _ (by subst hq; exact hs), r⟩
theorem Go.newP {aty : ArrayType} {z : Int32} {cap : Nat} {ad : String} (hd : decode bytes pc = .ok (.newarray aty, 2)) (hq : pc + 2 = pc') (w : (Jvm.Cond.arrayClass (newarray.typeOf aty)).before a0 Z = true) (had : "[" ++ (newarray.typeOf aty).toString = ad) (hz : ¬ z < 0) (hcap : z.toNatClampNeg ≤ cap) (hbig : cap * 8 ≤ 536870912) (hc : k + 1 ≤ R.cells) (hl : n + cap ≤ R.slots)
    (K : ∀ h' a, h.size = a → h0.size ≤ a → ∀ cA, Ext h h' → Arv Z h' a cA (newarray.typeOf aty) z [] (defaultValue (newarray.typeOf aty)) → Exa Z h' a ad → Go l Z EL n0 nr kn y bytes mL ret R h0 WS Q (a :: SF) h' (k + 1) (n + cap) pc' Ls (.ref a :: st)) : Go l Z EL n0 nr kn y bytes mL ret R h0 WS Q SF h k n pc Ls (.int z :: st) := by
  intro p e s m args below meth c T hR
  obtain ⟨⟨hx, hby, hml, hown, hnm, hret, hlk, hkn⟩, vm0, k0, locs, X, e0, C⟩ := hR
  have hZ : Z.Warmed39 (s.setVm vm0).vm := C.1
  have hown' : (s.setVm vm0).vm.findClass y.cls = some m.cls := by rw [show (s.setVm vm0).vm = vm0 from rfl, C.2.1.1.1.alike.findClass]; exact hown
  obtain ⟨T', h', cA, X', e', E, AA, EE, st'⟩ := Jvm.RoadKit.newPE X hx hZ w e0 (g := mkF m pc Ls (.int z :: st)) rfl (hb hby hd) rfl hz hcap hbig hc hl had
  have hlt : h.size < h'.size := AA.lt
  obtain ⟨t, o, hs, r⟩ := K h' h.size rfl C.2.2.2.2.2.2.2.1.1 cA E (Arv.new AA hz) EE p e s m args below meth c T' ⟨⟨hx, hby, hml, hown, hnm, hret, hlk, hkn⟩, vm0, k0, locs, X', e', C.push E hlt⟩
  exact ⟨t, o, st' _ (by subst hq; exact hs), r⟩
theorem Go.newR {CC : String} {index : Nat} {z : Int32} {cap : Nat} {ad : String} (hd : decode bytes pc = .ok (.anewarray index, 3)) (hq : pc + 3 = pc') (w1 : (Jvm.Cond.classLink y.cls index CC).before a0 Z = true) (w2 : (Jvm.Cond.arrayOver (.object CC)).before a0 Z = true) (had : "[" ++ (FieldType.object CC).toString = ad) (hz : ¬ z < 0) (hcap : z.toNatClampNeg ≤ cap) (hbig : cap * 8 ≤ 536870912) (hc : k + 1 ≤ R.cells) (hl : n + cap ≤ R.slots)
    (K : ∀ h' a, h.size = a → h0.size ≤ a → ∀ cA, Ext h h' → Arv Z h' a cA (.object CC) z [] .null → Exa Z h' a ad → Ovr Z cA CC → Go l Z EL n0 nr kn y bytes mL ret R h0 WS Q (a :: SF) h' (k + 1) (n + cap) pc' Ls (.ref a :: st)) : Go l Z EL n0 nr kn y bytes mL ret R h0 WS Q SF h k n pc Ls (.int z :: st) := by
  intro p e s m args below meth c T hR
  obtain ⟨⟨hx, hby, hml, hown, hnm, hret, hlk, hkn⟩, vm0, k0, locs, X, e0, C⟩ := hR
  have hZ : Z.Warmed39 (s.setVm vm0).vm := C.1
  have hown' : (s.setVm vm0).vm.findClass y.cls = some m.cls := by rw [show (s.setVm vm0).vm = vm0 from rfl, C.2.1.1.1.alike.findClass]; exact hown
  obtain ⟨T', h', cA, X', e', E, AA, EE, OO, st'⟩ := Jvm.RoadKit.newRE X hx hZ hown' w1 w2 e0 (g := mkF m pc Ls (.int z :: st)) rfl (hb hby hd) rfl hz hcap hbig hc hl had
  have hlt : h.size < h'.size := AA.lt
  obtain ⟨t, o, hs, r⟩ := K h' h.size rfl C.2.2.2.2.2.2.2.1.1 cA E (Arv.new AA hz) EE OO p e s m args below meth c T' ⟨⟨hx, hby, hml, hown, hnm, hret, hlk, hkn⟩, vm0, k0, locs, X', e', C.push E hlt⟩
  exact ⟨t, o, st' _ (by subst hq; exact hs), r⟩
theorem Go.clone {index W : Nat} {ad : String} {a : Addr} {ty : FieldType} {kk : ClassId} {z : Int32} {hs0 : List (Int32 × Value)} {vs : List Value} {dv : Value} {cap : Nat} (hd : decode bytes pc = .ok (.invokevirtual index, 3)) (hq : pc + 3 = pc') (w1 : (Jvm.Cond.methodLink y.cls index ⟨ad, "clone", "()Ljava/lang/Object;"⟩).before a0 Z = true) (w2 : (Jvm.Cond.sameMethod ad "java/lang/Object" "clone" "()Ljava/lang/Object;").before a0 Z = true) (w3 : (Jvm.Cond.native ⟨"java/lang/Object", "clone", "()Ljava/lang/Object;"⟩).before a0 Z = true)
    (w4 : (Jvm.Cond.instanceMethod ⟨"java/lang/Object", "clone", "()Ljava/lang/Object;"⟩).before a0 Z = true) (w5 : (Jvm.Cond.selects ad ⟨ad, "clone", "()Ljava/lang/Object;"⟩ ⟨"java/lang/Object", "clone", "()Ljava/lang/Object;"⟩).before a0 Z = true) (w6 : (Jvm.Cond.castable ad "java/lang/Cloneable").before a0 Z = true) (F : Arh Z h a kk ty z hs0 vs dv) (E0 : Exa Z h a ad) (hsz : Ls.size = mL) (hf : 1 ≤ R.frames) (hW : (st.map fun v => v.category).sum ≤ W) (hl : W + 14 ≤ R.locals) (hcap : z.toNatClampNeg ≤ cap) (hc : k + 1 ≤ R.cells) (hsl : n + cap ≤ R.slots)
    (K : ∀ h' a, h.size = a → h0.size ≤ a → Ext h h' → Arh Z h' a kk ty z hs0 vs dv → Exa Z h' a ad → Go l Z EL n0 nr kn y bytes mL ret R h0 WS Q (a :: SF) h' (k + 1) (n + cap) pc' Ls (.ref a :: st)) : Go l Z EL n0 nr kn y bytes mL ret R h0 WS Q SF h k n pc Ls (.ref a :: st) := by
  intro p e s m args below meth c T hR
  obtain ⟨⟨hx, hby, hml, hown, hnm, hret, hlk, hkn⟩, vm0, k0, locs, X, e0, C⟩ := hR
  have hZ : Z.Warmed39 (s.setVm vm0).vm := C.1
  have hown' : (s.setVm vm0).vm.findClass y.cls = some m.cls := by rw [show (s.setVm vm0).vm = vm0 from rfl, C.2.1.1.1.alike.findClass]; exact hown
  obtain ⟨T', h', X', e', E, AA, EE, st'⟩ := Jvm.RoadKit.cloneH X hx hZ hown' w1 w2 w3 w4 w5 w6 e0 F E0 (g := mkF m pc Ls (.ref a :: st)) rfl (by rw [hml]; exact hsz) rfl (hb hby hd) hf (W := W) (cap := cap) (by show 2 * 0 + _ ≤ _; rw [Nat.mul_zero, Nat.zero_add]; exact hW) hl hcap hc hsl
  have hlt : h.size < h'.size := EE.lt
  obtain ⟨t, o, hs, r⟩ := K h' h.size rfl C.2.2.2.2.2.2.2.1.1 E AA EE p e s m args below meth c T' ⟨⟨hx, hby, hml, hown, hnm, hret, hlk, hkn⟩, vm0, k0, locs, X', e', C.push E hlt⟩
  exact ⟨t, o, st' _ (by subst hq; exact hs), r⟩
theorem Go.putF {R0 O nf d host CC : String} {index kk : Nat} {ty : FieldType} {a : Addr} {v old : Value} (hd : decode bytes pc = .ok (.putfield index, 3)) (hq : pc + 3 = pc') (ha : a ∈ SF) (w : (Jvm.Cond.fieldLink y.cls index R0 nf d).before a0 Z = true ∨ (Jvm.Cond.fieldLinkNest y.cls index R0 nf d host).before a0 Z = true) (via : Via Z R0 O nf d) (F : Fld Z h a O nf d old) (E : Exa Z h a CC) (L : (Jvm.Cond.lays CC O nf d).before a0 Z = true ∨ ((Jvm.Cond.laysFinal CC O nf d).before a0 Z = true ∧ y.cls = O ∧ y.name = "<init>")) (wi : (Jvm.Cond.instantiable CC kk).before a0 Z = true) (hty : parseFieldDescriptor d = some ty) (hn : narrow ty v = v) (hf : fits ty v = true)
    (K : ∀ h', Wr h h' a (Jvm.RoadKit.slotOf Z O nf d) v → Go l Z EL n0 nr kn y bytes mL ret R h0 WS Q SF h' k n pc' Ls st) : Go l Z EL n0 nr kn y bytes mL ret R h0 WS Q SF h k n pc Ls (v :: .ref a :: st) := by
  intro p e s m args below meth c T hR
  obtain ⟨⟨hx, hby, hml, hown, hnm, hret, hlk, hkn⟩, vm0, k0, locs, X, e0, C⟩ := hR
  have hZ : Z.Warmed39 (s.setVm vm0).vm := C.1
  have hown' : (s.setVm vm0).vm.findClass y.cls = some m.cls := by rw [show (s.setVm vm0).vm = vm0 from rfl, C.2.1.1.1.alike.findClass]; exact hown
  have L' := L.imp id (fun q => (⟨q.1, q.2.1, hnm.trans q.2.2⟩ : _ ∧ _ ∧ meth.name = "<init>"))
  obtain ⟨T', h', X', e', W', st'⟩ := Jvm.RoadKit.putF X hx hZ hown' w via e0 F E L' wi hty hn hf (g := mkF m pc Ls (v :: .ref a :: st)) rfl rfl (hb hby hd)
  obtain ⟨t, o, hs, r⟩ := K h' W' p e s m args below meth c T' ⟨⟨hx, hby, hml, hown, hnm, hret, hlk, hkn⟩, vm0, k0, _, X', e', C.wr W' ha⟩
  exact ⟨t, o, st' _ (by subst hq; exact hs), r⟩
theorem Go.putFN {R0 O nf d CC : String} {index kk : Nat} {ty : FieldType} {a : Addr} {v v' old : Value} (hd : decode bytes pc = .ok (.putfield index, 3)) (hq : pc + 3 = pc') (ha : a ∈ SF) (w : (Jvm.Cond.fieldLink y.cls index R0 nf d).before a0 Z = true) (via : Via Z R0 O nf d) (F : Fld Z h a O nf d old) (E : Exa Z h a CC) (L : (Jvm.Cond.lays CC O nf d).before a0 Z = true ∨ ((Jvm.Cond.laysFinal CC O nf d).before a0 Z = true ∧ y.cls = O ∧ y.name = "<init>")) (wi : (Jvm.Cond.instantiable CC kk).before a0 Z = true) (hty : parseFieldDescriptor d = some ty) (hn : narrow ty v = v') (hf : fits ty v' = true)
    (K : ∀ h', Wr h h' a (Jvm.RoadKit.slotOf Z O nf d) v' → Go l Z EL n0 nr kn y bytes mL ret R h0 WS Q SF h' k n pc' Ls st) : Go l Z EL n0 nr kn y bytes mL ret R h0 WS Q SF h k n pc Ls (v :: .ref a :: st) := by
  intro p e s m args below meth c T hR
  obtain ⟨⟨hx, hby, hml, hown, hnm, hret, hlk, hkn⟩, vm0, k0, locs, X, e0, C⟩ := hR
  have hZ : Z.Warmed39 (s.setVm vm0).vm := C.1
  have hown' : (s.setVm vm0).vm.findClass y.cls = some m.cls := by rw [show (s.setVm vm0).vm = vm0 from rfl, C.2.1.1.1.alike.findClass]; exact hown
  have L' := L.imp id (fun q => (⟨q.1, q.2.1, hnm.trans q.2.2⟩ : _ ∧ _ ∧ meth.name = "<init>"))
  obtain ⟨T', h', X', e', W', st'⟩ := Jvm.RoadKit.putFN X hx hZ hown' w via e0 F E L' wi hty hn hf (g := mkF m pc Ls (v :: .ref a :: st)) rfl rfl (hb hby hd)
  obtain ⟨t, o, hs, r⟩ := K h' W' p e s m args below meth c T' ⟨⟨hx, hby, hml, hown, hnm, hret, hlk, hkn⟩, vm0, k0, _, X', e', C.wr W' ha⟩
  exact ⟨t, o, st' _ (by subst hq; exact hs), r⟩
theorem Go.castore {a : Addr} {cl : Cell} {j x : Int32} (hd : decode bytes pc = .ok (.castore, 1)) (hq : pc + 1 = pc') (ha : a ∈ SF) (F : Arr Z h a cl .char) (hj : ¬ (j < 0 ∨ cl.slots.size ≤ j.toNatClampNeg))
    (K : ∀ h', Wr h h' a j.toNatClampNeg (.int (nar .char x)) → Go l Z EL n0 nr kn y bytes mL ret R h0 WS Q SF h' k n pc' Ls st) : Go l Z EL n0 nr kn y bytes mL ret R h0 WS Q SF h k n pc Ls (.int x :: .int j :: .ref a :: st) := by
  intro p e s m args below meth c T hR
  obtain ⟨⟨hx, hby, hml, hown, hnm, hret, hlk, hkn⟩, vm0, k0, locs, X, e0, C⟩ := hR
  have hZ : Z.Warmed39 (s.setVm vm0).vm := C.1
  have hown' : (s.setVm vm0).vm.findClass y.cls = some m.cls := by rw [show (s.setVm vm0).vm = vm0 from rfl, C.2.1.1.1.alike.findClass]; exact hown
  obtain ⟨T', h', X', e', W', st'⟩ := Jvm.RoadKit.stC X hx hZ e0 F hj (g := mkF m pc Ls (.int x :: .int j :: .ref a :: st)) rfl rfl (hb hby hd)
  obtain ⟨t, o, hs, r⟩ := K h' W' p e s m args below meth c T' ⟨⟨hx, hby, hml, hown, hnm, hret, hlk, hkn⟩, vm0, k0, _, X', e', C.wr W' ha⟩
  exact ⟨t, o, st' _ (by subst hq; exact hs), r⟩
theorem Go.castoreV {a : Addr} {cA : ClassId} {z j x : Int32} {vs : List Value} {dv : Value} {i : Nat} (hd : decode bytes pc = .ok (.castore, 1)) (hq : pc + 1 = pc') (ha : a ∈ SF) (F : Arv Z h a cA .char z vs dv) (hj : ¬ j < 0 ∧ j < z) (hji : j.toNatClampNeg = i) (hi : i < vs.length)
    (K : ∀ h', Wr h h' a j.toNatClampNeg (.int (nar .char x)) → Arv Z h' a cA .char z (vs.set i (.int (nar .char x))) dv → Go l Z EL n0 nr kn y bytes mL ret R h0 WS Q SF h' k n pc' Ls st) : Go l Z EL n0 nr kn y bytes mL ret R h0 WS Q SF h k n pc Ls (.int x :: .int j :: .ref a :: st) := by
  intro p e s m args below meth c T hR
  obtain ⟨⟨hx, hby, hml, hown, hnm, hret, hlk, hkn⟩, vm0, k0, locs, X, e0, C⟩ := hR
  have hZ : Z.Warmed39 (s.setVm vm0).vm := C.1
  have hown' : (s.setVm vm0).vm.findClass y.cls = some m.cls := by rw [show (s.setVm vm0).vm = vm0 from rfl, C.2.1.1.1.alike.findClass]; exact hown
  obtain ⟨cl, F, q1, S, q3, H, G⟩ := F
  obtain ⟨T', h', X', e', W', st'⟩ := Jvm.RoadKit.stC X hx hZ e0 F (inb_of S hj) (g := mkF m pc Ls (.int x :: .int j :: .ref a :: st)) rfl rfl (hb hby hd)
  obtain ⟨t, o, hs, r⟩ := K h' W' (Arv.set F q1 S q3 H G (fits_nar_char x) W' i hji hi) p e s m args below meth c T' ⟨⟨hx, hby, hml, hown, hnm, hret, hlk, hkn⟩, vm0, k0, _, X', e', C.wr W' ha⟩
  exact ⟨t, o, st' _ (by subst hq; exact hs), r⟩
theorem Go.bastore {a : Addr} {cl : Cell} {j x : Int32} (hd : decode bytes pc = .ok (.bastore, 1)) (hq : pc + 1 = pc') (ha : a ∈ SF) (F : Arr Z h a cl .byte) (hj : ¬ (j < 0 ∨ cl.slots.size ≤ j.toNatClampNeg))
    (K : ∀ h', Wr h h' a j.toNatClampNeg (.int (nar .byte x)) → Go l Z EL n0 nr kn y bytes mL ret R h0 WS Q SF h' k n pc' Ls st) : Go l Z EL n0 nr kn y bytes mL ret R h0 WS Q SF h k n pc Ls (.int x :: .int j :: .ref a :: st) := by
  intro p e s m args below meth c T hR
  obtain ⟨⟨hx, hby, hml, hown, hnm, hret, hlk, hkn⟩, vm0, k0, locs, X, e0, C⟩ := hR
  have hZ : Z.Warmed39 (s.setVm vm0).vm := C.1
  have hown' : (s.setVm vm0).vm.findClass y.cls = some m.cls := by rw [show (s.setVm vm0).vm = vm0 from rfl, C.2.1.1.1.alike.findClass]; exact hown
  obtain ⟨T', h', X', e', W', st'⟩ := Jvm.RoadKit.stB X hx hZ e0 F hj (g := mkF m pc Ls (.int x :: .int j :: .ref a :: st)) rfl rfl (hb hby hd)
  obtain ⟨t, o, hs, r⟩ := K h' W' p e s m args below meth c T' ⟨⟨hx, hby, hml, hown, hnm, hret, hlk, hkn⟩, vm0, k0, _, X', e', C.wr W' ha⟩
  exact ⟨t, o, st' _ (by subst hq; exact hs), r⟩
theorem Go.bastoreV {a : Addr} {cA : ClassId} {z j x : Int32} {vs : List Value} {dv : Value} {i : Nat} (hd : decode bytes pc = .ok (.bastore, 1)) (hq : pc + 1 = pc') (ha : a ∈ SF) (F : Arv Z h a cA .byte z vs dv) (hj : ¬ j < 0 ∧ j < z) (hji : j.toNatClampNeg = i) (hi : i < vs.length)
    (K : ∀ h', Wr h h' a j.toNatClampNeg (.int (nar .byte x)) → Arv Z h' a cA .byte z (vs.set i (.int (nar .byte x))) dv → Go l Z EL n0 nr kn y bytes mL ret R h0 WS Q SF h' k n pc' Ls st) : Go l Z EL n0 nr kn y bytes mL ret R h0 WS Q SF h k n pc Ls (.int x :: .int j :: .ref a :: st) := by
  intro p e s m args below meth c T hR
  obtain ⟨⟨hx, hby, hml, hown, hnm, hret, hlk, hkn⟩, vm0, k0, locs, X, e0, C⟩ := hR
  have hZ : Z.Warmed39 (s.setVm vm0).vm := C.1
  have hown' : (s.setVm vm0).vm.findClass y.cls = some m.cls := by rw [show (s.setVm vm0).vm = vm0 from rfl, C.2.1.1.1.alike.findClass]; exact hown
  obtain ⟨cl, F, q1, S, q3, H, G⟩ := F
  obtain ⟨T', h', X', e', W', st'⟩ := Jvm.RoadKit.stB X hx hZ e0 F (inb_of S hj) (g := mkF m pc Ls (.int x :: .int j :: .ref a :: st)) rfl rfl (hb hby hd)
  obtain ⟨t, o, hs, r⟩ := K h' W' (Arv.set F q1 S q3 H G (fits_nar_byte x) W' i hji hi) p e s m args below meth c T' ⟨⟨hx, hby, hml, hown, hnm, hret, hlk, hkn⟩, vm0, k0, _, X', e', C.wr W' ha⟩
  exact ⟨t, o, st' _ (by subst hq; exact hs), r⟩
theorem Go.aastore {a : Addr} {cl : Cell} {ty : FieldType} {j : Int32} {v : Value} (hd : decode bytes pc = .ok (.aastore, 1)) (hq : pc + 1 = pc') (ha : a ∈ SF) (F : Arr Z h a cl ty) (hj : ¬ (j < 0 ∨ cl.slots.size ≤ j.toNatClampNeg)) (hty : ty.isReference = true) (S : Sto Z h a v)
    (K : ∀ h', Wr h h' a j.toNatClampNeg v → Go l Z EL n0 nr kn y bytes mL ret R h0 WS Q SF h' k n pc' Ls st) : Go l Z EL n0 nr kn y bytes mL ret R h0 WS Q SF h k n pc Ls (v :: .int j :: .ref a :: st) := by
  intro p e s m args below meth c T hR
  obtain ⟨⟨hx, hby, hml, hown, hnm, hret, hlk, hkn⟩, vm0, k0, locs, X, e0, C⟩ := hR
  have hZ : Z.Warmed39 (s.setVm vm0).vm := C.1
  have hown' : (s.setVm vm0).vm.findClass y.cls = some m.cls := by rw [show (s.setVm vm0).vm = vm0 from rfl, C.2.1.1.1.alike.findClass]; exact hown
  obtain ⟨T', h', X', e', W', st'⟩ := Jvm.RoadKit.stR X hx hZ e0 F hj hty S (g := mkF m pc Ls (v :: .int j :: .ref a :: st)) rfl rfl (hb hby hd)
  obtain ⟨t, o, hs, r⟩ := K h' W' p e s m args below meth c T' ⟨⟨hx, hby, hml, hown, hnm, hret, hlk, hkn⟩, vm0, k0, _, X', e', C.wr W' ha⟩
  exact ⟨t, o, st' _ (by subst hq; exact hs), r⟩
theorem Go.aastoreV {a : Addr} {cA : ClassId} {ty : FieldType} {z j : Int32} {v : Value} {vs : List Value} {dv : Value} {i : Nat} (hd : decode bytes pc = .ok (.aastore, 1)) (hq : pc + 1 = pc') (ha : a ∈ SF) (F : Arv Z h a cA ty z vs dv) (hty : ty.isReference = true) (hft : fits ty v = true) (S : ∀ cl, Arr Z h a cl ty → cl.cls = cA → Sto Z h a v) (hj : ¬ j < 0 ∧ j < z) (hji : j.toNatClampNeg = i) (hi : i < vs.length)
    (K : ∀ h', Wr h h' a j.toNatClampNeg v → Arv Z h' a cA ty z (vs.set i v) dv → Go l Z EL n0 nr kn y bytes mL ret R h0 WS Q SF h' k n pc' Ls st) : Go l Z EL n0 nr kn y bytes mL ret R h0 WS Q SF h k n pc Ls (v :: .int j :: .ref a :: st) := by
  intro p e s m args below meth c T hR
  obtain ⟨⟨hx, hby, hml, hown, hnm, hret, hlk, hkn⟩, vm0, k0, locs, X, e0, C⟩ := hR
  have hZ : Z.Warmed39 (s.setVm vm0).vm := C.1
  have hown' : (s.setVm vm0).vm.findClass y.cls = some m.cls := by rw [show (s.setVm vm0).vm = vm0 from rfl, C.2.1.1.1.alike.findClass]; exact hown
  obtain ⟨cl, F, q1, S0, q3, H, G⟩ := F
  obtain ⟨T', h', X', e', W', st'⟩ := Jvm.RoadKit.stR X hx hZ e0 F (inb_of S0 hj) hty (S cl F q1) (g := mkF m pc Ls (v :: .int j :: .ref a :: st)) rfl rfl (hb hby hd)
  obtain ⟨t, o, hs, r⟩ := K h' W' (Arv.set F q1 S0 q3 H G hft W' i hji hi) p e s m args below meth c T' ⟨⟨hx, hby, hml, hown, hnm, hret, hlk, hkn⟩, vm0, k0, _, X', e', C.wr W' ha⟩
  exact ⟨t, o, st' _ (by subst hq; exact hs), r⟩
theorem Go.cpA {index W : Nat} {a b : Addr} {kk k' : ClassId} {ty ty' : FieldType} {z z' sp dp nn : Int32} {vs vd us : List Value} {dv dd : Value} (hd : decode bytes pc = .ok (.invokestatic index, 3)) (hq : pc + 3 = pc') (hb' : b ∈ SF) (w1 : (Jvm.Cond.methodLink y.cls index Jvm.Stand.acN).before a0 Z = true) (w2 : (Jvm.Cond.native Jvm.Stand.acN).before a0 Z = true) (w3 : (Jvm.Cond.static Jvm.Stand.acN).before a0 Z = true) (w4 : (Jvm.Cond.initialized "java/lang/System").before a0 Z = true)
    (AA : Arv Z h a kk ty z vs dv) (BB : Arv Z h b k' ty' z' vd dd) (hty : (ty = ty' ∧ refKind ty = false) ∨ (refKind ty = true ∧ refKind ty' = true ∧ StoL Z h b us)) (h1 : ¬ sp < 0) (h2 : ¬ dp < 0) (h3 : ¬ nn < 0) (h4 : sp.toNatClampNeg + nn.toNatClampNeg ≤ z.toNatClampNeg) (h5 : dp.toNatClampNeg + nn.toNatClampNeg ≤ z'.toNatClampNeg)
    (hus : us = (List.range nn.toNatClampNeg).map fun i => vs.getD (sp.toNatClampNeg + i) dv) (hvl : dp.toNatClampNeg + nn.toNatClampNeg ≤ vd.length) (hsz : Ls.size = mL) (hf : 1 ≤ R.frames) (hW : (st.map fun v => v.category).sum ≤ W) (hl : W + (nativeFrameWords "java/lang/System" "arraycopy" 5 + 11) ≤ R.locals)
    (K : ∀ h', Keep h h' [b] → Arv Z h' b k' ty' z' (vd.take dp.toNatClampNeg ++ us ++ vd.drop (dp.toNatClampNeg + nn.toNatClampNeg)) dd → Go l Z EL n0 nr kn y bytes mL ret R h0 WS Q SF h' k n pc' Ls st) : Go l Z EL n0 nr kn y bytes mL ret R h0 WS Q SF h k n pc Ls (.int nn :: .int dp :: .ref b :: .int sp :: .ref a :: st) := by
  intro p e s m args below meth c T hR
  obtain ⟨⟨hx, hby, hml, hown, hnm, hret, hlk, hkn⟩, vm0, k0, locs, X, e0, C⟩ := hR
  have hZ : Z.Warmed39 (s.setVm vm0).vm := C.1
  have hown' : (s.setVm vm0).vm.findClass y.cls = some m.cls := by rw [show (s.setVm vm0).vm = vm0 from rfl, C.2.1.1.1.alike.findClass]; exact hown
  have N := C.2.2.1
  have ge := (C.2.2.2.2.1 b hb').1.1
  obtain ⟨T', h', L, X', e', FL, KK, BB', st'⟩ := Jvm.RoadKit.cpA X hx hZ hown' w1 w2 w3 w4 e0 AA BB hty h1 h2 h3 h4 h5 hus hvl N ge (g := mkF m pc Ls (.int nn :: .int dp :: .ref b :: .int sp :: .ref a :: st)) rfl (by rw [hml]; exact hsz) rfl (hb hby hd) hf (W := W) (by show 2 * 0 + _ ≤ _; rw [Nat.mul_zero, Nat.zero_add]; exact hW) hl
  have hSb := (C.2.2.2.2.1 b hb').2
  have C' : Cor Z EL n0 nr h0 WS SF h' s vm0 k0 L := by
    have q := C.keep (SN := []) (L := []) KK (fun x hx => by cases List.mem_singleton.mp hx; exact hb') (Fr.nil n0) (CHr.keep KK (fun x hx => by cases List.mem_singleton.mp hx; exact hSb) C.2.2.2.1.1) C.1 C.2.1.1 (Nat.le_trans C.2.1.2 KK.1) C.2.2.2.2.2.1 (fun x hx => nomatch hx)
    exact ⟨q.1, q.2.1, FL, q.2.2.2⟩
  obtain ⟨t, o, hs, r⟩ := K h' KK BB' p e s m args below meth c T' ⟨⟨hx, hby, hml, hown, hnm, hret, hlk, hkn⟩, vm0, k0, L, X', e', C'⟩
  exact ⟨t, o, st' _ (by subst hq; exact hs), r⟩
theorem Go.ldcS {text : String} {index nn : Nat} {vs : List Value} {z : Int32} (hnr : nr = false) (hd : decode bytes pc = .ok (.ldc index, 2)) (hq : pc + 2 = pc') (w : (Jvm.Cond.stringLink y.cls index text).before a0 Z = true) (wS : ∀ a ∈ Bundle.stringAtoms, a.before a0 Z = true) (hmem : (y.cls, index) ∈ EL) (ht : (∀ c ∈ text.toList, c.toNat < 256) ∧ text.toList.map (fun c => Value.int (Jvm.Lit.byteI c.toNat.toUInt16)) = vs) (hz : ¬ z < 0) (hzl : z.toNatClampNeg = vs.length) (hn : 4 * text.toList.length ≤ nn) (hbig : nn ≤ 536870912) (hc : k + 2 ≤ R.cells) (hl : n + (nn + 4) ≤ R.slots)
    (K : ∀ h' a b kb, Ext h h' → Exa Z h' a "java/lang/String" → Fld Z h' a "java/lang/String" "coder" "B" (.int 0) → Fld Z h' a "java/lang/String" "value" "[B" (.ref b) → Arv Z h' b kb .byte z vs (.int 0) → (∀ x ∈ SF, x ≠ a ∧ x ≠ b) → Go l Z EL n0 nr kn y bytes mL ret R h0 WS Q SF h' (k + 2) (n + (nn + 4)) pc' Ls (.ref a :: st)) : Go l Z EL n0 nr kn y bytes mL ret R h0 WS Q SF h k n pc Ls st := by
  intro p e s m args below meth c T hR
  obtain ⟨⟨hx, hby, hml, hown, hnm, hret, hlk, hkn⟩, vm0, k0, locs, X, e0, C⟩ := hR
  have hZ : Z.Warmed39 (s.setVm vm0).vm := C.1
  have hown' : (s.setVm vm0).vm.findClass y.cls = some m.cls := by rw [show (s.setVm vm0).vm = vm0 from rfl, C.2.1.1.1.alike.findClass]; exact hown
  obtain ⟨c1, ⟨c2, c2'⟩, c3, c4, c5, c6, c7, c8, c9, a1, hEL⟩ := C
  have hEL' : EW Z a0 EL := fun q hq => by
    obtain ⟨tx, hx1, hx2⟩ := hEL q hq
    exact ⟨tx, (by simpa [Jvm.Cond.before, Jvm.Cond.holds, Jvm.Cond.value] using hx1), hx2⟩
  obtain ⟨a, T', h', k1, b, kb, X', e', E, hS, hk, hW, hf, E1, E2, E3, E4, -, -, hC, -, hne, st'⟩ := Jvm.RoadKit.ldcCH X hx c1 hown' w wS e0 c2 c2' hEL' hmem c4.1 ht hz hzl (g := mkF m pc Ls st) rfl (hb hby hd) hn hbig hc hl
  have C' : Cor Z EL n0 nr h0 WS SF h' s T'.vm k1 locs := by
    refine ⟨hW, ⟨hS, hk⟩, c3, c4.trans hC, fun x hx => ⟨⟨(c5 x hx).1.1, Nat.lt_of_lt_of_le (c5 x hx).1.2.1 E.1, (c5 x hx).1.2.2⟩, hC.safe (c5 x hx).1.2.1 (c5 x hx).2⟩, (fun q => by rw [hnr] at q; cases q), ⟨c7.1, Nat.le_trans c7.2.1 E.1, fun a c q => E.2 a c (c7.2.2 a c q)⟩, c8.ext E, c9, a1, hEL⟩
  obtain ⟨t, o, hs, r⟩ := K h' a b kb E E1 E2 E3 E4 (fun x hx => hne x (C'.2.2.2.2.1 x hx).2) p e s m args below meth c T' ⟨⟨hx, hby, hml, hown, hnm, hret, hlk, hkn⟩, T'.vm, k1, locs, X', e', C'⟩
  exact ⟨t, o, st' _ (by subst hq; exact hs), r⟩
theorem Go.ldcO {text : String} {index nn : Nat} (hnr : nr = false) (hd : decode bytes pc = .ok (.ldc index, 2)) (hq : pc + 2 = pc') (w : (Jvm.Cond.stringLink y.cls index text).before a0 Z = true) (wS : ∀ a ∈ Bundle.stringAtoms, a.before a0 Z = true) (hn : 4 * text.toList.length ≤ nn) (hbig : nn ≤ 536870912) (hc : k + 2 ≤ R.cells) (hl : n + (nn + 4) ≤ R.slots)
    (K : ∀ h' a, Ext h h' → Go l Z EL n0 nr kn y bytes mL ret R h0 WS Q SF h' (k + 2) (n + (nn + 4)) pc' Ls (.ref a :: st)) : Go l Z EL n0 nr kn y bytes mL ret R h0 WS Q SF h k n pc Ls st := by
  intro p e s m args below meth c T hR
  obtain ⟨⟨hx, hby, hml, hown, hnm, hret, hlk, hkn⟩, vm0, k0, locs, X, e0, C⟩ := hR
  have hZ : Z.Warmed39 (s.setVm vm0).vm := C.1
  have hown' : (s.setVm vm0).vm.findClass y.cls = some m.cls := by rw [show (s.setVm vm0).vm = vm0 from rfl, C.2.1.1.1.alike.findClass]; exact hown
  obtain ⟨c1, ⟨c2, c2'⟩, c3, c4, c5, c6, c7, c8, c9, a1, hEL⟩ := C
  have hEL' : EW Z a0 EL := fun q hq => by
    obtain ⟨tx, hx1, hx2⟩ := hEL q hq
    exact ⟨tx, (by simpa [Jvm.Cond.before, Jvm.Cond.holds, Jvm.Cond.value] using hx1), hx2⟩
  obtain ⟨a, T', h', k1, X', e', E, hS, hk, hW, hf, hC, -, st'⟩ := Jvm.RoadKit.ldcOH X hx c1 hown' w wS e0 c2 c2' hEL' c4.1 (g := mkF m pc Ls st) rfl (hb hby hd) hn hbig hc hl
  have C' : Cor Z EL n0 nr h0 WS SF h' s T'.vm k1 locs := by
    refine ⟨hW, ⟨hS, hk⟩, c3, c4.trans hC, fun x hx => ⟨⟨(c5 x hx).1.1, Nat.lt_of_lt_of_le (c5 x hx).1.2.1 E.1, (c5 x hx).1.2.2⟩, hC.safe (c5 x hx).1.2.1 (c5 x hx).2⟩, (fun q => by rw [hnr] at q; cases q), ⟨c7.1, Nat.le_trans c7.2.1 E.1, fun a c q => E.2 a c (c7.2.2 a c q)⟩, c8.ext E, c9, a1, hEL⟩
  obtain ⟨t, o, hs, r⟩ := K h' a E p e s m args below meth c T' ⟨⟨hx, hby, hml, hown, hnm, hret, hlk, hkn⟩, T'.vm, k1, locs, X', e', C'⟩
  exact ⟨t, o, st' _ (by subst hq; exact hs), r⟩
theorem Go.tsw {i : Int32} {dflt low high : Int} {offs : Array Int} {len : Nat} {o : Int} (hd : decode bytes pc = .ok (.tableswitch dflt low high offs, len)) (hin : ¬ (i.toInt < low ∨ i.toInt > high)) (hoff : offs[(i.toInt - low).toNat]? = some o) (ho : 0 ≤ (pc : Int) + o) (hq : ((pc : Int) + o).toNat = pc') (K : Go l Z EL n0 nr kn y bytes mL ret R h0 WS Q SF h k n pc' Ls st) : Go l Z EL n0 nr kn y bytes mL ret R h0 WS Q SF h k n pc Ls (.int i :: st) :=
  Go.plain (fun p e below T m c target hA hx hb hk => XS.tswIn hA hx rfl (pc0 := pc) (pc' := pc') rfl (hb ▸ hd) rfl hin hoff ho hq hk) K
theorem Go.retV (hd : decode bytes pc = .ok (.return_, 1)) (hr0 : ret = none) (hk : k ≤ R.cells) (hn : n ≤ R.slots) (SN : List Addr) (hSN : ∀ x ∈ SN, x ∈ SF ∧ h0.size ≤ x) (hQ : Q none h SN) : Go l Z EL n0 nr kn y bytes mL ret R h0 WS Q SF h k n pc Ls [] := by
  intro p e s m args below meth c T hR
  obtain ⟨⟨hx, hby, hml, hown, hnm, hret, hlk, hkn⟩, vm0, k0, locs, X, e0, C⟩ := hR
  have hZ : Z.Warmed39 (s.setVm vm0).vm := C.1
  have hown' : (s.setVm vm0).vm.findClass y.cls = some m.cls := by rw [show (s.setVm vm0).vm = vm0 from rfl, C.2.1.1.1.alike.findClass]; exact hown
  obtain ⟨c1, ⟨c2, c2'⟩, c3, c4, c5, c6, c7, c8, c9, a1, hEL⟩ := C
  obtain ⟨fs, hr, hrun, hended, hE⟩ := X.leaveW c2 (by rw [e0]; exact c2') (v := none) (fun _ => rfl) hlk
  have A1 := CHv.at X c1 hEL c4.1
  refine ⟨_, _, X.returnOut hx (hret.trans hr0) (hb hby hd) hr, hrun, hended, _, locs, SN, rfl, by show Q _ T.heap SN; rw [e0]; exact hQ, c3, by show Keep h0 T.heap WS; rw [e0]; exact c8, fun x hx => ?_, ?_, fun q => State.WarmedH.trans (t := s.setVm vm0) (c6 q) X.warmed, ⟨hE.1, hE.2.1, hE.2.2.1, hE.2.2.2.mono hk hn⟩⟩
  · show (h0.size ≤ x ∧ x < T.heap.size) ∧ Safe Z EL T.vm T.heap x
    rw [e0]
    exact ⟨⟨(hSN x hx).2, (c5 x (hSN x hx).1).1.2.1⟩, A1.safe (c5 x (hSN x hx).1).1.2.1 (c5 x (hSN x hx).1).2⟩
  · show CHr Z EL s.vm h0 T.vm T.heap
    rw [e0]
    exact c4.trans A1
theorem Go.retW {v : Value} {ty : FieldType} {i : Instr} (hd : decode bytes pc = .ok (i, 1)) (hr0 : ret = some ty) (hnw : narrow ty v = v) (hi : (i = .ireturn ∧ (ty = .int ∨ ty = .boolean ∨ ty = .byte ∨ ty = .char ∨ ty = .short) ∧ ∃ z, v = .int z) ∨ (i = .lreturn ∧ ty = .long ∧ ∃ z, v = .long z) ∨ (i = .dreturn ∧ ty = .double ∧ ∃ z, v = .double z) ∨ (i = .freturn ∧ ty = .float ∧ ∃ z, v = .float z) ∨ (i = .areturn ∧ ty.isReference = true ∧ v.isRef = true)) (hk : k ≤ R.cells) (hn : n ≤ R.slots) (SN : List Addr) (hSN : ∀ x ∈ SN, x ∈ SF ∧ h0.size ≤ x) (hQ : Q (some v) h SN) : Go l Z EL n0 nr kn y bytes mL ret R h0 WS Q SF h k n pc Ls (v :: st) := by
  intro p e s m args below meth c T hR
  obtain ⟨⟨hx, hby, hml, hown, hnm, hret, hlk, hkn⟩, vm0, k0, locs, X, e0, C⟩ := hR
  have hZ : Z.Warmed39 (s.setVm vm0).vm := C.1
  have hown' : (s.setVm vm0).vm.findClass y.cls = some m.cls := by rw [show (s.setVm vm0).vm = vm0 from rfl, C.2.1.1.1.alike.findClass]; exact hown
  obtain ⟨c1, ⟨c2, c2'⟩, c3, c4, c5, c6, c7, c8, c9, a1, hEL⟩ := C
  obtain ⟨fs, hr, hrun, hended, hE⟩ := X.leaveW c2 (by rw [e0]; exact c2') (v := some v) (fun q => by rw [hret, hr0] at q; cases q) hlk
  have A1 := CHv.at X c1 hEL c4.1
  refine ⟨_, _, Jvm.RoadKit.retOut X hx (hret.trans hr0) hnw hi (hb hby hd) hr, hrun, hended, _, locs, SN, rfl, by show Q _ T.heap SN; rw [e0]; exact hQ, c3, by show Keep h0 T.heap WS; rw [e0]; exact c8, fun x hx => ?_, ?_, fun q => State.WarmedH.trans (t := s.setVm vm0) (c6 q) X.warmed, ⟨hE.1, hE.2.1, hE.2.2.1, hE.2.2.2.mono hk hn⟩⟩
  · show (h0.size ≤ x ∧ x < T.heap.size) ∧ Safe Z EL T.vm T.heap x
    rw [e0]
    exact ⟨⟨(hSN x hx).2, (c5 x (hSN x hx).1).1.2.1⟩, A1.safe (c5 x (hSN x hx).1).1.2.1 (c5 x (hSN x hx).1).2⟩
  · show CHr Z EL s.vm h0 T.vm T.heap
    rw [e0]
    exact c4.trans A1
theorem Go.retI {z : Int32} (hd : decode bytes pc = .ok (.ireturn, 1)) (hr0 : ret = some .int) (hk : k ≤ R.cells) (hn : n ≤ R.slots) (SN : List Addr) (hSN : ∀ x ∈ SN, x ∈ SF ∧ h0.size ≤ x) (hQ : Q (some (.int z)) h SN) : Go l Z EL n0 nr kn y bytes mL ret R h0 WS Q SF h k n pc Ls (.int z :: st) :=
  Go.retW hd hr0 rfl (Or.inl ⟨rfl, Or.inl rfl, z, rfl⟩) hk hn SN hSN hQ
theorem Go.retA {v : Value} {ty : FieldType} (hd : decode bytes pc = .ok (.areturn, 1)) (hr0 : ret = some ty) (hty : ty.isReference = true) (hv : v.isRef = true) (hk : k ≤ R.cells) (hn : n ≤ R.slots) (SN : List Addr) (hSN : ∀ x ∈ SN, x ∈ SF ∧ h0.size ≤ x) (hQ : Q (some v) h SN) : Go l Z EL n0 nr kn y bytes mL ret R h0 WS Q SF h k n pc Ls (v :: st) :=
  Go.retW hd hr0 (by cases ty <;> first | (cases hty; done) | (rcases ref_cases hv with rfl | ⟨a, rfl⟩ <;> rfl)) (Or.inr (Or.inr (Or.inr (Or.inr ⟨rfl, hty, hv⟩)))) hk hn SN hSN hQ
theorem Go.retS {z : Int32} {ty : FieldType} (hd : decode bytes pc = .ok (.ireturn, 1)) (hr0 : ret = some ty) (hty : ty = .boolean ∨ ty = .byte ∨ ty = .char ∨ ty = .short) (hnw : narrow ty (.int z) = .int z) (hk : k ≤ R.cells) (hn : n ≤ R.slots) (SN : List Addr) (hSN : ∀ x ∈ SN, x ∈ SF ∧ h0.size ≤ x) (hQ : Q (some (.int z)) h SN) : Go l Z EL n0 nr kn y bytes mL ret R h0 WS Q SF h k n pc Ls (.int z :: st) :=
  Go.retW hd hr0 hnw (Or.inl ⟨rfl, Or.inr hty, z, rfl⟩) hk hn SN hSN hQ
theorem Met.of_go {as' : Array Value} (hpl : plainFor y = true) (hef : ∀ m, entryFrame m as' mL = mkF m 0 Ls []) (G : (Z.heap.size = n0 ∧ Ext Z.heap h0) → (∀ x ∈ WS, n0 ≤ x ∧ x < h0.size) → Go l Z EL n0 nr kn y bytes mL ret R h0 WS Q WS h0 0 0 0 Ls []) : Met l Z EL n0 nr kn y bytes mL ret R WS as' h0 Q := by
  intro ws
  refine MetFree.of_bodySF hpl hisR ?_
  intro p e s m args below meth c s₁ Bd hml0 hP hK
  obtain ⟨rfl, hZ, hh, hC, hS, hO, hEL⟩ := hP
  have X0 : Stand p l e R s m args below meth c s₁ [] 0 0 := Stand.of_body Bd
  have e0 : s₁.heap = h0 := by rw [← hh, Bd.state]; rfl
  have hnm := (name_of_methodNamed Bd.named Bd.method).1
  rw [hef m]
  exact G hO (fun x hx => (hS x hx).1) p e s m args below meth c s₁ ⟨⟨Bd.exec, Bd.bytes, hml0, findClass_of_methodNamed Bd.named, hnm, Bd.returns, BodyLoose.notSynchronized Bd, hK⟩, s.vm, 0, [], X0, e0,
    hZ, ⟨(State.WarmedH.refl s).since 0, Nat.zero_le _⟩, Fr.nil n0, CHr.refl hC, fun x hx => ⟨⟨(hS x hx).1.1, (hS x hx).1.2, Or.inl hx⟩, (hS x hx).2⟩, fun _ => State.WarmedH.refl s, hO, Keep.refl _ _, hh, hEL⟩
theorem Pays.of_met {z : MethodName} {zb : ByteArray} {zL : Nat} {zr : Option FieldType} {rm : Room} {len W : Nat} {ws : List Addr} {as' : Array Value} {Q' : Option Value → Heap → List Addr → Prop} (M : Met l Z EL n0 nr kn z zb zL zr rm ws as' h Q') (wc : (Jvm.Cond.code z zb zL zr).before a0 Z = true) (wz : (Jvm.Cond.initialized z.cls).before a0 Z = true) (hf : rm.frames + 1 ≤ R.frames) (hl : W + (zL + 11) + rm.locals ≤ R.locals) :
    Pays l Z EL n0 nr kn R len z W rm.cells rm.slots ws as' h Q' := by
  intro p e below s args vm0 hx hZ hC hS hO hEL hkn
  obtain ⟨a1, hE1⟩ := hEL
  refine BackS.of_freeWG (bytes := zb) (maxL := zL) (ret := zr) (E := fun _ first o t L kk nn => kk = rm.cells ∧ nn = rm.slots ∧ ∃ v SN, o = .returned v ∧ Q' v t.heap SN ∧ Fr n0 L ∧ Keep h t.heap ws ∧ (∀ x ∈ SN, (h.size ≤ x ∧ x < t.heap.size) ∧ Safe Z EL t.vm t.heap x) ∧ CHr Z EL first.vm h t.vm t.heap ∧ (nr = true → first.WarmedH t.vm)) (M []) hf hl ?_ ?_ ?_ ?_ ?_
  · intro m meth c A a Y hp
    have hU : Z.Warmed39 A.U.vm := wtrans (s := s.setVm vm0) hZ Y.warmed
    exact ⟨by show (Jvm.Cond.and _ .tt).before a A.U = true; rw [Cond.before_and, mv hU wc]; rfl, mv hU wc, mv hU wz, hp.2.2.1, hp.2.2.2⟩
  · intro m meth c A a g mk Y hp
    have A1 := CHv.at Y hZ hE1 hC
    exact ⟨hp.1, wtrans (s := s.setVm vm0) hZ Y.warmed, hp.2.1, A1.1, fun x hx => ⟨(hS x hx).1, A1.safe (hS x hx).1.2 (hS x hx).2⟩, hO, a1, hE1⟩
  · intro m meth c A a g mk Y hp hg q
    exact known_frames Y hg (hkn q).1 (hkn q).2
  · rintro a first o t ⟨v, L, SN, h1, h2, h3, h4, h5, h6, h7, h8⟩
    exact ⟨L, _, _, h8, rfl, rfl, v, SN, h1, h2, h3, h4, h5, h6, h7⟩
  · rintro m meth c A a g mk v t L kk nn Y hp - - ⟨e1, e2, v', SN, e3, e4, e5, e6, e7, e8, e9⟩
    cases e3
    subst e1 e2
    exact ⟨L, SN, e4, e5, e6, e7, (CHv.at Y hZ hE1 hC).trans e8, fun q => State.WarmedH.trans (t := A.U) Y.warmed (e9 q), rfl, rfl, rfl⟩
theorem Pays.of_back {z : MethodName} {len W ck cn : Nat} {ws : List Addr} {as' : Array Value} {Q' : Option Value → Heap → List Addr → Prop}
    (B : ∀ (p : Program) (e : Env) (below : List Frame) (s : State) (args : Array Value), p.tables.exec = Jvm.exec → Z.Warmed39 s.vm → (Z.heap.size = n0 ∧ Ext Z.heap h) → (∀ x ∈ ws, n0 ≤ x ∧ x < h.size) → Back l R p e below s args z len W (fun A a => a = as' ∧ A.U.heap = h ∧ A.cells + ck ≤ R.cells ∧ A.slots + cn ≤ R.slots) (fun A _ v B => ∃ L, Q' v B.U.heap [] ∧ Fr n0 L ∧ Keep h B.U.heap ws ∧ B.locs = A.locs ++ L ∧ B.cells = A.cells + ck ∧ B.slots = A.slots + cn)) :
    Pays l Z EL n0 nr kn R len z W ck cn ws as' h Q' := by
  intro p e below s args vm0 hx hZ hC hS hO hEL hkn
  obtain ⟨a1, hE1⟩ := hEL
  intro m meth c A g ig mk a X hg hsize hdg hW hn hp
  obtain ⟨v, B', X', ⟨L, q1, q2, q3, q4, q5, q6⟩, hst⟩ := B p e below (s.setVm vm0) args hx hZ hO (fun x hx => (hS x hx).1) m meth c A g ig mk a X hg hsize hdg hW hn hp
  have A1 : CHr Z EL vm0 h vm0 B'.U.heap := CHr.keep q3 (fun x hx => (hS x hx).2) hC
  have A2 := CHv.at X' hZ hE1 A1.1
  exact ⟨v, B', X'.retabled X'.warmed.wide, X'.warmed.since _, by rw [hp.2.1]; exact q3.1, ⟨L, [], q1, q2, q3, fun x hx => (nomatch hx), A1.trans A2, fun _ => X'.warmed, q4, q5, q6⟩, hst⟩
theorem Go.after {p : Program} {e : Env} {m : MethodId} {args : Array Value} {below : List Frame} {meth : Method} {c : Code} {T : State} {len ck cn : Nat} {ws : List Addr} {as' : Array Value} {Q' : Option Value → Heap → List Addr → Prop} {s₀ : State}
    (hA : p.tables.exec = Jvm.exec ∧ c.code = bytes ∧ c.maxLocals = mL ∧ s.vm.findClass y.cls = some m.cls ∧ meth.name = y.name ∧ meth.sig.returnType = ret ∧ meth.locks = false ∧ (kn = true → s.vm.MethodsKnown ∧ s.vm.FramesKnown below)) (e0 : T.heap = h) (C : Cor Z EL n0 nr h0 WS SF h s vm0 k0 locs) (hws : ∀ x ∈ ws, x ∈ SF)
    (H : ∃ (v : Option Value) (vm₁ : Vm) (B : Pt), (s.setVm vm0).WarmedH vm₁ ∧ Stand p l e R ((s.setVm vm0).setVm B.U.vm) m args below meth c B.U B.locs B.cells B.slots ∧ (s.setVm vm0).Since B.U.vm B.U.heap.size ∧ T.heap.size ≤ B.U.heap.size ∧ (∃ L SN, Q' v B.U.heap SN ∧ Fr n0 L ∧ Keep h B.U.heap ws ∧ (∀ x ∈ SN, (h.size ≤ x ∧ x < B.U.heap.size) ∧ Safe Z EL B.U.vm B.U.heap x) ∧ CHr Z EL vm0 h B.U.vm B.U.heap ∧ (nr = true → (s.setVm vm0).WarmedH B.U.vm) ∧ B.locs = locs ++ L ∧ B.cells = k + ck ∧ B.slots = n + cn) ∧
      Steps p.tables e below s₀ (B.U.setTop { mkF m pc Ls st with pc := pc + len, stack := v.toList ++ rest }))
    (hq : pc + len = pc') (K : ∀ v h' SN, Keep h h' ws → h0.size ≤ h.size → Q' v h' SN → Go l Z EL n0 nr kn y bytes mL ret R h0 WS Q (SN ++ SF) h' (k + ck) (n + cn) pc' Ls (v.toList ++ rest)) : ∃ t o, Steps p.tables e below s₀ t ∧ t.status = .running ∧ Ended t below o ∧ Pst Z EL n0 nr R h0 WS Q s o t := by
  obtain ⟨v, vm₁, ⟨T', L', kk, nn⟩, -, X', hS, hle, ⟨L, SN, h1, h2, h3, h4, h5, h6, h7, h8, h9⟩, hst⟩ := H
  dsimp only [Pt.U, Pt.locs, Pt.cells, Pt.slots] at X' hS hle h1 h3 h4 h5 h6 h7 h8 h9 hst
  subst h7 h8 h9 hq
  obtain ⟨t, o, hs, r⟩ := K v T'.heap SN h3 C.2.2.2.2.2.2.2.1.1 h1 p e s m args below meth c T' ⟨hA, T'.vm, T'.heap.size, _, X', rfl, C.keep h3 hws h2 h5 (State.Warmed39.trans (t := s.setVm vm0) C.1 hS.1) (C.2.1.1.trans hS (Nat.le_trans C.2.1.2 h3.1)) (Nat.le_refl _) (fun q => State.WarmedH.trans (t := s.setVm vm0) (C.2.2.2.2.2.1 q) (h6 q)) h4⟩
  exact ⟨t, o, hst.trans hs, r⟩
theorem Go.callS {ck cn W : Nat} {ws : List Addr} {as' : Array Value} {Q' : Option Value → Heap → List Addr → Prop} {index : Nat} {z : MethodName} {zb : ByteArray} {zL : Nat} {zr : Option FieldType} {argsL : List Value} (hd : decode bytes pc = .ok (.invokestatic index, 3)) (hq : pc + 3 = pc') (w1 : (Jvm.Cond.methodLink y.cls index z).before a0 Z = true) (w2 : (Jvm.Cond.static z).before a0 Z = true) (w3 : (Jvm.Cond.initialized z.cls).before a0 Z = true) (w4 : (Jvm.Cond.code z zb zL zr).before a0 Z = true) (hy : z.cls ≠ "java/lang/invoke/MethodHandle" ∧ z.cls ≠ "java/lang/invoke/VarHandle") (PP : Pays l Z EL n0 nr kn R 3 z W ck cn ws as' h Q') (hsz : Ls.size = mL) (hst : st = argsL.reverse ++ rest) (hlen : ∀ sig, parseMethodDescriptor z.desc = some sig → argsL.length = sig.parameters.length) (has : argsL.toArray = as') (hW : (rest.map fun v => v.category).sum ≤ W) (hws : ∀ x ∈ ws, x ∈ SF) (hc : k + ck ≤ R.cells) (hl : n + cn ≤ R.slots)
    (K : ∀ v h' SN, Keep h h' ws → h0.size ≤ h.size → Q' v h' SN → Go l Z EL n0 nr kn y bytes mL ret R h0 WS Q (SN ++ SF) h' (k + ck) (n + cn) pc' Ls (v.toList ++ rest)) : Go l Z EL n0 nr kn y bytes mL ret R h0 WS Q SF h k n pc Ls st := by
  intro p e s m args below meth c T hR
  obtain ⟨⟨hx, hby, hml, hown, hnm, hret, hlk, hkn⟩, vm0, k0, locs, X, e0, C⟩ := hR
  have hZ : Z.Warmed39 (s.setVm vm0).vm := C.1
  have hown' : (s.setVm vm0).vm.findClass y.cls = some m.cls := by rw [show (s.setVm vm0).vm = vm0 from rfl, C.2.1.1.1.alike.findClass]; exact hown
  have hBK := PP p e below s args vm0 hx C.1 C.2.2.2.1.1 (fun x hx => ⟨⟨(C.2.2.2.2.1 x (hws x hx)).1.1, (C.2.2.2.2.1 x (hws x hx)).1.2.1⟩, (C.2.2.2.2.1 x (hws x hx)).2⟩) C.2.2.2.2.2.2.1 C.2.2.2.2.2.2.2.2.2 (fun q => ⟨Vm.MethodsKnown.alikeC C.2.1.1.1.alike (hkn q).1, Vm.FramesKnown.alikeC C.2.1.1.1.alike (hkn q).2⟩)
  refine Go.after (st := st) (args := args) (ck := ck) (cn := cn) (ws := ws) (as' := as') (Q' := Q') (rest := rest) ⟨hx, hby, hml, hown, hnm, hret, hlk, hkn⟩ e0 C hws ?_ hq K
  exact callSS X hx (y := z) hown' (mvT hZ w1) (mvT hZ w2) (mvT hZ w3) (mvT hZ w4) hy hBK (g := mkF m pc Ls st) rfl (by rw [hml]; exact hsz) (argsL := argsL) (rest := rest) hlen hst (by show 2 * 0 + _ ≤ _; rw [Nat.mul_zero, Nat.zero_add]; exact hW) (hb hby hd) (fun _ _ => ⟨has, e0, hc, hl⟩)
theorem Go.callI {ck cn W : Nat} {ws : List Addr} {as' : Array Value} {Q' : Option Value → Heap → List Addr → Prop} {index : Nat} {z : MethodName} {zb : ByteArray} {zL : Nat} {a : Addr} {argsL : List Value} (hd : decode bytes pc = .ok (.invokespecial index, 3)) (hq : pc + 3 = pc') (hi : z.name = "<init>") (w1 : (Jvm.Cond.methodLink y.cls index z).before a0 Z = true) (w2 : (Jvm.Cond.instanceMethod z).before a0 Z = true) (w4 : (Jvm.Cond.code z zb zL none).before a0 Z = true) (hy : z.cls ≠ "java/lang/invoke/MethodHandle" ∧ z.cls ≠ "java/lang/invoke/VarHandle") (PP : Pays l Z EL n0 nr kn R 3 z W ck cn ws as' h Q') (hsz : Ls.size = mL) (hst : st = argsL.reverse ++ .ref a :: rest) (hlen : ∀ sig, parseMethodDescriptor z.desc = some sig → argsL.length = sig.parameters.length) (has : (.ref a :: argsL).toArray = as') (hW : (rest.map fun v => v.category).sum ≤ W) (hws : ∀ x ∈ ws, x ∈ SF) (hc : k + ck ≤ R.cells) (hl : n + cn ≤ R.slots)
    (K : ∀ v h' SN, Keep h h' ws → h0.size ≤ h.size → Q' v h' SN → Go l Z EL n0 nr kn y bytes mL ret R h0 WS Q (SN ++ SF) h' (k + ck) (n + cn) pc' Ls (v.toList ++ rest)) : Go l Z EL n0 nr kn y bytes mL ret R h0 WS Q SF h k n pc Ls st := by
  intro p e s m args below meth c T hR
  obtain ⟨⟨hx, hby, hml, hown, hnm, hret, hlk, hkn⟩, vm0, k0, locs, X, e0, C⟩ := hR
  have hZ : Z.Warmed39 (s.setVm vm0).vm := C.1
  have hown' : (s.setVm vm0).vm.findClass y.cls = some m.cls := by rw [show (s.setVm vm0).vm = vm0 from rfl, C.2.1.1.1.alike.findClass]; exact hown
  have hBK := PP p e below s args vm0 hx C.1 C.2.2.2.1.1 (fun x hx => ⟨⟨(C.2.2.2.2.1 x (hws x hx)).1.1, (C.2.2.2.2.1 x (hws x hx)).1.2.1⟩, (C.2.2.2.2.1 x (hws x hx)).2⟩) C.2.2.2.2.2.2.1 C.2.2.2.2.2.2.2.2.2 (fun q => ⟨Vm.MethodsKnown.alikeC C.2.1.1.1.alike (hkn q).1, Vm.FramesKnown.alikeC C.2.1.1.1.alike (hkn q).2⟩)
  refine Go.after (st := st) (args := args) (ck := ck) (cn := cn) (ws := ws) (as' := as') (Q' := Q') (rest := rest) ⟨hx, hby, hml, hown, hnm, hret, hlk, hkn⟩ e0 C hws ?_ hq K
  exact X.specialBackS hx (y := z) hi hown' (mvT hZ w1) (mvT hZ w2) (mvT hZ w4) hy hBK (g := mkF m pc Ls st) rfl (by rw [hml]; exact hsz) (Steps.refl _) (a := a) (argsL := argsL) (rest := rest) hlen hst (by show 2 * 0 + _ ≤ _; rw [Nat.mul_zero, Nat.zero_add]; exact hW) (hb hby hd) (fun _ _ => ⟨has, e0, hc, hl⟩)
theorem Go.callV {ck cn W : Nat} {ws : List Addr} {as' : Array Value} {Q' : Option Value → Heap → List Addr → Prop} {index : Nat} {u z : MethodName} {CC : String} {a : Addr} {argsL : List Value} (hd : decode bytes pc = .ok (.invokevirtual index, 3)) (hq : pc + 3 = pc') (w1 : (Jvm.Cond.methodLink y.cls index u).before a0 Z = true) (w2 : (Jvm.Cond.declares u).before a0 Z = true) (hnf : ∀ (s : State), Z.Warmed39 s.vm → NotFace s u) (w3 : (Jvm.Cond.selects CC u z).before a0 Z = true) (w4 : (Jvm.Cond.instanceMethod z).before a0 Z = true) (hy : u.cls ≠ "java/lang/invoke/MethodHandle" ∧ u.cls ≠ "java/lang/invoke/VarHandle") (E : Exa Z h a CC) (PP : Pays l Z EL n0 nr kn R 3 z W ck cn ws as' h Q') (hsz : Ls.size = mL) (hst : st = argsL.reverse ++ .ref a :: rest) (hlen : ∀ sig, parseMethodDescriptor u.desc = some sig → argsL.length = sig.parameters.length) (has : (.ref a :: argsL).toArray = as') (hW : (rest.map fun v => v.category).sum ≤ W) (hws : ∀ x ∈ ws, x ∈ SF) (hc : k + ck ≤ R.cells) (hl : n + cn ≤ R.slots)
    (K : ∀ v h' SN, Keep h h' ws → h0.size ≤ h.size → Q' v h' SN → Go l Z EL n0 nr kn y bytes mL ret R h0 WS Q (SN ++ SF) h' (k + ck) (n + cn) pc' Ls (v.toList ++ rest)) : Go l Z EL n0 nr kn y bytes mL ret R h0 WS Q SF h k n pc Ls st := by
  intro p e s m args below meth c T hR
  obtain ⟨⟨hx, hby, hml, hown, hnm, hret, hlk, hkn⟩, vm0, k0, locs, X, e0, C⟩ := hR
  have hZ : Z.Warmed39 (s.setVm vm0).vm := C.1
  have hown' : (s.setVm vm0).vm.findClass y.cls = some m.cls := by rw [show (s.setVm vm0).vm = vm0 from rfl, C.2.1.1.1.alike.findClass]; exact hown
  have hBK := PP p e below s args vm0 hx C.1 C.2.2.2.1.1 (fun x hx => ⟨⟨(C.2.2.2.2.1 x (hws x hx)).1.1, (C.2.2.2.2.1 x (hws x hx)).1.2.1⟩, (C.2.2.2.2.1 x (hws x hx)).2⟩) C.2.2.2.2.2.2.1 C.2.2.2.2.2.2.2.2.2 (fun q => ⟨Vm.MethodsKnown.alikeC C.2.1.1.1.alike (hkn q).1, Vm.FramesKnown.alikeC C.2.1.1.1.alike (hkn q).2⟩)
  obtain ⟨cB, kB, qa, qb, qc⟩ := isOf hZ e0 E
  refine Go.after (st := st) (args := args) (ck := ck) (cn := cn) (ws := ws) (as' := as') (Q' := Q') (rest := rest) ⟨hx, hby, hml, hown, hnm, hret, hlk, hkn⟩ e0 C hws ?_ hq K
  exact X.virtualBackS hx (y := u) (z := z) hown' (mvT hZ w1) (mvT hZ w2) (hnf _ hZ) (mvT hZ w3) (mvT hZ w4) hy hBK qa qc (g := mkF m pc Ls st) rfl (by rw [hml]; exact hsz) (Steps.refl _) (argsL := argsL) (rest := rest) hlen hst (by show 2 * 0 + _ ≤ _; rw [Nat.mul_zero, Nat.zero_add]; exact hW) (hb hby hd) (fun _ _ => ⟨has, e0, hc, hl⟩)
theorem Go.callU {ck cn W : Nat} {ws : List Addr} {as' : Array Value} {Q' : Option Value → Heap → List Addr → Prop} {index : Nat} {u z : MethodName} {CC owner : String} {a : Addr} {argsL : List Value} (hd : decode bytes pc = .ok (.invokevirtual index, 3)) (hq : pc + 3 = pc') (w1 : (Jvm.Cond.methodLink y.cls index u).before a0 Z = true) (w5 : (Jvm.Cond.sameMethod u.cls owner u.name u.desc).before a0 Z = true) (w2 : (Jvm.Cond.declares ⟨owner, u.name, u.desc⟩).before a0 Z = true) (ho : owner ≠ "java/lang/invoke/MethodHandle" ∧ owner ≠ "java/lang/invoke/VarHandle") (w3 : (Jvm.Cond.selects CC u z).before a0 Z = true) (w4 : (Jvm.Cond.instanceMethod z).before a0 Z = true) (E : Exa Z h a CC) (PP : Pays l Z EL n0 nr kn R 3 z W ck cn ws as' h Q') (hsz : Ls.size = mL) (hst : st = argsL.reverse ++ .ref a :: rest) (hlen : ∀ sig, parseMethodDescriptor u.desc = some sig → argsL.length = sig.parameters.length) (has : (.ref a :: argsL).toArray = as') (hW : (rest.map fun v => v.category).sum ≤ W) (hws : ∀ x ∈ ws, x ∈ SF) (hc : k + ck ≤ R.cells) (hl : n + cn ≤ R.slots)
    (K : ∀ v h' SN, Keep h h' ws → h0.size ≤ h.size → Q' v h' SN → Go l Z EL n0 nr kn y bytes mL ret R h0 WS Q (SN ++ SF) h' (k + ck) (n + cn) pc' Ls (v.toList ++ rest)) : Go l Z EL n0 nr kn y bytes mL ret R h0 WS Q SF h k n pc Ls st := by
  intro p e s m args below meth c T hR
  obtain ⟨⟨hx, hby, hml, hown, hnm, hret, hlk, hkn⟩, vm0, k0, locs, X, e0, C⟩ := hR
  have hZ : Z.Warmed39 (s.setVm vm0).vm := C.1
  have hown' : (s.setVm vm0).vm.findClass y.cls = some m.cls := by rw [show (s.setVm vm0).vm = vm0 from rfl, C.2.1.1.1.alike.findClass]; exact hown
  have hBK := PP p e below s args vm0 hx C.1 C.2.2.2.1.1 (fun x hx => ⟨⟨(C.2.2.2.2.1 x (hws x hx)).1.1, (C.2.2.2.2.1 x (hws x hx)).1.2.1⟩, (C.2.2.2.2.1 x (hws x hx)).2⟩) C.2.2.2.2.2.2.1 C.2.2.2.2.2.2.2.2.2 (fun q => ⟨Vm.MethodsKnown.alikeC C.2.1.1.1.alike (hkn q).1, Vm.FramesKnown.alikeC C.2.1.1.1.alike (hkn q).2⟩)
  obtain ⟨cB, kB, qa, qb, qc⟩ := isOf hZ e0 E
  refine Go.after (st := st) (args := args) (ck := ck) (cn := cn) (ws := ws) (as' := as') (Q' := Q') (rest := rest) ⟨hx, hby, hml, hown, hnm, hret, hlk, hkn⟩ e0 C hws ?_ hq K
  exact X.virtualBackUpS hx (x := u) (y := z) (owner := owner) hown' (mvT hZ w1) (mvT hZ w5) (mvT hZ w2) ho (mvT hZ w3) (mvT hZ w4) hBK qa qc (g := mkF m pc Ls st) rfl (by rw [hml]; exact hsz) (Steps.refl _) (argsL := argsL) (rest := rest) hlen hst (by show 2 * 0 + _ ≤ _; rw [Nat.mul_zero, Nat.zero_add]; exact hW) (hb hby hd) (fun _ _ => ⟨has, e0, hc, hl⟩)
theorem Go.callF {ck cn W : Nat} {ws : List Addr} {as' : Array Value} {Q' : Option Value → Heap → List Addr → Prop} {index count : Nat} {u z : MethodName} {CC : String} {a : Addr} {argsL : List Value} (hd : decode bytes pc = .ok (.invokeinterface index count, 5)) (hq : pc + 5 = pc') (w1 : (Jvm.Cond.methodLink y.cls index u).before a0 Z = true) (w2 : (Jvm.Cond.declares u).before a0 Z = true) (w5 : (Jvm.Cond.interfaceMethod u.cls u.cls u.name u.desc).before a0 Z = true) (w3 : (Jvm.Cond.selects CC u z).before a0 Z = true) (w4 : (Jvm.Cond.instanceMethod z).before a0 Z = true) (w6 : (Jvm.Cond.publicMethod z).before a0 Z = true) (w7 : (Jvm.Cond.unhidden CC u.name u.desc).before a0 Z = true) (w8 : (Jvm.Cond.castable CC u.cls).before a0 Z = true) (hy : u.cls ≠ "java/lang/invoke/MethodHandle" ∧ u.cls ≠ "java/lang/invoke/VarHandle") (E : Exa Z h a CC) (PP : Pays l Z EL n0 nr kn R 5 z W ck cn ws as' h Q') (hsz : Ls.size = mL) (hst : st = argsL.reverse ++ .ref a :: rest) (hlen : ∀ sig, parseMethodDescriptor u.desc = some sig → argsL.length = sig.parameters.length) (has : (.ref a :: argsL).toArray = as') (hW : (rest.map fun v => v.category).sum ≤ W) (hws : ∀ x ∈ ws, x ∈ SF) (hc : k + ck ≤ R.cells) (hl : n + cn ≤ R.slots)
    (K : ∀ v h' SN, Keep h h' ws → h0.size ≤ h.size → Q' v h' SN → Go l Z EL n0 nr kn y bytes mL ret R h0 WS Q (SN ++ SF) h' (k + ck) (n + cn) pc' Ls (v.toList ++ rest)) : Go l Z EL n0 nr kn y bytes mL ret R h0 WS Q SF h k n pc Ls st := by
  intro p e s m args below meth c T hR
  obtain ⟨⟨hx, hby, hml, hown, hnm, hret, hlk, hkn⟩, vm0, k0, locs, X, e0, C⟩ := hR
  have hZ : Z.Warmed39 (s.setVm vm0).vm := C.1
  have hown' : (s.setVm vm0).vm.findClass y.cls = some m.cls := by rw [show (s.setVm vm0).vm = vm0 from rfl, C.2.1.1.1.alike.findClass]; exact hown
  have hBK := PP p e below s args vm0 hx C.1 C.2.2.2.1.1 (fun x hx => ⟨⟨(C.2.2.2.2.1 x (hws x hx)).1.1, (C.2.2.2.2.1 x (hws x hx)).1.2.1⟩, (C.2.2.2.2.1 x (hws x hx)).2⟩) C.2.2.2.2.2.2.1 C.2.2.2.2.2.2.2.2.2 (fun q => ⟨Vm.MethodsKnown.alikeC C.2.1.1.1.alike (hkn q).1, Vm.FramesKnown.alikeC C.2.1.1.1.alike (hkn q).2⟩)
  obtain ⟨cB, kB, qa, qb, qc⟩ := isOf hZ e0 E
  refine Go.after (st := st) (args := args) (ck := ck) (cn := cn) (ws := ws) (as' := as') (Q' := Q') (rest := rest) ⟨hx, hby, hml, hown, hnm, hret, hlk, hkn⟩ e0 C hws ?_ hq K
  exact X.interfaceBackS hx (xi := u) (y := z) hown' (mvT hZ w1) (mvT hZ w2) (mvT hZ w5 (by simp [Cond.onTables, Cond.keepsFace, Cond.keeps, Cond.steady, Cond.faceAtom]; exact hy)) (mvT hZ w3) (mvT hZ w4) (mvT hZ w6) (mvT hZ w7) (mvT hZ w8) hy hBK qa qb qc (g := mkF m pc Ls st) rfl (by rw [hml]; exact hsz) (Steps.refl _) (argsL := argsL) (rest := rest) hlen hst (by show 2 * 0 + _ ≤ _; rw [Nat.mul_zero, Nat.zero_add]; exact hW) (hb hby hd) (fun _ _ => ⟨has, e0, hc, hl⟩)
theorem Go.callP {ck cn W : Nat} {ws : List Addr} {as' : Array Value} {Q' : Option Value → Heap → List Addr → Prop} {index : Nat} {z : MethodName} {zb : ByteArray} {zL : Nat} {zr : Option FieldType} {CC : String} {a : Addr} {argsL : List Value} (hd : decode bytes pc = .ok (.invokevirtual index, 3)) (hq : pc + 3 = pc') (w1 : (Jvm.Cond.methodLink y.cls index z).before a0 Z = true) (w2 : (Jvm.Cond.instanceMethod z).before a0 Z = true) (w3 : (Jvm.Cond.selects z.cls z z).before a0 Z = true) (w5 : (Jvm.Cond.privateMethod z).before a0 Z = true) (w4 : (Jvm.Cond.code z zb zL zr).before a0 Z = true) (hy : z.cls ≠ "java/lang/invoke/MethodHandle" ∧ z.cls ≠ "java/lang/invoke/VarHandle") (E : Exa Z h a CC) (PP : Pays l Z EL n0 nr kn R 3 z W ck cn ws as' h Q') (hsz : Ls.size = mL) (hst : st = argsL.reverse ++ .ref a :: rest) (hlen : ∀ sig, parseMethodDescriptor z.desc = some sig → argsL.length = sig.parameters.length) (has : (.ref a :: argsL).toArray = as') (hW : (rest.map fun v => v.category).sum ≤ W) (hws : ∀ x ∈ ws, x ∈ SF) (hc : k + ck ≤ R.cells) (hl : n + cn ≤ R.slots)
    (K : ∀ v h' SN, Keep h h' ws → h0.size ≤ h.size → Q' v h' SN → Go l Z EL n0 nr kn y bytes mL ret R h0 WS Q (SN ++ SF) h' (k + ck) (n + cn) pc' Ls (v.toList ++ rest)) : Go l Z EL n0 nr kn y bytes mL ret R h0 WS Q SF h k n pc Ls st := by
  intro p e s m args below meth c T hR
  obtain ⟨⟨hx, hby, hml, hown, hnm, hret, hlk, hkn⟩, vm0, k0, locs, X, e0, C⟩ := hR
  have hZ : Z.Warmed39 (s.setVm vm0).vm := C.1
  have hown' : (s.setVm vm0).vm.findClass y.cls = some m.cls := by rw [show (s.setVm vm0).vm = vm0 from rfl, C.2.1.1.1.alike.findClass]; exact hown
  have hBK := PP p e below s args vm0 hx C.1 C.2.2.2.1.1 (fun x hx => ⟨⟨(C.2.2.2.2.1 x (hws x hx)).1.1, (C.2.2.2.2.1 x (hws x hx)).1.2.1⟩, (C.2.2.2.2.1 x (hws x hx)).2⟩) C.2.2.2.2.2.2.1 C.2.2.2.2.2.2.2.2.2 (fun q => ⟨Vm.MethodsKnown.alikeC C.2.1.1.1.alike (hkn q).1, Vm.FramesKnown.alikeC C.2.1.1.1.alike (hkn q).2⟩)
  obtain ⟨cq, q1, q2⟩ := E.cell
  refine Go.after (st := st) (args := args) (ck := ck) (cn := cn) (ws := ws) (as' := as') (Q' := Q') (rest := rest) ⟨hx, hby, hml, hown, hnm, hret, hlk, hkn⟩ e0 C hws ?_ hq K
  exact X.privateBackS hx (y := z) hown' (mvT hZ w1) (mvT hZ w2) (mvT hZ w3) (Cond.privateMethod_at (mvP hZ w5 (args := #[]))) (mvT hZ w4) hy hBK (g := mkF m pc Ls st) rfl (by rw [hml]; exact hsz) (Steps.refl _) (a := a) (by rw [e0]; exact q1) q2 (argsL := argsL) (rest := rest) hlen hst (by show 2 * 0 + _ ≤ _; rw [Nat.mul_zero, Nat.zero_add]; exact hW) (hb hby hd) (fun _ _ => ⟨has, e0, hc, hl⟩)
theorem nf {u z : MethodName} {CC : String} (w : (Jvm.Cond.selects CC u z).before a0 Z = true) (e : u = z) : ∀ (s : State), Z.Warmed39 s.vm → NotFace s u := fun s hZ => by
  subst e
  exact notFace_of_selects (args := #[]) (mvT hZ w)
theorem mem0 {SF : List Addr} : ∀ x ∈ ([] : List Addr), x ∈ SF := fun _ q => nomatch q
theorem memS {SF L : List Addr} {a : Addr} (q : a ∈ SF) (r : ∀ x ∈ L, x ∈ SF) : ∀ x ∈ a :: L, x ∈ SF := fun x z => (List.mem_cons.mp z).elim (fun u => u ▸ q) (r x)
theorem sn0 {SF : List Addr} {h0 : Heap} : ∀ x ∈ ([] : List Addr), x ∈ SF ∧ h0.size ≤ x := fun _ q => nomatch q
theorem snS {SF L : List Addr} {h0 : Heap} {a : Addr} (q : a ∈ SF ∧ h0.size ≤ a) (r : ∀ x ∈ L, x ∈ SF ∧ h0.size ≤ x) : ∀ x ∈ a :: L, x ∈ SF ∧ h0.size ≤ x := fun x z => (List.mem_cons.mp z).elim (fun u => u ▸ q) (r x)
theorem Ext.refl (h : Heap) : Ext h h := ⟨Nat.le_refl _, fun _ _ q => q⟩
theorem Ext.trans {h1 h2 h3 : Heap} (E : Ext h1 h2) (F : Ext h2 h3) : Ext h1 h3 := ⟨Nat.le_trans E.1 F.1, fun a c q => F.2 a c (E.2 a c q)⟩
theorem Keep.toExt {h1 h2 : Heap} (K : Keep h1 h2 []) : Ext h1 h2 := ⟨K.1, fun a c q => K.2.1 a c q (fun z => nomatch z)⟩
end Rules
end Jvm.OwnK
namespace Jvm.OwnK
open Jvm Sem ClassFile Op Lib Jvm.Free Jvm.Stand Jvm.LawKit Jvm.RoadKit Bundle
/-! plain facts on numbers and lists -/
def lowV (c : Int32) : Value := .int c.toInt8.toInt32
theorem byte_idem (c : Int32) : c.toInt8.toInt32.toInt8.toInt32 = c.toInt8.toInt32 := by
  rw [Int8.toInt8_toInt32]
theorem nar_byte (c : Int32) : nar .byte c.toInt8.toInt32 = c.toInt8.toInt32 := byte_idem c
theorem shr0 (x : Int32) : x >>> ((0 : Int32) &&& 31) = x := by
  apply Int32.toInt_inj.mp
  rw [c_ishr x 0 0 (by decide)]
  simp
theorem mask255 (x : Int32) : ¬ (x &&& 255) < 0 ∧ ¬ 255 < (x &&& 255) := by
  have h := c_and x 255 (by decide)
  rw [Int32.lt_iff_toInt_lt, Int32.lt_iff_toInt_lt]
  have e1 : (255 : Int32).toInt = 255 := by decide
  have e0 : (0 : Int32).toInt = 0 := by decide
  omega
theorem i2c_in {x : Int32} (h1 : ¬ x < 0) (h2 : ¬ 65535 < x) : x.toUInt32.toUInt16.toUInt32.toInt32 = x := by
  apply Int32.toInt_inj.mp
  have h := c_i2c x
  rw [Int32.lt_iff_toInt_lt] at h1 h2
  have e1 : (65535 : Int32).toInt = 65535 := by decide
  have e0 : (0 : Int32).toInt = 0 := by decide
  omega
theorem nar_char {x : Int32} (h1 : ¬ x < 0) (h2 : ¬ 65535 < x) : nar .char x = x := i2c_in h1 h2
theorem le255 {x : Int32} (h : ¬ 255 < x) : ¬ 65535 < x := by
  rw [Int32.lt_iff_toInt_lt] at h ⊢
  have e1 : (65535 : Int32).toInt = 65535 := by decide
  have e0 : (255 : Int32).toInt = 255 := by decide
  omega
theorem own_lowback {c : Int32} (h1 : ¬ c < 0) (h2 : ¬ 255 < c) : (c.toInt8.toInt32 &&& 255).toUInt32.toUInt16.toUInt32.toInt32 = c := by
  have m := mask255 c.toInt8.toInt32
  rw [i2c_in m.1 (le255 m.2)]
  apply Int32.toInt_inj.mp
  have e := c_mask c.toInt8.toInt32 255 8 (by decide) (by decide)
  have b := c_i2b c
  rw [Int32.lt_iff_toInt_lt] at h1 h2
  have e1 : (255 : Int32).toInt = 255 := by decide
  have e0 : (0 : Int32).toInt = 0 := by decide
  have e2 : ((2 ^ 8 : Nat) : Int) = 256 := by decide
  rw [e, e2]
  omega
theorem ofNat_succ (i : Nat) : Int32.ofNat i + 1 = Int32.ofNat (i + 1) := by
  rw [Int32.ofNat_add]; rfl
theorem ofNat_toInt {i : Nat} (h : i < 2 ^ 31) : (Int32.ofNat i).toInt = i := Int32.toInt_ofNat_small h
theorem ofNat_clamp {i : Nat} (h : i < 2 ^ 31) : (Int32.ofNat i).toNatClampNeg = i := by
  simp only [Int32.toNatClampNeg, ofNat_toInt h, Int.toNat_natCast]
theorem ofNat_nn {i : Nat} (h : i < 2 ^ 31) : ¬ Int32.ofNat i < 0 := by
  rw [Int32.lt_iff_toInt_lt, ofNat_toInt h]
  have e0 : (0 : Int32).toInt = 0 := by decide
  omega
theorem clamp_toInt {z : Int32} (h : ¬ z < 0) : z.toInt = z.toNatClampNeg := nat_of h
theorem ofNat_lt {i : Nat} {z : Int32} (hz : ¬ z < 0) (h : i < z.toNatClampNeg) : Int32.ofNat i < z := by
  have q := (back32 hz).2
  rw [Int32.lt_iff_toInt_lt, ofNat_toInt (by omega), clamp_toInt hz]
  omega
theorem ofNat_ge {i : Nat} {z : Int32} (hz : ¬ z < 0) (hi : i < 2 ^ 31) (h : z.toNatClampNeg ≤ i) : ¬ Int32.ofNat i < z := by
  rw [Int32.lt_iff_toInt_lt, ofNat_toInt hi, clamp_toInt hz]
  omega
theorem arv_nn {Z : State} {h : Heap} {a : Addr} {k : ClassId} {ty : FieldType} {z : Int32} {vs : List Value} {d : Value} (F : Arv Z h a k ty z vs d) : ¬ z < 0 := by obtain ⟨_, _, _, _, q, _⟩ := F; exact q
theorem getD_int (cs : List Int32) (i : Nat) : (cs.map Value.int).getD i (.int 0) = .int (cs.getD i 0) := by
  simp only [List.getD_eq_getElem?_getD, List.getElem?_map]
  cases cs[i]? <;> rfl
theorem getD_low (cs : List Int32) (i : Nat) (h : i < cs.length) : (cs.map lowV).getD i (.int 0) = .int (cs.getD i 0).toInt8.toInt32 := by
  simp only [List.getD_eq_getElem?_getD, List.getElem?_map, List.getElem?_eq_getElem h]
  rfl
theorem set_low (cs : List Int32) (i m : Nat) (h : i < cs.length) (z : Value) : ((cs.take i).map lowV ++ List.replicate (m + 1) z).set i (lowV (cs.getD i 0)) = (cs.take (i + 1)).map lowV ++ List.replicate m z := by
  have hl : ((cs.take i).map lowV).length = i := by simp; omega
  have e : cs.getD i 0 = cs[i] := by simp [List.getD_eq_getElem?_getD, List.getElem?_eq_getElem h]
  rw [List.set_append_right _ _ (by omega), hl, Nat.sub_self, List.replicate_succ, List.set_cons_zero, List.take_succ_eq_append_getElem h, List.map_append, List.append_assoc, e]
  rfl
theorem getD_mem {cs : List Int32} {P : Int32 → Prop} (h : ∀ x ∈ cs, P x) {i : Nat} (hi : i < cs.length) : P (cs.getD i 0) := by
  have e : cs.getD i 0 = cs[i] := by simp [List.getD_eq_getElem?_getD, List.getElem?_eq_getElem hi]
  rw [e]; exact h _ (List.getElem_mem hi)
theorem own_back (x : Int32) : x + (128 : Int32) - (128 : Int32) = x := Int32.add_sub_cancel x 128
theorem own_cache {x : Int32} {n : Nat} (h1 : ¬ x < (-128 : Int32)) (h2 : ¬ (127 : Int32) < x) (hn : n = (256 : Int32).toNatClampNeg) : ¬ (x + (128 : Int32) < 0 ∨ n ≤ (x + (128 : Int32)).toNatClampNeg) := by
  have c := c_iadd x 128
  have r := rng32 (x + 128)
  rw [Int32.lt_iff_toInt_lt] at h1 h2 ⊢
  have e1 : (-128 : Int32).toInt = -128 := by decide
  have e2 : (127 : Int32).toInt = 127 := by decide
  have e3 : (128 : Int32).toInt = 128 := by decide
  have e0 : (0 : Int32).toInt = 0 := by decide
  have e4 : (256 : Int32).toNatClampNeg = 256 := by decide
  simp only [Int32.toNatClampNeg] at hn e4 ⊢
  omega
theorem own_coder0 {z : Int32} : ((z - z).toUInt32 >>> ((31 : Int32) &&& 31).toUInt32).toInt32.toInt8.toInt32 = (0 : Int32) := by
  rw [Int32.sub_self]; decide
theorem own_nz {z : Int32} {cs : List Int32} (hz : z.toNatClampNeg = cs.length) (h : cs ≠ []) : ¬ z = (0 : Int32) := fun e => by
  subst e
  have : (0 : Int32).toNatClampNeg = 0 := by decide
  rw [this] at hz
  exact h (List.length_eq_zero_iff.mp hz.symm)
theorem own_narc (u : Int32) : narrow .char (.int (u &&& (255 : Int32)).toUInt32.toUInt16.toUInt32.toInt32) = .int (u &&& (255 : Int32)).toUInt32.toUInt16.toUInt32.toInt32 := by
  show Value.int _ = _
  have m := mask255 u
  rw [i2c_in m.1 (le255 m.2), i2c_in m.1 (le255 m.2)]
theorem own_one {P : Int32 → Prop} {a : Int32} (h : P a) : ∀ x ∈ [a], P x := fun x hx => by cases List.mem_singleton.mp hx; exact h
theorem own_cons {P : Int32 → Prop} {a : Int32} {L : List Int32} (h : P a) (r : ∀ x ∈ L, P x) : ∀ x ∈ a :: L, P x := fun x hx => (List.mem_cons.mp hx).elim (fun e => e ▸ h) (r x)
theorem own_two {P : Int32 → Prop} {a b : Int32} (h : P a) (h' : P b) : ∀ x ∈ [a, b], P x := own_cons h (own_one h')
def stRef (Z : State) (C n d : String) : Addr := match (Term.static C n d).eval #[] Z none [] Z with
  | some (.ref a) => a
  | _ => 0
theorem stRef_of {Z : State} {args : Array Value} {C n d : String} {a : Addr} (h : (Term.static C n d).eval args Z none [] Z = some (.ref a)) : stRef Z C n d = a := by
  have q : (Term.static C n d).eval #[] Z none [] Z = some (.ref a) := h
  simp only [stRef, q]
theorem arv_of_arr {Z : State} {h : Heap} {a : Addr} {cl : Cell} {ty : FieldType} {z : Int32} {vs : List Value} {d : Value} (A : Arr Z h a cl ty) (hz : ¬ z < 0) (hs : cl.slots.size = z.toNatClampNeg) (H : ∀ i, i < cl.slots.size → cl.slots[i]? = some (vs.getD i d) ∧ fits ty (vs.getD i d) = true) : Arv Z h a cl.cls ty z vs d :=
  ⟨cl, A, rfl, hs, hz, fun i hi => (H i hi).1, fun i hi => (H i hi).2⟩
theorem arv_ext {Z : State} {h h' : Heap} {a : Addr} {k : ClassId} {ty : FieldType} {z : Int32} {vs : List Value} {d : Value} (F : Arv Z h a k ty z vs d) (E : Ext h h') : Arv Z h' a k ty z vs d := F.ext E
theorem own_len {Z : State} {args : Array Value} {t : Term} {a : Addr} {cl : Cell} {ty : FieldType} {z : Int32} (e : t.eval args Z none [] Z = some (.ref a)) (A : Arr Z Z.heap a cl ty) (h : (Term.length t).eval args Z none [] Z = some (.int z)) : cl.slots.size < 2 ^ 31 ∧ cl.slots.size.toInt32 = z := by
  have q := A.fin (Vm.Alike.refl _)
  simp only [Term.eval, e, q, Option.bind_eq_bind, Option.bind_some] at h
  split at h
  · rename_i hl
    exact ⟨hl, by simpa using h⟩
  · cases h
theorem own_sto {Z : State} {h : Heap} {a y : Addr} {k : ClassId} {ty : FieldType} {z : Int32} {vs : List Value} {d : Value} {C : String} (F : Arv Z h a k ty z vs d) (O : Ovr Z k C) (I : Ins Z h y C true) : Sto Z h a (.ref y) := by
  obtain ⟨cl, A, q, -⟩ := F
  exact Sto.ofV A q O I
def NFc (Z : State) (K : String) : Prop := ∃ t kt, Z.vm.findClass K = some t ∧ Z.vm.classes[t]? = some kt ∧ kt.isInterface = false
theorem own_face_inst {Z : State} {a0 : Array Value} {K : String} {n : Nat} (w : (Jvm.Cond.instantiable K n).before a0 Z = true) : NFc Z K := by
  obtain ⟨c, k, h1, h2, -, h4, -⟩ := Cond.instantiable_spec w
  exact ⟨c, k, h1, h2, by simpa using (Bool.or_eq_false_iff.mp h4).1⟩
theorem own_face_sel {Z : State} {a0 : Array Value} {K : String} {u z : MethodName} (w : (Jvm.Cond.selects K u z).before a0 Z = true) : NFc Z z.cls := by
  obtain ⟨c, r, m, -, -, h3, -, mk, h5, h6⟩ := Cond.selects_spec w
  exact ⟨m.cls, mk, findClass_of_methodNamed h3, h5, h6⟩
theorem own_root {Z : State} {a0 : Array Value} {O K : String} (w : (Jvm.Cond.noSuperclass O).before a0 Z = true) (hk : NFc Z K) (hn : O ≠ K) : NS Z O K := by
  obtain ⟨c, k, h1, h2, h3, -, -⟩ := Cond.noSuperclass_spec w
  obtain ⟨t, kt, g1, -⟩ := hk
  have ne := ids_ne h1 g1 hn
  refine ⟨c, t, h1, g1, fun fuel => ?_⟩
  cases fuel with
  | zero => rfl
  | succ f => simp [Vm.isSubclassAux, ne, h2, h3]
theorem own_nsno {Z : State} {a0 : Array Value} {C K : String} {n : Nat} (w : (Jvm.Cond.instantiable C n).before a0 Z = true) (hk : NFc Z K) (ns : NS Z C K) (hn : C ≠ K) : ∃ c t, Z.vm.findClass C = some c ∧ Z.vm.findClass K = some t ∧ Z.vm.assignable c t = false := by
  obtain ⟨c, t, h0, g0, n3⟩ := ns
  obtain ⟨c', k, h1, h2, h5, -⟩ := Cond.instantiable_spec w
  cases h0.symm.trans h1
  obtain ⟨t', kt, g1, g2, g7⟩ := hk
  cases g0.symm.trans g1
  have ne := ids_ne h0 g0 hn
  refine ⟨c, t, h0, g0, ?_⟩
  show Z.vm.assignableAux (255 + 1) c t = false
  cases hkk : kt.kind <;> simp [Vm.assignableAux, ne, h2, g2, h5, hkk, g7, Vm.isSubclass, n3]
theorem own_arv0 {Z : State} {h : Heap} {a : Addr} {cl : Cell} {ty : FieldType} {d : Value} (A : Arr Z h a cl ty) (l : cl.slots.size < 2 ^ 31 ∧ cl.slots.size.toInt32 = (0 : Int32)) : Arv Z h a cl.cls ty (0 : Int32) [] d := by
  have e : cl.slots.size = 0 := by
    have q := len_toInt l.1
    rw [l.2] at q
    have : (0 : Int32).toInt = 0 := by decide
    omega
  refine ⟨cl, A, rfl, by rw [e]; decide, by decide, fun i hi => ?_, fun i hi => ?_⟩ <;> (rw [e] at hi; exact absurd hi (Nat.not_lt_zero _))
theorem own_cat {v : Value} (h : v.isRef = true) : v.category = 1 := by rcases ref_cases h with rfl | ⟨_, rfl⟩ <;> rfl
theorem unt_ext {h h' : Heap} {a : Addr} (E : Ext h h') (U : Unt h a) : Unt h' a := by obtain ⟨c, q, r⟩ := U; exact ⟨c, E.2 _ _ q, r⟩
theorem own_selP {Z : State} {a0 : Array Value} {z u : MethodName} (w3 : (Jvm.Cond.selects u.cls u u).before a0 Z = true) (he : u.cls = z.cls) (hx : z.cls ≠ "java/lang/invoke/MethodHandle" ∧ z.cls ≠ "java/lang/invoke/VarHandle") (w2 : (Jvm.Cond.instanceMethod z).before a0 Z = true) (w5 : (Jvm.Cond.privateMethod z).before a0 Z = true) : (Jvm.Cond.selects z.cls z z).before a0 Z = true := by
  obtain ⟨mk, methM, hnamed, hmethM, hstM, habM⟩ := Cond.instanceMethod_spec w2
  obtain ⟨c2, r2, m2, q1, q2, q3, q4, kP, hkP, hkPi⟩ := Cond.selects_spec w3
  have e1 := findClass_of_methodNamed hnamed
  have e3 := findClass_of_methodNamed q3
  have hp := Cond.privateMethod_at w5 mk methM hnamed hmethM
  rw [he, e1] at e3
  have e4 := Option.some.inj e3
  rw [← e4] at hkP
  have hf := State.methodFound?_of_named hnamed hx
  have hs : selectMethod {} Z.vm mk.cls mk = .method mk := selectMethod_private hmethM hp
  show Cond.holds _ _ _ _ _ _ = true
  simp [Cond.holds, Cond.value, e1, hf, hnamed, hs, hkP, hkPi]
theorem own_elem {Z : State} {args : Array Value} {t : Term} {a : Addr} {cl : Cell} {ty : FieldType} {j : Int32} {v : Value} (e : t.eval args Z none [] Z = some (.ref a)) (A : Arr Z Z.heap a cl ty) (h : (Term.elem t (Term.int j)).eval args Z none [] Z = some v) : cl.slots[j.toNatClampNeg]? = some v := by
  have q := A.fin (Vm.Alike.refl _)
  simp only [Term.eval, e, q, Option.bind_eq_bind, Option.bind_some] at h
  split at h
  · cases h
  · exact h
theorem own_eqr {Z : State} {args : Array Value} {X F : Term} {y : Addr} (hF : F.eval args Z none [] Z = some (.ref y)) (h : (Cond.eq X F).value args Z none Z [] = some true) : X.eval args Z none [] Z = some (.ref y) := by
  simp only [Cond.value, hF] at h
  cases hX : X.eval args Z none [] Z with
  | none => simp [hX] at h
  | some x => cases x <;> simp [hX] at h ⊢; exact h
theorem own_eqn {Z : State} {args : Array Value} {X : Term} (h : (Cond.eq X Term.null).value args Z none Z [] = some true) : X.eval args Z none [] Z = some .null := by
  simp only [Cond.value, Term.eval] at h
  cases hX : X.eval args Z none [] Z with
  | none => simp [hX] at h
  | some x => cases x <;> simp [hX] at h ⊢
def own_eqb (us ws : List Int32) : Int32 := if us = ws then 1 else 0
theorem own_take_succ {us ws : List Int32} {i : Nat} (hu : i < us.length) (hw : i < ws.length) (h : us.take i = ws.take i) (e : us.getD i 0 = ws.getD i 0) : us.take (i + 1) = ws.take (i + 1) := by
  rw [List.take_succ_eq_append_getElem hu, List.take_succ_eq_append_getElem hw, h]
  simp [List.getD_eq_getElem?_getD, List.getElem?_eq_getElem hu, List.getElem?_eq_getElem hw] at e
  rw [e]
theorem own_low_map (cs : List Int32) : cs.map lowV = (cs.map (fun c => c.toInt8.toInt32)).map Value.int := by simp [lowV]
theorem own_eqb_pos {us ws : List Int32} (h : us = ws) : own_eqb us ws = 1 := if_pos h
theorem own_eqb_neg {us ws : List Int32} (h : ¬ us = ws) : own_eqb us ws = 0 := if_neg h
theorem own_eqb0 {us ws : List Int32} (h : own_eqb us ws = 0) : ¬ us = ws := fun e => by rw [own_eqb_pos e] at h; exact absurd h (by decide)
theorem own_eqb1 {us ws : List Int32} (h : ¬ own_eqb us ws = 0) : us = ws := Classical.byContradiction fun e => h (own_eqb_neg e)
theorem own_eqb0' {us ws : List Int32} (h : own_eqb ws us = 0) : ¬ us = ws := fun e => own_eqb0 h e.symm
theorem own_eqb_nar (us ws : List Int32) : narrow .boolean (.int (own_eqb us ws)) = .int (own_eqb us ws) := by
  by_cases h : us = ws
  · rw [own_eqb_pos h]; rfl
  · rw [own_eqb_neg h]; rfl
theorem own_idx {j z : Int32} (h1 : ¬ j < 0) (h2 : j < z) : j.toNatClampNeg < z.toNatClampNeg := by
  have e := clamp_toInt h1
  rw [Int32.lt_iff_toInt_lt] at h2
  simp only [Int32.toNatClampNeg] at e ⊢
  omega
theorem own_clamp_inj {x z : Int32} (h1 : ¬ x < 0) (h2 : ¬ z < 0) (h : x.toNatClampNeg = z.toNatClampNeg) : x = z := by
  have e1 := clamp_toInt h1
  have e2 := clamp_toInt h2
  apply Int32.toInt_inj.mp
  omega
theorem own_pad0 (m i : Nat) : ((List.replicate m (0 : Int32)).map Value.int).getD i (.int (0 : Int32)) = ([] : List Value).getD i (.int (0 : Int32)) := by
  simp only [List.map_replicate, List.getD_eq_getElem?_getD, List.getElem?_replicate]
  split <;> rfl
theorem own_set_mem {cs : List Int32} {P : Int32 → Prop} {i : Nat} {x : Int32} (h : ∀ y ∈ cs, P y) (hx : P x) : ∀ y ∈ cs.set i x, P y := fun y hy => by
  rcases List.mem_or_eq_of_mem_set hy with q | q
  · exact h y q
  · rw [q]; exact hx
theorem own_set_map (cs : List Int32) (i : Nat) (x : Int32) : (cs.map Value.int).set i (.int x) = (cs.set i x).map Value.int := by rw [List.map_set]
theorem own_arv_uniq {Z : State} {h : Heap} {t : Addr} {k k' : ClassId} {ty ty' : FieldType} {z z' : Int32} {us ws : List Int32} {d d' : Value} (A : Arv Z h t k ty z (us.map Value.int) d) (B : Arv Z h t k' ty' z' (ws.map Value.int) d') (hu : z.toNatClampNeg = us.length) (hw : z'.toNatClampNeg = ws.length) : us = ws := by
  obtain ⟨c, A1, -, A2, -, A3, -⟩ := A
  obtain ⟨c', B1, -, B2, -, B3, -⟩ := B
  cases A1.1.symm.trans B1.1
  apply List.ext_getElem (by omega)
  intro i h1 h2
  have q1 := A3 i (by omega)
  have q2 := B3 i (by omega)
  have q := Option.some.inj (q1.symm.trans q2)
  simp [List.getD_eq_getElem?_getD, List.getElem?_map, List.getElem?_eq_getElem h1, List.getElem?_eq_getElem h2] at q
  exact q
theorem own_fld_uniq {Z : State} {h : Heap} {a : Addr} {C n d : String} {x y : Addr} (F : Fld Z h a C n d (.ref x)) (G : Fld Z h a C n d (.ref y)) : x = y := Classical.byContradiction fun q => Fld.ne F G (fun e => q (Value.ref.inj e)) rfl
theorem own_rem {x : Int32} {m : Int32} (h : ¬ x < 0) (hm : (0 : Int32) < m) : ¬ x % m < 0 ∧ x % m < m := by
  have e := (c_iremV x m).1
  rw [Int32.lt_iff_toInt_lt] at h hm ⊢
  rw [Int32.lt_iff_toInt_lt]
  have e0 : (0 : Int32).toInt = 0 := by decide
  rw [e0] at h hm ⊢
  have := e (by omega) hm
  omega
theorem own_maskn (x m : Int32) (h : ¬ m < 0) : ¬ (x &&& m) < 0 := by
  have e0 : (0 : Int32).toInt = 0 := by decide
  rw [Int32.lt_iff_toInt_lt, e0] at h ⊢
  have q := c_and x m (by omega)
  omega
theorem own_remcap {x m : Int32} {c : Nat} (h : ¬ x < 0) (hm : (0 : Int32) < m) (hc : m.toNatClampNeg ≤ c + 1) : (x % m).toNatClampNeg ≤ c := by
  have q := own_rem h hm
  have r := own_idx q.1 q.2
  omega
end Jvm.OwnK

namespace Jvm.Pilot.@@N@@
open Jvm Jvm.ClassFile Sem Op Lib Jvm.Free Jvm.Stand Jvm.LawKit Jvm.RoadKit Bundle Jvm.OwnK Jvm.Pilot.@@N@@.Jvm.D
abbrev EL0 : List (String × Nat) := [("com/example/tapstone/tapstone/server/RoleOfConfigNamePinLaw", 8), ("com/example/tapstone/tapstone/server/RoleOfConfigNamePinLaw", 10), ("com/example/tapstone/tapstone/server/RoleOfConfigNamePinLaw", 12), ("com/example/tapstone/tapstone/server/RoleOfConfigNamePinLaw", 14), ("java/lang/String", 7)]
abbrev NR0 : Bool := false
abbrev KN0 : Bool := false
abbrev CAP : Nat := 11
def Stat (Z : State) : Prop := (∃ zc : Int32, Sta Z Z.heap "java/lang/String" "COMPACT_STRINGS" "Z" (.int zc) ∧ ¬ zc = 0) ∧ (∃ fm : Value, Sta Z Z.heap "jdk/internal/util/Preconditions" "SIOOBE_FORMATTER" "Ljava/util/function/BiFunction;" fm ∧ fm.isRef = true) ∧ (Sta Z Z.heap "java/util/Optional" "EMPTY" "Ljava/util/Optional;" (.ref (stRef Z "java/util/Optional" "EMPTY" "Ljava/util/Optional;")) ∧ Exa Z Z.heap (stRef Z "java/util/Optional" "EMPTY" "Ljava/util/Optional;") "java/util/Optional" ∧ Fld Z Z.heap (stRef Z "java/util/Optional" "EMPTY" "Ljava/util/Optional;") "java/util/Optional" "value" "Ljava/lang/Object;" .null) ∧ (Sta Z Z.heap "com/example/tapstone/tapstone/server/Role" "$VALUES" "[Lcom/example/tapstone/tapstone/server/Role;" (.ref (stRef Z "com/example/tapstone/tapstone/server/Role" "$VALUES" "[Lcom/example/tapstone/tapstone/server/Role;")) ∧ Exa Z Z.heap (stRef Z "com/example/tapstone/tapstone/server/Role" "$VALUES" "[Lcom/example/tapstone/tapstone/server/Role;") "[Lcom/example/tapstone/tapstone/server/Role;" ∧ ∃ kv : ClassId, Arv Z Z.heap (stRef Z "com/example/tapstone/tapstone/server/Role" "$VALUES" "[Lcom/example/tapstone/tapstone/server/Role;") kv (.object "com/example/tapstone/tapstone/server/Role") (3 : Int32) [(.ref (stRef Z "com/example/tapstone/tapstone/server/Role" "REQUESTOR" "Lcom/example/tapstone/tapstone/server/Role;")), (.ref (stRef Z "com/example/tapstone/tapstone/server/Role" "NETWORK" "Lcom/example/tapstone/tapstone/server/Role;")), (.ref (stRef Z "com/example/tapstone/tapstone/server/Role" "INTEGRATOR" "Lcom/example/tapstone/tapstone/server/Role;"))] .null) ∧ (Sta Z Z.heap "com/example/tapstone/tapstone/server/Role" "REQUESTOR" "Lcom/example/tapstone/tapstone/server/Role;" (.ref (stRef Z "com/example/tapstone/tapstone/server/Role" "REQUESTOR" "Lcom/example/tapstone/tapstone/server/Role;")) ∧ Exa Z Z.heap (stRef Z "com/example/tapstone/tapstone/server/Role" "REQUESTOR" "Lcom/example/tapstone/tapstone/server/Role;") "com/example/tapstone/tapstone/server/Role" ∧ ∃ (sc tc : Addr) (kc : ClassId), Fld Z Z.heap (stRef Z "com/example/tapstone/tapstone/server/Role" "REQUESTOR" "Lcom/example/tapstone/tapstone/server/Role;") "com/example/tapstone/tapstone/server/Role" "configName" "Ljava/lang/String;" (.ref sc) ∧ Exa Z Z.heap sc "java/lang/String" ∧ Fld Z Z.heap sc "java/lang/String" "coder" "B" (.int (0 : Int32)) ∧ Fld Z Z.heap sc "java/lang/String" "value" "[B" (.ref tc) ∧ Arv Z Z.heap tc kc .byte (9 : Int32) ([(114 : Int32), (101 : Int32), (113 : Int32), (117 : Int32), (101 : Int32), (115 : Int32), (116 : Int32), (111 : Int32), (114 : Int32)].map Value.int) (.int (0 : Int32))) ∧ (Sta Z Z.heap "com/example/tapstone/tapstone/server/Role" "NETWORK" "Lcom/example/tapstone/tapstone/server/Role;" (.ref (stRef Z "com/example/tapstone/tapstone/server/Role" "NETWORK" "Lcom/example/tapstone/tapstone/server/Role;")) ∧ Exa Z Z.heap (stRef Z "com/example/tapstone/tapstone/server/Role" "NETWORK" "Lcom/example/tapstone/tapstone/server/Role;") "com/example/tapstone/tapstone/server/Role" ∧ ∃ (sc tc : Addr) (kc : ClassId), Fld Z Z.heap (stRef Z "com/example/tapstone/tapstone/server/Role" "NETWORK" "Lcom/example/tapstone/tapstone/server/Role;") "com/example/tapstone/tapstone/server/Role" "configName" "Ljava/lang/String;" (.ref sc) ∧ Exa Z Z.heap sc "java/lang/String" ∧ Fld Z Z.heap sc "java/lang/String" "coder" "B" (.int (0 : Int32)) ∧ Fld Z Z.heap sc "java/lang/String" "value" "[B" (.ref tc) ∧ Arv Z Z.heap tc kc .byte (7 : Int32) ([(110 : Int32), (101 : Int32), (116 : Int32), (119 : Int32), (111 : Int32), (114 : Int32), (107 : Int32)].map Value.int) (.int (0 : Int32))) ∧ (Sta Z Z.heap "com/example/tapstone/tapstone/server/Role" "INTEGRATOR" "Lcom/example/tapstone/tapstone/server/Role;" (.ref (stRef Z "com/example/tapstone/tapstone/server/Role" "INTEGRATOR" "Lcom/example/tapstone/tapstone/server/Role;")) ∧ Exa Z Z.heap (stRef Z "com/example/tapstone/tapstone/server/Role" "INTEGRATOR" "Lcom/example/tapstone/tapstone/server/Role;") "com/example/tapstone/tapstone/server/Role" ∧ ∃ (sc tc : Addr) (kc : ClassId), Fld Z Z.heap (stRef Z "com/example/tapstone/tapstone/server/Role" "INTEGRATOR" "Lcom/example/tapstone/tapstone/server/Role;") "com/example/tapstone/tapstone/server/Role" "configName" "Ljava/lang/String;" (.ref sc) ∧ Exa Z Z.heap sc "java/lang/String" ∧ Fld Z Z.heap sc "java/lang/String" "coder" "B" (.int (0 : Int32)) ∧ Fld Z Z.heap sc "java/lang/String" "value" "[B" (.ref tc) ∧ Arv Z Z.heap tc kc .byte (10 : Int32) ([(105 : Int32), (110 : Int32), (116 : Int32), (101 : Int32), (103 : Int32), (114 : Int32), (97 : Int32), (116 : Int32), (111 : Int32), (114 : Int32)].map Value.int) (.int (0 : Int32))) ∧ True
theorem hs_c {Z : State} (h : Stat Z) : (∃ zc : Int32, Sta Z Z.heap "java/lang/String" "COMPACT_STRINGS" "Z" (.int zc) ∧ ¬ zc = 0) := h.1
theorem hs_f {Z : State} (h : Stat Z) : (∃ fm : Value, Sta Z Z.heap "jdk/internal/util/Preconditions" "SIOOBE_FORMATTER" "Ljava/util/function/BiFunction;" fm ∧ fm.isRef = true) := h.2.1
theorem hs_O {Z : State} (h : Stat Z) : (Sta Z Z.heap "java/util/Optional" "EMPTY" "Ljava/util/Optional;" (.ref (stRef Z "java/util/Optional" "EMPTY" "Ljava/util/Optional;")) ∧ Exa Z Z.heap (stRef Z "java/util/Optional" "EMPTY" "Ljava/util/Optional;") "java/util/Optional" ∧ Fld Z Z.heap (stRef Z "java/util/Optional" "EMPTY" "Ljava/util/Optional;") "java/util/Optional" "value" "Ljava/lang/Object;" .null) := h.2.2.1
theorem hs_V {Z : State} (h : Stat Z) : (Sta Z Z.heap "com/example/tapstone/tapstone/server/Role" "$VALUES" "[Lcom/example/tapstone/tapstone/server/Role;" (.ref (stRef Z "com/example/tapstone/tapstone/server/Role" "$VALUES" "[Lcom/example/tapstone/tapstone/server/Role;")) ∧ Exa Z Z.heap (stRef Z "com/example/tapstone/tapstone/server/Role" "$VALUES" "[Lcom/example/tapstone/tapstone/server/Role;") "[Lcom/example/tapstone/tapstone/server/Role;" ∧ ∃ kv : ClassId, Arv Z Z.heap (stRef Z "com/example/tapstone/tapstone/server/Role" "$VALUES" "[Lcom/example/tapstone/tapstone/server/Role;") kv (.object "com/example/tapstone/tapstone/server/Role") (3 : Int32) [(.ref (stRef Z "com/example/tapstone/tapstone/server/Role" "REQUESTOR" "Lcom/example/tapstone/tapstone/server/Role;")), (.ref (stRef Z "com/example/tapstone/tapstone/server/Role" "NETWORK" "Lcom/example/tapstone/tapstone/server/Role;")), (.ref (stRef Z "com/example/tapstone/tapstone/server/Role" "INTEGRATOR" "Lcom/example/tapstone/tapstone/server/Role;"))] .null) := h.2.2.2.1
theorem hs_b0 {Z : State} (h : Stat Z) : (Sta Z Z.heap "com/example/tapstone/tapstone/server/Role" "REQUESTOR" "Lcom/example/tapstone/tapstone/server/Role;" (.ref (stRef Z "com/example/tapstone/tapstone/server/Role" "REQUESTOR" "Lcom/example/tapstone/tapstone/server/Role;")) ∧ Exa Z Z.heap (stRef Z "com/example/tapstone/tapstone/server/Role" "REQUESTOR" "Lcom/example/tapstone/tapstone/server/Role;") "com/example/tapstone/tapstone/server/Role" ∧ ∃ (sc tc : Addr) (kc : ClassId), Fld Z Z.heap (stRef Z "com/example/tapstone/tapstone/server/Role" "REQUESTOR" "Lcom/example/tapstone/tapstone/server/Role;") "com/example/tapstone/tapstone/server/Role" "configName" "Ljava/lang/String;" (.ref sc) ∧ Exa Z Z.heap sc "java/lang/String" ∧ Fld Z Z.heap sc "java/lang/String" "coder" "B" (.int (0 : Int32)) ∧ Fld Z Z.heap sc "java/lang/String" "value" "[B" (.ref tc) ∧ Arv Z Z.heap tc kc .byte (9 : Int32) ([(114 : Int32), (101 : Int32), (113 : Int32), (117 : Int32), (101 : Int32), (115 : Int32), (116 : Int32), (111 : Int32), (114 : Int32)].map Value.int) (.int (0 : Int32))) := h.2.2.2.2.1
theorem hs_b1 {Z : State} (h : Stat Z) : (Sta Z Z.heap "com/example/tapstone/tapstone/server/Role" "NETWORK" "Lcom/example/tapstone/tapstone/server/Role;" (.ref (stRef Z "com/example/tapstone/tapstone/server/Role" "NETWORK" "Lcom/example/tapstone/tapstone/server/Role;")) ∧ Exa Z Z.heap (stRef Z "com/example/tapstone/tapstone/server/Role" "NETWORK" "Lcom/example/tapstone/tapstone/server/Role;") "com/example/tapstone/tapstone/server/Role" ∧ ∃ (sc tc : Addr) (kc : ClassId), Fld Z Z.heap (stRef Z "com/example/tapstone/tapstone/server/Role" "NETWORK" "Lcom/example/tapstone/tapstone/server/Role;") "com/example/tapstone/tapstone/server/Role" "configName" "Ljava/lang/String;" (.ref sc) ∧ Exa Z Z.heap sc "java/lang/String" ∧ Fld Z Z.heap sc "java/lang/String" "coder" "B" (.int (0 : Int32)) ∧ Fld Z Z.heap sc "java/lang/String" "value" "[B" (.ref tc) ∧ Arv Z Z.heap tc kc .byte (7 : Int32) ([(110 : Int32), (101 : Int32), (116 : Int32), (119 : Int32), (111 : Int32), (114 : Int32), (107 : Int32)].map Value.int) (.int (0 : Int32))) := h.2.2.2.2.2.1
theorem hs_b2 {Z : State} (h : Stat Z) : (Sta Z Z.heap "com/example/tapstone/tapstone/server/Role" "INTEGRATOR" "Lcom/example/tapstone/tapstone/server/Role;" (.ref (stRef Z "com/example/tapstone/tapstone/server/Role" "INTEGRATOR" "Lcom/example/tapstone/tapstone/server/Role;")) ∧ Exa Z Z.heap (stRef Z "com/example/tapstone/tapstone/server/Role" "INTEGRATOR" "Lcom/example/tapstone/tapstone/server/Role;") "com/example/tapstone/tapstone/server/Role" ∧ ∃ (sc tc : Addr) (kc : ClassId), Fld Z Z.heap (stRef Z "com/example/tapstone/tapstone/server/Role" "INTEGRATOR" "Lcom/example/tapstone/tapstone/server/Role;") "com/example/tapstone/tapstone/server/Role" "configName" "Ljava/lang/String;" (.ref sc) ∧ Exa Z Z.heap sc "java/lang/String" ∧ Fld Z Z.heap sc "java/lang/String" "coder" "B" (.int (0 : Int32)) ∧ Fld Z Z.heap sc "java/lang/String" "value" "[B" (.ref tc) ∧ Arv Z Z.heap tc kc .byte (10 : Int32) ([(105 : Int32), (110 : Int32), (116 : Int32), (101 : Int32), (103 : Int32), (114 : Int32), (97 : Int32), (116 : Int32), (111 : Int32), (114 : Int32)].map Value.int) (.int (0 : Int32))) := h.2.2.2.2.2.2.1
def brandV (Z : State) (us : List Int32) : Value := if us = [(114 : Int32), (101 : Int32), (113 : Int32), (117 : Int32), (101 : Int32), (115 : Int32), (116 : Int32), (111 : Int32), (114 : Int32)] then .ref (stRef Z "com/example/tapstone/tapstone/server/Role" "REQUESTOR" "Lcom/example/tapstone/tapstone/server/Role;") else if us = [(110 : Int32), (101 : Int32), (116 : Int32), (119 : Int32), (111 : Int32), (114 : Int32), (107 : Int32)] then .ref (stRef Z "com/example/tapstone/tapstone/server/Role" "NETWORK" "Lcom/example/tapstone/tapstone/server/Role;") else if us = [(105 : Int32), (110 : Int32), (116 : Int32), (101 : Int32), (103 : Int32), (114 : Int32), (97 : Int32), (116 : Int32), (111 : Int32), (114 : Int32)] then .ref (stRef Z "com/example/tapstone/tapstone/server/Role" "INTEGRATOR" "Lcom/example/tapstone/tapstone/server/Role;") else .null
theorem brandV_0 {Z : State} {us : List Int32} (h0 : us = [(114 : Int32), (101 : Int32), (113 : Int32), (117 : Int32), (101 : Int32), (115 : Int32), (116 : Int32), (111 : Int32), (114 : Int32)]) : brandV Z us = (.ref (stRef Z "com/example/tapstone/tapstone/server/Role" "REQUESTOR" "Lcom/example/tapstone/tapstone/server/Role;")) := by rw [brandV, if_pos h0]
theorem brandV_1 {Z : State} {us : List Int32} (h0 : ¬ us = [(114 : Int32), (101 : Int32), (113 : Int32), (117 : Int32), (101 : Int32), (115 : Int32), (116 : Int32), (111 : Int32), (114 : Int32)]) (h1 : us = [(110 : Int32), (101 : Int32), (116 : Int32), (119 : Int32), (111 : Int32), (114 : Int32), (107 : Int32)]) : brandV Z us = (.ref (stRef Z "com/example/tapstone/tapstone/server/Role" "NETWORK" "Lcom/example/tapstone/tapstone/server/Role;")) := by rw [brandV, if_neg h0, if_pos h1]
theorem brandV_2 {Z : State} {us : List Int32} (h0 : ¬ us = [(114 : Int32), (101 : Int32), (113 : Int32), (117 : Int32), (101 : Int32), (115 : Int32), (116 : Int32), (111 : Int32), (114 : Int32)]) (h1 : ¬ us = [(110 : Int32), (101 : Int32), (116 : Int32), (119 : Int32), (111 : Int32), (114 : Int32), (107 : Int32)]) (h2 : us = [(105 : Int32), (110 : Int32), (116 : Int32), (101 : Int32), (103 : Int32), (114 : Int32), (97 : Int32), (116 : Int32), (111 : Int32), (114 : Int32)]) : brandV Z us = (.ref (stRef Z "com/example/tapstone/tapstone/server/Role" "INTEGRATOR" "Lcom/example/tapstone/tapstone/server/Role;")) := by rw [brandV, if_neg h0, if_neg h1, if_pos h2]
theorem brandV_3 {Z : State} {us : List Int32} (h0 : ¬ us = [(114 : Int32), (101 : Int32), (113 : Int32), (117 : Int32), (101 : Int32), (115 : Int32), (116 : Int32), (111 : Int32), (114 : Int32)]) (h1 : ¬ us = [(110 : Int32), (101 : Int32), (116 : Int32), (119 : Int32), (111 : Int32), (114 : Int32), (107 : Int32)]) (h2 : ¬ us = [(105 : Int32), (110 : Int32), (116 : Int32), (101 : Int32), (103 : Int32), (114 : Int32), (97 : Int32), (116 : Int32), (111 : Int32), (114 : Int32)]) : brandV Z us = .null := by rw [brandV, if_neg h0, if_neg h1, if_neg h2]
abbrev N_0 : MethodName := ⟨"java/lang/StringUTF16", "compress", "([CI[BII)I"⟩
abbrev N_1 : MethodName := ⟨"java/lang/StringUTF16", "compress", "([CII)[B"⟩
abbrev N_2 : MethodName := ⟨"java/lang/StringUTF16", "coderFromArrayLen", "([BI)B"⟩
abbrev N_3 : MethodName := ⟨"java/lang/String", "<init>", "([CIILjava/lang/Void;)V"⟩
abbrev N_4 : MethodName := ⟨"java/lang/String", "<init>", "([C)V"⟩
abbrev N_5 : MethodName := ⟨"java/lang/String", "coder", "()B"⟩
abbrev N_6 : MethodName := ⟨"java/lang/String", "isLatin1", "()Z"⟩
abbrev N_7 : MethodName := ⟨"java/lang/String", "length", "()I"⟩
abbrev N_8 : MethodName := ⟨"jdk/internal/util/Preconditions", "checkIndex", "(IILjava/util/function/BiFunction;)I"⟩
abbrev N_9 : MethodName := ⟨"java/lang/String", "checkIndex", "(II)V"⟩
abbrev N_10 : MethodName := ⟨"java/lang/StringLatin1", "charAt", "([BI)C"⟩
abbrev N_11 : MethodName := ⟨"java/lang/String", "charAt", "(I)C"⟩
abbrev N_12 : MethodName := ⟨"java/lang/StringLatin1", "equals", "([B[B)Z"⟩
abbrev N_13 : MethodName := ⟨"java/lang/String", "equals", "(Ljava/lang/Object;)Z"⟩
abbrev N_14 : MethodName := ⟨"java/util/Objects", "requireNonNull", "(Ljava/lang/Object;)Ljava/lang/Object;"⟩
abbrev N_15 : MethodName := ⟨"java/util/Optional", "<init>", "(Ljava/lang/Object;)V"⟩
abbrev N_16 : MethodName := ⟨"java/util/Optional", "of", "(Ljava/lang/Object;)Ljava/util/Optional;"⟩
abbrev N_17 : MethodName := ⟨"java/util/Optional", "empty", "()Ljava/util/Optional;"⟩
abbrev N_18 : MethodName := ⟨"java/util/Optional", "isPresent", "()Z"⟩
abbrev N_19 : MethodName := ⟨"java/util/Optional", "get", "()Ljava/lang/Object;"⟩
abbrev N_20 : MethodName := ⟨"com/example/tapstone/tapstone/server/Role", "values", "()[Lcom/example/tapstone/tapstone/server/Role;"⟩
abbrev N_21 : MethodName := ⟨"com/example/tapstone/tapstone/server/RoleOfConfigNamePinLaw", "put", "([CILjava/lang/String;I)V"⟩
abbrev N_22 : MethodName := ⟨"com/example/tapstone/tapstone/server/Role", "ofConfigName", "(Ljava/lang/String;)Ljava/util/Optional;"⟩
theorem pd_0 : parseMethodDescriptor "([CI[BII)I" = some ⟨[(.array .char), .int, (.array .byte), .int, .int], some .int⟩ := by decide +kernel
theorem pd_1 : parseMethodDescriptor "([CII)[B" = some ⟨[(.array .char), .int, .int], some (.array .byte)⟩ := by decide +kernel
theorem pd_2 : parseMethodDescriptor "([BI)B" = some ⟨[(.array .byte), .int], some .byte⟩ := by decide +kernel
theorem pd_3 : parseMethodDescriptor "([CIILjava/lang/Void;)V" = some ⟨[(.array .char), .int, .int, (.object "java/lang/Void")], none⟩ := by decide +kernel
theorem pd_4 : parseMethodDescriptor "()B" = some ⟨[], some .byte⟩ := by decide +kernel
theorem pd_5 : parseMethodDescriptor "(IILjava/util/function/BiFunction;)I" = some ⟨[.int, .int, (.object "java/util/function/BiFunction")], some .int⟩ := by decide +kernel
theorem pd_6 : parseMethodDescriptor "(II)V" = some ⟨[.int, .int], none⟩ := by decide +kernel
theorem pd_7 : parseMethodDescriptor "()Z" = some ⟨[], some .boolean⟩ := by decide +kernel
theorem pd_8 : parseMethodDescriptor "([BI)C" = some ⟨[(.array .byte), .int], some .char⟩ := by decide +kernel
theorem pd_9 : parseMethodDescriptor "([B[B)Z" = some ⟨[(.array .byte), (.array .byte)], some .boolean⟩ := by decide +kernel
theorem pd_10 : parseMethodDescriptor "(Ljava/lang/Object;)Ljava/lang/Object;" = some ⟨[(.object "java/lang/Object")], some (.object "java/lang/Object")⟩ := by decide +kernel
theorem pd_11 : parseMethodDescriptor "(Ljava/lang/Object;)V" = some ⟨[(.object "java/lang/Object")], none⟩ := by decide +kernel
theorem pd_12 : parseMethodDescriptor "()I" = some ⟨[], some .int⟩ := by decide +kernel
theorem pd_13 : parseMethodDescriptor "(I)C" = some ⟨[.int], some .char⟩ := by decide +kernel
theorem pd_14 : parseMethodDescriptor "()[Lcom/example/tapstone/tapstone/server/Role;" = some ⟨[], some (.array (.object "com/example/tapstone/tapstone/server/Role"))⟩ := by decide +kernel
theorem pd_15 : parseMethodDescriptor "(Ljava/lang/Object;)Z" = some ⟨[(.object "java/lang/Object")], some .boolean⟩ := by decide +kernel
theorem pd_16 : parseMethodDescriptor "(Ljava/lang/Object;)Ljava/util/Optional;" = some ⟨[(.object "java/lang/Object")], some (.object "java/util/Optional")⟩ := by decide +kernel
theorem pd_17 : parseMethodDescriptor "()Ljava/util/Optional;" = some ⟨[], some (.object "java/util/Optional")⟩ := by decide +kernel
theorem pd_18 : parseMethodDescriptor "()Ljava/lang/Object;" = some ⟨[], some (.object "java/lang/Object")⟩ := by decide +kernel
theorem pd_19 : parseMethodDescriptor "(Ljava/lang/String;)Ljava/util/Optional;" = some ⟨[(.object "java/lang/String")], some (.object "java/util/Optional")⟩ := by decide +kernel
theorem pd_20 : parseMethodDescriptor "([C)V" = some ⟨[(.array .char)], none⟩ := by decide +kernel
theorem pd_21 : parseMethodDescriptor "([CILjava/lang/String;I)V" = some ⟨[(.array .char), .int, (.object "java/lang/String"), .int], none⟩ := by decide +kernel
theorem lit_0 : (∀ c ∈ ("" : String).toList, c.toNat < 256) ∧ ("" : String).toList.map (fun c => Value.int (Jvm.Lit.byteI c.toNat.toUInt16)) = [] := ⟨by decide +kernel, by decide +kernel⟩
theorem lit_1 : (∀ c ∈ ("requestor" : String).toList, c.toNat < 256) ∧ ("requestor" : String).toList.map (fun c => Value.int (Jvm.Lit.byteI c.toNat.toUInt16)) = [(.int (114 : Int32)), (.int (101 : Int32)), (.int (113 : Int32)), (.int (117 : Int32)), (.int (101 : Int32)), (.int (115 : Int32)), (.int (116 : Int32)), (.int (111 : Int32)), (.int (114 : Int32))] := ⟨by decide +kernel, by decide +kernel⟩
theorem lit_2 : (∀ c ∈ ("network" : String).toList, c.toNat < 256) ∧ ("network" : String).toList.map (fun c => Value.int (Jvm.Lit.byteI c.toNat.toUInt16)) = [(.int (110 : Int32)), (.int (101 : Int32)), (.int (116 : Int32)), (.int (119 : Int32)), (.int (111 : Int32)), (.int (114 : Int32)), (.int (107 : Int32))] := ⟨by decide +kernel, by decide +kernel⟩
theorem lit_3 : (∀ c ∈ ("integrator" : String).toList, c.toNat < 256) ∧ ("integrator" : String).toList.map (fun c => Value.int (Jvm.Lit.byteI c.toNat.toUInt16)) = [(.int (105 : Int32)), (.int (110 : Int32)), (.int (116 : Int32)), (.int (101 : Int32)), (.int (103 : Int32)), (.int (114 : Int32)), (.int (97 : Int32)), (.int (116 : Int32)), (.int (111 : Int32)), (.int (114 : Int32))] := ⟨by decide +kernel, by decide +kernel⟩
theorem ic_0 : Int32.ofInt (0) = (0 : Int32) := by decide
theorem ic_1 : Int32.ofInt (1) = (1 : Int32) := by decide
theorem ic_2 : Int32.ofInt (2) = (2 : Int32) := by decide
theorem ic_3 : Int32.ofInt (3) = (3 : Int32) := by decide
theorem ic_4 : Int32.ofInt (4) = (4 : Int32) := by decide
theorem ic_5 : Int32.ofInt (5) = (5 : Int32) := by decide
theorem icb_6 : (Int8.ofInt (6)).toInt32 = (6 : Int32) := by decide
theorem icb_7 : (Int8.ofInt (7)).toInt32 = (7 : Int32) := by decide
theorem icb_8 : (Int8.ofInt (8)).toInt32 = (8 : Int32) := by decide
theorem icb_9 : (Int8.ofInt (9)).toInt32 = (9 : Int32) := by decide
theorem icb_10 : (Int8.ofInt (10)).toInt32 = (10 : Int32) := by decide
theorem icb_11 : (Int8.ofInt (11)).toInt32 = (11 : Int32) := by decide
theorem icb_12 : (Int8.ofInt (12)).toInt32 = (12 : Int32) := by decide
theorem icb_31 : (Int8.ofInt (31)).toInt32 = (31 : Int32) := by decide
theorem ics_255 : (Int16.ofInt (255)).toInt32 = (255 : Int32) := by decide
theorem d_prog_29_method_5_0 : decode prog_29_method_5_code 0 = .ok (.invokestatic 36, 3) := by decide +kernel
theorem d_prog_29_method_5_3 : decode prog_29_method_5_code 3 = .ok (.astore_n 1, 1) := by decide +kernel
theorem d_prog_29_method_5_4 : decode prog_29_method_5_code 4 = .ok (.aload_n 1, 1) := by decide +kernel
theorem d_prog_29_method_5_5 : decode prog_29_method_5_code 5 = .ok (.arraylength, 1) := by decide +kernel
theorem d_prog_29_method_5_6 : decode prog_29_method_5_code 6 = .ok (.istore_n 2, 1) := by decide +kernel
theorem d_prog_29_method_5_7 : decode prog_29_method_5_code 7 = .ok (.iconst 0, 1) := by decide +kernel
theorem d_prog_29_method_5_8 : decode prog_29_method_5_code 8 = .ok (.istore_n 3, 1) := by decide +kernel
theorem d_prog_29_method_5_9 : decode prog_29_method_5_code 9 = .ok (.iload_n 3, 1) := by decide +kernel
theorem d_prog_29_method_5_10 : decode prog_29_method_5_code 10 = .ok (.iload_n 2, 1) := by decide +kernel
theorem d_prog_29_method_5_11 : decode prog_29_method_5_code 11 = .ok (.if_icmp .ge 32, 3) := by decide +kernel
theorem d_prog_29_method_5_14 : decode prog_29_method_5_code 14 = .ok (.aload_n 1, 1) := by decide +kernel
theorem d_prog_29_method_5_15 : decode prog_29_method_5_code 15 = .ok (.iload_n 3, 1) := by decide +kernel
theorem d_prog_29_method_5_16 : decode prog_29_method_5_code 16 = .ok (.aaload, 1) := by decide +kernel
theorem d_prog_29_method_5_17 : decode prog_29_method_5_code 17 = .ok (.astore 4, 2) := by decide +kernel
theorem d_prog_29_method_5_19 : decode prog_29_method_5_code 19 = .ok (.aload 4, 2) := by decide +kernel
theorem d_prog_29_method_5_21 : decode prog_29_method_5_code 21 = .ok (.getfield 32, 3) := by decide +kernel
theorem d_prog_29_method_5_24 : decode prog_29_method_5_code 24 = .ok (.aload_n 0, 1) := by decide +kernel
theorem d_prog_29_method_5_25 : decode prog_29_method_5_code 25 = .ok (.invokevirtual 40, 3) := by decide +kernel
theorem d_prog_29_method_5_28 : decode prog_29_method_5_code 28 = .ok (.ifCond .eq 9, 3) := by decide +kernel
theorem d_prog_29_method_5_31 : decode prog_29_method_5_code 31 = .ok (.aload 4, 2) := by decide +kernel
theorem d_prog_29_method_5_33 : decode prog_29_method_5_code 33 = .ok (.invokestatic 46, 3) := by decide +kernel
theorem d_prog_29_method_5_36 : decode prog_29_method_5_code 36 = .ok (.areturn, 1) := by decide +kernel
theorem d_prog_29_method_5_37 : decode prog_29_method_5_code 37 = .ok (.iinc 3 1, 3) := by decide +kernel
theorem d_prog_29_method_5_40 : decode prog_29_method_5_code 40 = .ok (.goto (-31), 3) := by decide +kernel
theorem d_prog_29_method_5_43 : decode prog_29_method_5_code 43 = .ok (.invokestatic 52, 3) := by decide +kernel
theorem d_prog_29_method_5_46 : decode prog_29_method_5_code 46 = .ok (.areturn, 1) := by decide +kernel
theorem d_prog_29_method_1_0 : decode prog_29_method_1_code 0 = .ok (.getstatic 13, 3) := by decide +kernel
theorem d_prog_29_method_1_3 : decode prog_29_method_1_code 3 = .ok (.invokevirtual 17, 3) := by decide +kernel
theorem d_prog_29_method_1_6 : decode prog_29_method_1_code 6 = .ok (.checkcast 18, 3) := by decide +kernel
theorem d_prog_29_method_1_9 : decode prog_29_method_1_code 9 = .ok (.areturn, 1) := by decide +kernel
theorem d_method_3_0 : decode method_3_code 0 = .ok (.iload_n 1, 1) := by decide +kernel
theorem d_method_3_1 : decode method_3_code 1 = .ok (.aload_n 0, 1) := by decide +kernel
theorem d_method_3_2 : decode method_3_code 2 = .ok (.arraylength, 1) := by decide +kernel
theorem d_method_3_3 : decode method_3_code 3 = .ok (.if_icmp .ge 35, 3) := by decide +kernel
theorem d_method_3_6 : decode method_3_code 6 = .ok (.aload_n 0, 1) := by decide +kernel
theorem d_method_3_7 : decode method_3_code 7 = .ok (.iload_n 1, 1) := by decide +kernel
theorem d_method_3_8 : decode method_3_code 8 = .ok (.iload_n 1, 1) := by decide +kernel
theorem d_method_3_9 : decode method_3_code 9 = .ok (.aload_n 2, 1) := by decide +kernel
theorem d_method_3_10 : decode method_3_code 10 = .ok (.invokevirtual 16, 3) := by decide +kernel
theorem d_method_3_13 : decode method_3_code 13 = .ok (.if_icmp .ge 11, 3) := by decide +kernel
theorem d_method_3_16 : decode method_3_code 16 = .ok (.aload_n 2, 1) := by decide +kernel
theorem d_method_3_17 : decode method_3_code 17 = .ok (.iload_n 1, 1) := by decide +kernel
theorem d_method_3_18 : decode method_3_code 18 = .ok (.invokevirtual 61, 3) := by decide +kernel
theorem d_method_3_21 : decode method_3_code 21 = .ok (.goto 16, 3) := by decide +kernel
theorem d_method_3_24 : decode method_3_code 24 = .ok (.iload_n 3, 1) := by decide +kernel
theorem d_method_3_25 : decode method_3_code 25 = .ok (.bipush 8, 2) := by decide +kernel
theorem d_method_3_27 : decode method_3_code 27 = .ok (.iload_n 1, 1) := by decide +kernel
theorem d_method_3_28 : decode method_3_code 28 = .ok (.iconst 3, 1) := by decide +kernel
theorem d_method_3_29 : decode method_3_code 29 = .ok (.iand, 1) := by decide +kernel
theorem d_method_3_30 : decode method_3_code 30 = .ok (.imul, 1) := by decide +kernel
theorem d_method_3_31 : decode method_3_code 31 = .ok (.iushr, 1) := by decide +kernel
theorem d_method_3_32 : decode method_3_code 32 = .ok (.sipush 255, 3) := by decide +kernel
theorem d_method_3_35 : decode method_3_code 35 = .ok (.iand, 1) := by decide +kernel
theorem d_method_3_36 : decode method_3_code 36 = .ok (.i2c, 1) := by decide +kernel
theorem d_method_3_37 : decode method_3_code 37 = .ok (.castore, 1) := by decide +kernel
theorem d_method_3_38 : decode method_3_code 38 = .ok (.return_, 1) := by decide +kernel
theorem d_jdk_42_method_3_0 : decode jdk_42_method_3_code 0 = .ok (.aload_n 0, 1) := by decide +kernel
theorem d_jdk_42_method_3_1 : decode jdk_42_method_3_code 1 = .ok (.aload_n 1, 1) := by decide +kernel
theorem d_jdk_42_method_3_2 : decode jdk_42_method_3_code 2 = .ok (.iconst 0, 1) := by decide +kernel
theorem d_jdk_42_method_3_3 : decode jdk_42_method_3_code 3 = .ok (.aload_n 1, 1) := by decide +kernel
theorem d_jdk_42_method_3_4 : decode jdk_42_method_3_code 4 = .ok (.arraylength, 1) := by decide +kernel
theorem d_jdk_42_method_3_5 : decode jdk_42_method_3_code 5 = .ok (.aconst_null, 1) := by decide +kernel
theorem d_jdk_42_method_3_6 : decode jdk_42_method_3_code 6 = .ok (.invokespecial 27, 3) := by decide +kernel
theorem d_jdk_42_method_3_9 : decode jdk_42_method_3_code 9 = .ok (.return_, 1) := by decide +kernel
theorem d_jdk_42_method_149_0 : decode jdk_42_method_149_code 0 = .ok (.aload_n 0, 1) := by decide +kernel
theorem d_jdk_42_method_149_1 : decode jdk_42_method_149_code 1 = .ok (.invokespecial 1, 3) := by decide +kernel
theorem d_jdk_42_method_149_4 : decode jdk_42_method_149_code 4 = .ok (.iload_n 3, 1) := by decide +kernel
theorem d_jdk_42_method_149_5 : decode jdk_42_method_149_code 5 = .ok (.ifCond .ne 22, 3) := by decide +kernel
theorem d_jdk_42_method_149_8 : decode jdk_42_method_149_code 8 = .ok (.aload_n 0, 1) := by decide +kernel
theorem d_jdk_42_method_149_9 : decode jdk_42_method_149_code 9 = .ok (.ldc 7, 2) := by decide +kernel
theorem d_jdk_42_method_149_11 : decode jdk_42_method_149_code 11 = .ok (.getfield 9, 3) := by decide +kernel
theorem d_jdk_42_method_149_14 : decode jdk_42_method_149_code 14 = .ok (.putfield 9, 3) := by decide +kernel
theorem d_jdk_42_method_149_17 : decode jdk_42_method_149_code 17 = .ok (.aload_n 0, 1) := by decide +kernel
theorem d_jdk_42_method_149_18 : decode jdk_42_method_149_code 18 = .ok (.ldc 7, 2) := by decide +kernel
theorem d_jdk_42_method_149_20 : decode jdk_42_method_149_code 20 = .ok (.getfield 15, 3) := by decide +kernel
theorem d_jdk_42_method_149_23 : decode jdk_42_method_149_code 23 = .ok (.putfield 15, 3) := by decide +kernel
theorem d_jdk_42_method_149_26 : decode jdk_42_method_149_code 26 = .ok (.return_, 1) := by decide +kernel
theorem d_jdk_42_method_149_27 : decode jdk_42_method_149_code 27 = .ok (.getstatic 38, 3) := by decide +kernel
theorem d_jdk_42_method_149_30 : decode jdk_42_method_149_code 30 = .ok (.ifCond .eq 28, 3) := by decide +kernel
theorem d_jdk_42_method_149_33 : decode jdk_42_method_149_code 33 = .ok (.aload_n 1, 1) := by decide +kernel
theorem d_jdk_42_method_149_34 : decode jdk_42_method_149_code 34 = .ok (.iload_n 2, 1) := by decide +kernel
theorem d_jdk_42_method_149_35 : decode jdk_42_method_149_code 35 = .ok (.iload_n 3, 1) := by decide +kernel
theorem d_jdk_42_method_149_36 : decode jdk_42_method_149_code 36 = .ok (.invokestatic 177, 3) := by decide +kernel
theorem d_jdk_42_method_149_39 : decode jdk_42_method_149_code 39 = .ok (.astore 5, 2) := by decide +kernel
theorem d_jdk_42_method_149_41 : decode jdk_42_method_149_code 41 = .ok (.aload_n 0, 1) := by decide +kernel
theorem d_jdk_42_method_149_42 : decode jdk_42_method_149_code 42 = .ok (.aload 5, 2) := by decide +kernel
theorem d_jdk_42_method_149_44 : decode jdk_42_method_149_code 44 = .ok (.iload_n 3, 1) := by decide +kernel
theorem d_jdk_42_method_149_45 : decode jdk_42_method_149_code 45 = .ok (.invokestatic 47, 3) := by decide +kernel
theorem d_jdk_42_method_149_48 : decode jdk_42_method_149_code 48 = .ok (.putfield 15, 3) := by decide +kernel
theorem d_jdk_42_method_149_51 : decode jdk_42_method_149_code 51 = .ok (.aload_n 0, 1) := by decide +kernel
theorem d_jdk_42_method_149_52 : decode jdk_42_method_149_code 52 = .ok (.aload 5, 2) := by decide +kernel
theorem d_jdk_42_method_149_54 : decode jdk_42_method_149_code 54 = .ok (.putfield 9, 3) := by decide +kernel
theorem d_jdk_42_method_149_57 : decode jdk_42_method_149_code 57 = .ok (.return_, 1) := by decide +kernel
theorem d_jdk_42_method_56_0 : decode jdk_42_method_56_code 0 = .ok (.aload_n 0, 1) := by decide +kernel
theorem d_jdk_42_method_56_1 : decode jdk_42_method_56_code 1 = .ok (.invokevirtual 492, 3) := by decide +kernel
theorem d_jdk_42_method_56_4 : decode jdk_42_method_56_code 4 = .ok (.ifCond .eq 12, 3) := by decide +kernel
theorem d_jdk_42_method_56_7 : decode jdk_42_method_56_code 7 = .ok (.aload_n 0, 1) := by decide +kernel
theorem d_jdk_42_method_56_8 : decode jdk_42_method_56_code 8 = .ok (.getfield 9, 3) := by decide +kernel
theorem d_jdk_42_method_56_11 : decode jdk_42_method_56_code 11 = .ok (.iload_n 1, 1) := by decide +kernel
theorem d_jdk_42_method_56_12 : decode jdk_42_method_56_code 12 = .ok (.invokestatic 495, 3) := by decide +kernel
theorem d_jdk_42_method_56_15 : decode jdk_42_method_56_code 15 = .ok (.ireturn, 1) := by decide +kernel
theorem d_jdk_42_method_155_0 : decode jdk_42_method_155_code 0 = .ok (.iload_n 0, 1) := by decide +kernel
theorem d_jdk_42_method_155_1 : decode jdk_42_method_155_code 1 = .ok (.iload_n 1, 1) := by decide +kernel
theorem d_jdk_42_method_155_2 : decode jdk_42_method_155_code 2 = .ok (.getstatic 1053, 3) := by decide +kernel
theorem d_jdk_42_method_155_5 : decode jdk_42_method_155_code 5 = .ok (.invokestatic 1059, 3) := by decide +kernel
theorem d_jdk_42_method_155_8 : decode jdk_42_method_155_code 8 = .ok (.pop, 1) := by decide +kernel
theorem d_jdk_42_method_155_9 : decode jdk_42_method_155_code 9 = .ok (.return_, 1) := by decide +kernel
theorem d_jdk_42_method_152_0 : decode jdk_42_method_152_code 0 = .ok (.getstatic 38, 3) := by decide +kernel
theorem d_jdk_42_method_152_3 : decode jdk_42_method_152_code 3 = .ok (.ifCond .eq 10, 3) := by decide +kernel
theorem d_jdk_42_method_152_6 : decode jdk_42_method_152_code 6 = .ok (.aload_n 0, 1) := by decide +kernel
theorem d_jdk_42_method_152_7 : decode jdk_42_method_152_code 7 = .ok (.getfield 15, 3) := by decide +kernel
theorem d_jdk_42_method_152_10 : decode jdk_42_method_152_code 10 = .ok (.goto 4, 3) := by decide +kernel
theorem d_jdk_42_method_152_14 : decode jdk_42_method_152_code 14 = .ok (.ireturn, 1) := by decide +kernel
theorem d_jdk_42_method_66_0 : decode jdk_42_method_66_code 0 = .ok (.aload_n 0, 1) := by decide +kernel
theorem d_jdk_42_method_66_1 : decode jdk_42_method_66_code 1 = .ok (.aload_n 1, 1) := by decide +kernel
theorem d_jdk_42_method_66_2 : decode jdk_42_method_66_code 2 = .ok (.if_acmp .ne 5, 3) := by decide +kernel
theorem d_jdk_42_method_66_5 : decode jdk_42_method_66_code 5 = .ok (.iconst 1, 1) := by decide +kernel
theorem d_jdk_42_method_66_6 : decode jdk_42_method_66_code 6 = .ok (.ireturn, 1) := by decide +kernel
theorem d_jdk_42_method_66_7 : decode jdk_42_method_66_code 7 = .ok (.aload_n 1, 1) := by decide +kernel
theorem d_jdk_42_method_66_8 : decode jdk_42_method_66_code 8 = .ok (.instanceof 10, 3) := by decide +kernel
theorem d_jdk_42_method_66_11 : decode jdk_42_method_66_code 11 = .ok (.ifCond .eq 43, 3) := by decide +kernel
theorem d_jdk_42_method_66_14 : decode jdk_42_method_66_code 14 = .ok (.aload_n 1, 1) := by decide +kernel
theorem d_jdk_42_method_66_15 : decode jdk_42_method_66_code 15 = .ok (.checkcast 10, 3) := by decide +kernel
theorem d_jdk_42_method_66_18 : decode jdk_42_method_66_code 18 = .ok (.astore_n 2, 1) := by decide +kernel
theorem d_jdk_42_method_66_19 : decode jdk_42_method_66_code 19 = .ok (.getstatic 38, 3) := by decide +kernel
theorem d_jdk_42_method_66_22 : decode jdk_42_method_66_code 22 = .ok (.ifCond .eq 14, 3) := by decide +kernel
theorem d_jdk_42_method_66_25 : decode jdk_42_method_66_code 25 = .ok (.aload_n 0, 1) := by decide +kernel
theorem d_jdk_42_method_66_26 : decode jdk_42_method_66_code 26 = .ok (.getfield 15, 3) := by decide +kernel
theorem d_jdk_42_method_66_29 : decode jdk_42_method_66_code 29 = .ok (.aload_n 2, 1) := by decide +kernel
theorem d_jdk_42_method_66_30 : decode jdk_42_method_66_code 30 = .ok (.getfield 15, 3) := by decide +kernel
theorem d_jdk_42_method_66_33 : decode jdk_42_method_66_code 33 = .ok (.if_icmp .ne 21, 3) := by decide +kernel
theorem d_jdk_42_method_66_36 : decode jdk_42_method_66_code 36 = .ok (.aload_n 0, 1) := by decide +kernel
theorem d_jdk_42_method_66_37 : decode jdk_42_method_66_code 37 = .ok (.getfield 9, 3) := by decide +kernel
theorem d_jdk_42_method_66_40 : decode jdk_42_method_66_code 40 = .ok (.aload_n 2, 1) := by decide +kernel
theorem d_jdk_42_method_66_41 : decode jdk_42_method_66_code 41 = .ok (.getfield 9, 3) := by decide +kernel
theorem d_jdk_42_method_66_44 : decode jdk_42_method_66_code 44 = .ok (.invokestatic 541, 3) := by decide +kernel
theorem d_jdk_42_method_66_47 : decode jdk_42_method_66_code 47 = .ok (.ifCond .eq 7, 3) := by decide +kernel
theorem d_jdk_42_method_66_50 : decode jdk_42_method_66_code 50 = .ok (.iconst 1, 1) := by decide +kernel
theorem d_jdk_42_method_66_51 : decode jdk_42_method_66_code 51 = .ok (.goto 4, 3) := by decide +kernel
theorem d_jdk_42_method_66_54 : decode jdk_42_method_66_code 54 = .ok (.iconst 0, 1) := by decide +kernel
theorem d_jdk_42_method_66_55 : decode jdk_42_method_66_code 55 = .ok (.ireturn, 1) := by decide +kernel
theorem d_jdk_42_method_154_0 : decode jdk_42_method_154_code 0 = .ok (.getstatic 38, 3) := by decide +kernel
theorem d_jdk_42_method_154_3 : decode jdk_42_method_154_code 3 = .ok (.ifCond .eq 14, 3) := by decide +kernel
theorem d_jdk_42_method_154_6 : decode jdk_42_method_154_code 6 = .ok (.aload_n 0, 1) := by decide +kernel
theorem d_jdk_42_method_154_7 : decode jdk_42_method_154_code 7 = .ok (.getfield 15, 3) := by decide +kernel
theorem d_jdk_42_method_154_10 : decode jdk_42_method_154_code 10 = .ok (.ifCond .ne 7, 3) := by decide +kernel
theorem d_jdk_42_method_154_13 : decode jdk_42_method_154_code 13 = .ok (.iconst 1, 1) := by decide +kernel
theorem d_jdk_42_method_154_14 : decode jdk_42_method_154_code 14 = .ok (.goto 4, 3) := by decide +kernel
theorem d_jdk_42_method_154_18 : decode jdk_42_method_154_code 18 = .ok (.ireturn, 1) := by decide +kernel
theorem d_jdk_42_method_54_0 : decode jdk_42_method_54_code 0 = .ok (.aload_n 0, 1) := by decide +kernel
theorem d_jdk_42_method_54_1 : decode jdk_42_method_54_code 1 = .ok (.getfield 9, 3) := by decide +kernel
theorem d_jdk_42_method_54_4 : decode jdk_42_method_54_code 4 = .ok (.arraylength, 1) := by decide +kernel
theorem d_jdk_42_method_54_5 : decode jdk_42_method_54_code 5 = .ok (.aload_n 0, 1) := by decide +kernel
theorem d_jdk_42_method_54_6 : decode jdk_42_method_54_code 6 = .ok (.invokevirtual 335, 3) := by decide +kernel
theorem d_jdk_42_method_54_9 : decode jdk_42_method_54_code 9 = .ok (.ishr, 1) := by decide +kernel
theorem d_jdk_42_method_54_10 : decode jdk_42_method_54_code 10 = .ok (.ireturn, 1) := by decide +kernel
theorem d_jdk_43_method_2_0 : decode jdk_43_method_2_code 0 = .ok (.iload_n 1, 1) := by decide +kernel
theorem d_jdk_43_method_2_1 : decode jdk_43_method_2_code 1 = .ok (.aload_n 0, 1) := by decide +kernel
theorem d_jdk_43_method_2_2 : decode jdk_43_method_2_code 2 = .ok (.arraylength, 1) := by decide +kernel
theorem d_jdk_43_method_2_3 : decode jdk_43_method_2_code 3 = .ok (.invokestatic 9, 3) := by decide +kernel
theorem d_jdk_43_method_2_6 : decode jdk_43_method_2_code 6 = .ok (.aload_n 0, 1) := by decide +kernel
theorem d_jdk_43_method_2_7 : decode jdk_43_method_2_code 7 = .ok (.iload_n 1, 1) := by decide +kernel
theorem d_jdk_43_method_2_8 : decode jdk_43_method_2_code 8 = .ok (.baload, 1) := by decide +kernel
theorem d_jdk_43_method_2_9 : decode jdk_43_method_2_code 9 = .ok (.sipush 255, 3) := by decide +kernel
theorem d_jdk_43_method_2_12 : decode jdk_43_method_2_code 12 = .ok (.iand, 1) := by decide +kernel
theorem d_jdk_43_method_2_13 : decode jdk_43_method_2_code 13 = .ok (.i2c, 1) := by decide +kernel
theorem d_jdk_43_method_2_14 : decode jdk_43_method_2_code 14 = .ok (.ireturn, 1) := by decide +kernel
theorem d_jdk_43_method_13_0 : decode jdk_43_method_13_code 0 = .ok (.aload_n 0, 1) := by decide +kernel
theorem d_jdk_43_method_13_1 : decode jdk_43_method_13_code 1 = .ok (.arraylength, 1) := by decide +kernel
theorem d_jdk_43_method_13_2 : decode jdk_43_method_13_code 2 = .ok (.aload_n 1, 1) := by decide +kernel
theorem d_jdk_43_method_13_3 : decode jdk_43_method_13_code 3 = .ok (.arraylength, 1) := by decide +kernel
theorem d_jdk_43_method_13_4 : decode jdk_43_method_13_code 4 = .ok (.if_icmp .ne 30, 3) := by decide +kernel
theorem d_jdk_43_method_13_7 : decode jdk_43_method_13_code 7 = .ok (.iconst 0, 1) := by decide +kernel
theorem d_jdk_43_method_13_8 : decode jdk_43_method_13_code 8 = .ok (.istore_n 2, 1) := by decide +kernel
theorem d_jdk_43_method_13_9 : decode jdk_43_method_13_code 9 = .ok (.iload_n 2, 1) := by decide +kernel
theorem d_jdk_43_method_13_10 : decode jdk_43_method_13_code 10 = .ok (.aload_n 0, 1) := by decide +kernel
theorem d_jdk_43_method_13_11 : decode jdk_43_method_13_code 11 = .ok (.arraylength, 1) := by decide +kernel
theorem d_jdk_43_method_13_12 : decode jdk_43_method_13_code 12 = .ok (.if_icmp .ge 20, 3) := by decide +kernel
theorem d_jdk_43_method_13_15 : decode jdk_43_method_13_code 15 = .ok (.aload_n 0, 1) := by decide +kernel
theorem d_jdk_43_method_13_16 : decode jdk_43_method_13_code 16 = .ok (.iload_n 2, 1) := by decide +kernel
theorem d_jdk_43_method_13_17 : decode jdk_43_method_13_code 17 = .ok (.baload, 1) := by decide +kernel
theorem d_jdk_43_method_13_18 : decode jdk_43_method_13_code 18 = .ok (.aload_n 1, 1) := by decide +kernel
theorem d_jdk_43_method_13_19 : decode jdk_43_method_13_code 19 = .ok (.iload_n 2, 1) := by decide +kernel
theorem d_jdk_43_method_13_20 : decode jdk_43_method_13_code 20 = .ok (.baload, 1) := by decide +kernel
theorem d_jdk_43_method_13_21 : decode jdk_43_method_13_code 21 = .ok (.if_icmp .eq 5, 3) := by decide +kernel
theorem d_jdk_43_method_13_24 : decode jdk_43_method_13_code 24 = .ok (.iconst 0, 1) := by decide +kernel
theorem d_jdk_43_method_13_25 : decode jdk_43_method_13_code 25 = .ok (.ireturn, 1) := by decide +kernel
theorem d_jdk_43_method_13_26 : decode jdk_43_method_13_code 26 = .ok (.iinc 2 1, 3) := by decide +kernel
theorem d_jdk_43_method_13_29 : decode jdk_43_method_13_code 29 = .ok (.goto (-20), 3) := by decide +kernel
theorem d_jdk_43_method_13_32 : decode jdk_43_method_13_code 32 = .ok (.iconst 1, 1) := by decide +kernel
theorem d_jdk_43_method_13_33 : decode jdk_43_method_13_code 33 = .ok (.ireturn, 1) := by decide +kernel
theorem d_jdk_43_method_13_34 : decode jdk_43_method_13_code 34 = .ok (.iconst 0, 1) := by decide +kernel
theorem d_jdk_43_method_13_35 : decode jdk_43_method_13_code 35 = .ok (.ireturn, 1) := by decide +kernel
theorem d_jdk_52_method_15_0 : decode jdk_52_method_15_code 0 = .ok (.iload_n 1, 1) := by decide +kernel
theorem d_jdk_52_method_15_1 : decode jdk_52_method_15_code 1 = .ok (.aload_n 0, 1) := by decide +kernel
theorem d_jdk_52_method_15_2 : decode jdk_52_method_15_code 2 = .ok (.arraylength, 1) := by decide +kernel
theorem d_jdk_52_method_15_3 : decode jdk_52_method_15_code 3 = .ok (.isub, 1) := by decide +kernel
theorem d_jdk_52_method_15_4 : decode jdk_52_method_15_code 4 = .ok (.bipush 31, 2) := by decide +kernel
theorem d_jdk_52_method_15_6 : decode jdk_52_method_15_code 6 = .ok (.iushr, 1) := by decide +kernel
theorem d_jdk_52_method_15_7 : decode jdk_52_method_15_code 7 = .ok (.i2b, 1) := by decide +kernel
theorem d_jdk_52_method_15_8 : decode jdk_52_method_15_code 8 = .ok (.ireturn, 1) := by decide +kernel
theorem d_jdk_52_method_16_0 : decode jdk_52_method_16_code 0 = .ok (.iload_n 2, 1) := by decide +kernel
theorem d_jdk_52_method_16_1 : decode jdk_52_method_16_code 1 = .ok (.newarray .byte, 2) := by decide +kernel
theorem d_jdk_52_method_16_3 : decode jdk_52_method_16_code 3 = .ok (.astore_n 3, 1) := by decide +kernel
theorem d_jdk_52_method_16_4 : decode jdk_52_method_16_code 4 = .ok (.aload_n 0, 1) := by decide +kernel
theorem d_jdk_52_method_16_5 : decode jdk_52_method_16_code 5 = .ok (.iload_n 1, 1) := by decide +kernel
theorem d_jdk_52_method_16_6 : decode jdk_52_method_16_code 6 = .ok (.aload_n 3, 1) := by decide +kernel
theorem d_jdk_52_method_16_7 : decode jdk_52_method_16_code 7 = .ok (.iconst 0, 1) := by decide +kernel
theorem d_jdk_52_method_16_8 : decode jdk_52_method_16_code 8 = .ok (.iload_n 2, 1) := by decide +kernel
theorem d_jdk_52_method_16_9 : decode jdk_52_method_16_code 9 = .ok (.invokestatic 115, 3) := by decide +kernel
theorem d_jdk_52_method_16_12 : decode jdk_52_method_16_code 12 = .ok (.istore 4, 2) := by decide +kernel
theorem d_jdk_52_method_16_14 : decode jdk_52_method_16_code 14 = .ok (.iload 4, 2) := by decide +kernel
theorem d_jdk_52_method_16_16 : decode jdk_52_method_16_code 16 = .ok (.iload_n 2, 1) := by decide +kernel
theorem d_jdk_52_method_16_17 : decode jdk_52_method_16_code 17 = .ok (.if_icmp .eq 40, 3) := by decide +kernel
theorem d_jdk_52_method_16_57 : decode jdk_52_method_16_code 57 = .ok (.aload_n 3, 1) := by decide +kernel
theorem d_jdk_52_method_16_58 : decode jdk_52_method_16_code 58 = .ok (.areturn, 1) := by decide +kernel
theorem d_jdk_52_method_21_0 : decode jdk_52_method_21_code 0 = .ok (.iconst 0, 1) := by decide +kernel
theorem d_jdk_52_method_21_1 : decode jdk_52_method_21_code 1 = .ok (.istore 5, 2) := by decide +kernel
theorem d_jdk_52_method_21_3 : decode jdk_52_method_21_code 3 = .ok (.iload 5, 2) := by decide +kernel
theorem d_jdk_52_method_21_5 : decode jdk_52_method_21_code 5 = .ok (.iload 4, 2) := by decide +kernel
theorem d_jdk_52_method_21_7 : decode jdk_52_method_21_code 7 = .ok (.if_icmp .ge 37, 3) := by decide +kernel
theorem d_jdk_52_method_21_10 : decode jdk_52_method_21_code 10 = .ok (.aload_n 0, 1) := by decide +kernel
theorem d_jdk_52_method_21_11 : decode jdk_52_method_21_code 11 = .ok (.iload_n 1, 1) := by decide +kernel
theorem d_jdk_52_method_21_12 : decode jdk_52_method_21_code 12 = .ok (.caload, 1) := by decide +kernel
theorem d_jdk_52_method_21_13 : decode jdk_52_method_21_code 13 = .ok (.istore 6, 2) := by decide +kernel
theorem d_jdk_52_method_21_15 : decode jdk_52_method_21_code 15 = .ok (.iload 6, 2) := by decide +kernel
theorem d_jdk_52_method_21_17 : decode jdk_52_method_21_code 17 = .ok (.sipush 255, 3) := by decide +kernel
theorem d_jdk_52_method_21_20 : decode jdk_52_method_21_code 20 = .ok (.if_icmp .le 6, 3) := by decide +kernel
theorem d_jdk_52_method_21_26 : decode jdk_52_method_21_code 26 = .ok (.aload_n 2, 1) := by decide +kernel
theorem d_jdk_52_method_21_27 : decode jdk_52_method_21_code 27 = .ok (.iload_n 3, 1) := by decide +kernel
theorem d_jdk_52_method_21_28 : decode jdk_52_method_21_code 28 = .ok (.iload 6, 2) := by decide +kernel
theorem d_jdk_52_method_21_30 : decode jdk_52_method_21_code 30 = .ok (.i2b, 1) := by decide +kernel
theorem d_jdk_52_method_21_31 : decode jdk_52_method_21_code 31 = .ok (.bastore, 1) := by decide +kernel
theorem d_jdk_52_method_21_32 : decode jdk_52_method_21_code 32 = .ok (.iinc 1 1, 3) := by decide +kernel
theorem d_jdk_52_method_21_35 : decode jdk_52_method_21_code 35 = .ok (.iinc 3 1, 3) := by decide +kernel
theorem d_jdk_52_method_21_38 : decode jdk_52_method_21_code 38 = .ok (.iinc 5 1, 3) := by decide +kernel
theorem d_jdk_52_method_21_41 : decode jdk_52_method_21_code 41 = .ok (.goto (-38), 3) := by decide +kernel
theorem d_jdk_52_method_21_44 : decode jdk_52_method_21_code 44 = .ok (.iload 4, 2) := by decide +kernel
theorem d_jdk_52_method_21_46 : decode jdk_52_method_21_code 46 = .ok (.ireturn, 1) := by decide +kernel
theorem d_jdk_31_method_10_0 : decode jdk_31_method_10_code 0 = .ok (.aload_n 0, 1) := by decide +kernel
theorem d_jdk_31_method_10_1 : decode jdk_31_method_10_code 1 = .ok (.ifnonnull 11, 3) := by decide +kernel
theorem d_jdk_31_method_10_12 : decode jdk_31_method_10_code 12 = .ok (.aload_n 0, 1) := by decide +kernel
theorem d_jdk_31_method_10_13 : decode jdk_31_method_10_code 13 = .ok (.areturn, 1) := by decide +kernel
theorem d_jdk_32_method_2_0 : decode jdk_32_method_2_code 0 = .ok (.aload_n 0, 1) := by decide +kernel
theorem d_jdk_32_method_2_1 : decode jdk_32_method_2_code 1 = .ok (.invokespecial 7, 3) := by decide +kernel
theorem d_jdk_32_method_2_4 : decode jdk_32_method_2_code 4 = .ok (.aload_n 0, 1) := by decide +kernel
theorem d_jdk_32_method_2_5 : decode jdk_32_method_2_code 5 = .ok (.aload_n 1, 1) := by decide +kernel
theorem d_jdk_32_method_2_6 : decode jdk_32_method_2_code 6 = .ok (.putfield 13, 3) := by decide +kernel
theorem d_jdk_32_method_2_9 : decode jdk_32_method_2_code 9 = .ok (.return_, 1) := by decide +kernel
theorem d_jdk_32_method_1_0 : decode jdk_32_method_1_code 0 = .ok (.getstatic 1, 3) := by decide +kernel
theorem d_jdk_32_method_1_3 : decode jdk_32_method_1_code 3 = .ok (.astore_n 0, 1) := by decide +kernel
theorem d_jdk_32_method_1_4 : decode jdk_32_method_1_code 4 = .ok (.aload_n 0, 1) := by decide +kernel
theorem d_jdk_32_method_1_5 : decode jdk_32_method_1_code 5 = .ok (.areturn, 1) := by decide +kernel
theorem d_jdk_32_method_5_0 : decode jdk_32_method_5_code 0 = .ok (.aload_n 0, 1) := by decide +kernel
theorem d_jdk_32_method_5_1 : decode jdk_32_method_5_code 1 = .ok (.getfield 13, 3) := by decide +kernel
theorem d_jdk_32_method_5_4 : decode jdk_32_method_5_code 4 = .ok (.ifnonnull 13, 3) := by decide +kernel
theorem d_jdk_32_method_5_17 : decode jdk_32_method_5_code 17 = .ok (.aload_n 0, 1) := by decide +kernel
theorem d_jdk_32_method_5_18 : decode jdk_32_method_5_code 18 = .ok (.getfield 13, 3) := by decide +kernel
theorem d_jdk_32_method_5_21 : decode jdk_32_method_5_code 21 = .ok (.areturn, 1) := by decide +kernel
theorem d_jdk_32_method_6_0 : decode jdk_32_method_6_code 0 = .ok (.aload_n 0, 1) := by decide +kernel
theorem d_jdk_32_method_6_1 : decode jdk_32_method_6_code 1 = .ok (.getfield 13, 3) := by decide +kernel
theorem d_jdk_32_method_6_4 : decode jdk_32_method_6_code 4 = .ok (.ifnull 7, 3) := by decide +kernel
theorem d_jdk_32_method_6_7 : decode jdk_32_method_6_code 7 = .ok (.iconst 1, 1) := by decide +kernel
theorem d_jdk_32_method_6_8 : decode jdk_32_method_6_code 8 = .ok (.goto 4, 3) := by decide +kernel
theorem d_jdk_32_method_6_11 : decode jdk_32_method_6_code 11 = .ok (.iconst 0, 1) := by decide +kernel
theorem d_jdk_32_method_6_12 : decode jdk_32_method_6_code 12 = .ok (.ireturn, 1) := by decide +kernel
theorem d_jdk_32_method_3_0 : decode jdk_32_method_3_code 0 = .ok (.new 2, 3) := by decide +kernel
theorem d_jdk_32_method_3_3 : decode jdk_32_method_3_code 3 = .ok (.dup, 1) := by decide +kernel
theorem d_jdk_32_method_3_4 : decode jdk_32_method_3_code 4 = .ok (.aload_n 0, 1) := by decide +kernel
theorem d_jdk_32_method_3_5 : decode jdk_32_method_3_code 5 = .ok (.invokestatic 17, 3) := by decide +kernel
theorem d_jdk_32_method_3_8 : decode jdk_32_method_3_code 8 = .ok (.invokespecial 23, 3) := by decide +kernel
theorem d_jdk_32_method_3_11 : decode jdk_32_method_3_code 11 = .ok (.areturn, 1) := by decide +kernel
theorem d_jdk_41_method_11_0 : decode jdk_41_method_11_code 0 = .ok (.iload_n 0, 1) := by decide +kernel
theorem d_jdk_41_method_11_1 : decode jdk_41_method_11_code 1 = .ok (.ifCond .lt 8, 3) := by decide +kernel
theorem d_jdk_41_method_11_4 : decode jdk_41_method_11_code 4 = .ok (.iload_n 0, 1) := by decide +kernel
theorem d_jdk_41_method_11_5 : decode jdk_41_method_11_code 5 = .ok (.iload_n 1, 1) := by decide +kernel
theorem d_jdk_41_method_11_6 : decode jdk_41_method_11_code 6 = .ok (.if_icmp .lt 10, 3) := by decide +kernel
theorem d_jdk_41_method_11_16 : decode jdk_41_method_11_code 16 = .ok (.iload_n 0, 1) := by decide +kernel
theorem d_jdk_41_method_11_17 : decode jdk_41_method_11_code 17 = .ok (.ireturn, 1) := by decide +kernel
theorem w_0 {Z : State} {a0 : Array Value} (hw : ∀ d ∈ tables_1, d.before a0 Z = true) : (Jvm.Cond.constant "com/example/tapstone/tapstone/server/RoleOfConfigNamePinLaw" (7 : Nat) (2147483647 : Int32)).before a0 Z = true := hw _ (List.mem_of_getElem? (i := 0) rfl)
theorem w_1 {Z : State} {a0 : Array Value} (hw : ∀ d ∈ tables_1, d.before a0 Z = true) : (Jvm.Cond.stringLink "com/example/tapstone/tapstone/server/RoleOfConfigNamePinLaw" (8 : Nat) "requestor").before a0 Z = true := hw _ (List.mem_of_getElem? (i := 1) rfl)
theorem w_2 {Z : State} {a0 : Array Value} (hw : ∀ d ∈ tables_1, d.before a0 Z = true) : (Jvm.Cond.initialized "java/lang/String").before a0 Z = true := hw _ (List.mem_of_getElem? (i := 2) rfl)
theorem w_3 {Z : State} {a0 : Array Value} (hw : ∀ d ∈ tables_1, d.before a0 Z = true) : (Jvm.Cond.instantiable "java/lang/String" (4 : Nat)).before a0 Z = true := hw _ (List.mem_of_getElem? (i := 3) rfl)
theorem w_4 {Z : State} {a0 : Array Value} (hw : ∀ d ∈ tables_1, d.before a0 Z = true) : (Jvm.Cond.arrayClass Jvm.ClassFile.FieldType.byte).before a0 Z = true := hw _ (List.mem_of_getElem? (i := 4) rfl)
theorem w_5 {Z : State} {a0 : Array Value} (hw : ∀ d ∈ tables_1, d.before a0 Z = true) : (Jvm.Cond.laysFinal "java/lang/String" "java/lang/String" "value" "[B").before a0 Z = true := hw _ (List.mem_of_getElem? (i := 5) rfl)
theorem w_6 {Z : State} {a0 : Array Value} (hw : ∀ d ∈ tables_1, d.before a0 Z = true) : (Jvm.Cond.laysFinal "java/lang/String" "java/lang/String" "coder" "B").before a0 Z = true := hw _ (List.mem_of_getElem? (i := 6) rfl)
theorem w_7 {Z : State} {a0 : Array Value} (hw : ∀ d ∈ tables_1, d.before a0 Z = true) : (Jvm.Cond.soleField "java/lang/String" "value").before a0 Z = true := hw _ (List.mem_of_getElem? (i := 7) rfl)
theorem w_8 {Z : State} {a0 : Array Value} (hw : ∀ d ∈ tables_1, d.before a0 Z = true) : (Jvm.Cond.soleField "java/lang/String" "coder").before a0 Z = true := hw _ (List.mem_of_getElem? (i := 8) rfl)
theorem w_9 {Z : State} {a0 : Array Value} (hw : ∀ d ∈ tables_1, d.before a0 Z = true) : (Jvm.Cond.methodLink "com/example/tapstone/tapstone/server/RoleOfConfigNamePinLaw" (16 : Nat) ({ cls := "java/lang/String", name := "length", desc := "()I" } : Jvm.MethodName)).before a0 Z = true := hw _ (List.mem_of_getElem? (i := 9) rfl)
theorem w_10 {Z : State} {a0 : Array Value} (hw : ∀ d ∈ tables_1, d.before a0 Z = true) : (Jvm.Cond.declares ({ cls := "java/lang/String", name := "length", desc := "()I" } : Jvm.MethodName)).before a0 Z = true := hw _ (List.mem_of_getElem? (i := 10) rfl)
theorem w_11 {Z : State} {a0 : Array Value} (hw : ∀ d ∈ tables_1, d.before a0 Z = true) : (Jvm.Cond.instanceMethod ({ cls := "java/lang/String", name := "length", desc := "()I" } : Jvm.MethodName)).before a0 Z = true := hw _ (List.mem_of_getElem? (i := 11) rfl)
theorem w_12 {Z : State} {a0 : Array Value} (hw : ∀ d ∈ tables_1, d.before a0 Z = true) : (Jvm.Cond.selects "java/lang/String" ({ cls := "java/lang/String", name := "length", desc := "()I" } : Jvm.MethodName) ({ cls := "java/lang/String", name := "length", desc := "()I" } : Jvm.MethodName)).before a0 Z = true := hw _ (List.mem_of_getElem? (i := 12) rfl)
theorem w_13 {Z : State} {a0 : Array Value} (hw : ∀ d ∈ tables_1, d.before a0 Z = true) : (Jvm.Cond.code ({ cls := "java/lang/String", name := "length", desc := "()I" } : Jvm.MethodName) jdk_42_method_54_code (1 : Nat) (Option.some Jvm.ClassFile.FieldType.int)).before a0 Z = true := hw _ (List.mem_of_getElem? (i := 13) rfl)
theorem w_14 {Z : State} {a0 : Array Value} (hw : ∀ d ∈ tables_1, d.before a0 Z = true) : (Jvm.Cond.fieldLink "java/lang/String" (9 : Nat) "java/lang/String" "value" "[B").before a0 Z = true := hw _ (List.mem_of_getElem? (i := 14) rfl)
theorem w_15 {Z : State} {a0 : Array Value} (hw : ∀ d ∈ tables_1, d.before a0 Z = true) : (Jvm.Cond.methodLink "java/lang/String" (335 : Nat) ({ cls := "java/lang/String", name := "coder", desc := "()B" } : Jvm.MethodName)).before a0 Z = true := hw _ (List.mem_of_getElem? (i := 15) rfl)
theorem w_16 {Z : State} {a0 : Array Value} (hw : ∀ d ∈ tables_1, d.before a0 Z = true) : (Jvm.Cond.declares ({ cls := "java/lang/String", name := "coder", desc := "()B" } : Jvm.MethodName)).before a0 Z = true := hw _ (List.mem_of_getElem? (i := 16) rfl)
theorem w_17 {Z : State} {a0 : Array Value} (hw : ∀ d ∈ tables_1, d.before a0 Z = true) : (Jvm.Cond.instanceMethod ({ cls := "java/lang/String", name := "coder", desc := "()B" } : Jvm.MethodName)).before a0 Z = true := hw _ (List.mem_of_getElem? (i := 17) rfl)
theorem w_18 {Z : State} {a0 : Array Value} (hw : ∀ d ∈ tables_1, d.before a0 Z = true) : (Jvm.Cond.selects "java/lang/String" ({ cls := "java/lang/String", name := "coder", desc := "()B" } : Jvm.MethodName) ({ cls := "java/lang/String", name := "coder", desc := "()B" } : Jvm.MethodName)).before a0 Z = true := hw _ (List.mem_of_getElem? (i := 18) rfl)
theorem w_19 {Z : State} {a0 : Array Value} (hw : ∀ d ∈ tables_1, d.before a0 Z = true) : (Jvm.Cond.code ({ cls := "java/lang/String", name := "coder", desc := "()B" } : Jvm.MethodName) jdk_42_method_152_code (1 : Nat) (Option.some Jvm.ClassFile.FieldType.byte)).before a0 Z = true := hw _ (List.mem_of_getElem? (i := 19) rfl)
theorem w_20 {Z : State} {a0 : Array Value} (hw : ∀ d ∈ tables_1, d.before a0 Z = true) : (Jvm.Cond.fieldLink "java/lang/String" (38 : Nat) "java/lang/String" "COMPACT_STRINGS" "Z").before a0 Z = true := hw _ (List.mem_of_getElem? (i := 20) rfl)
theorem w_21 {Z : State} {a0 : Array Value} (hw : ∀ d ∈ tables_1, d.before a0 Z = true) : (Jvm.Cond.fieldLink "java/lang/String" (15 : Nat) "java/lang/String" "coder" "B").before a0 Z = true := hw _ (List.mem_of_getElem? (i := 21) rfl)
theorem w_22 {Z : State} {a0 : Array Value} (hw : ∀ d ∈ tables_1, d.before a0 Z = true) : (Jvm.Cond.arrayClass Jvm.ClassFile.FieldType.char).before a0 Z = true := hw _ (List.mem_of_getElem? (i := 22) rfl)
theorem w_23 {Z : State} {a0 : Array Value} (hw : ∀ d ∈ tables_1, d.before a0 Z = true) : (Jvm.Cond.methodLink "com/example/tapstone/tapstone/server/RoleOfConfigNamePinLaw" (22 : Nat) ({ cls := "com/example/tapstone/tapstone/server/RoleOfConfigNamePinLaw", name := "put", desc := "([CILjava/lang/String;I)V" } : Jvm.MethodName)).before a0 Z = true := hw _ (List.mem_of_getElem? (i := 23) rfl)
theorem w_24 {Z : State} {a0 : Array Value} (hw : ∀ d ∈ tables_1, d.before a0 Z = true) : (Jvm.Cond.static ({ cls := "com/example/tapstone/tapstone/server/RoleOfConfigNamePinLaw", name := "put", desc := "([CILjava/lang/String;I)V" } : Jvm.MethodName)).before a0 Z = true := hw _ (List.mem_of_getElem? (i := 24) rfl)
theorem w_25 {Z : State} {a0 : Array Value} (hw : ∀ d ∈ tables_1, d.before a0 Z = true) : (Jvm.Cond.initialized "com/example/tapstone/tapstone/server/RoleOfConfigNamePinLaw").before a0 Z = true := hw _ (List.mem_of_getElem? (i := 25) rfl)
theorem w_26 {Z : State} {a0 : Array Value} (hw : ∀ d ∈ tables_1, d.before a0 Z = true) : (Jvm.Cond.code ({ cls := "com/example/tapstone/tapstone/server/RoleOfConfigNamePinLaw", name := "put", desc := "([CILjava/lang/String;I)V" } : Jvm.MethodName) method_3_code (4 : Nat) (Option.none : Option Jvm.ClassFile.FieldType)).before a0 Z = true := hw _ (List.mem_of_getElem? (i := 26) rfl)
theorem w_27 {Z : State} {a0 : Array Value} (hw : ∀ d ∈ tables_1, d.before a0 Z = true) : (Jvm.Cond.methodLink "com/example/tapstone/tapstone/server/RoleOfConfigNamePinLaw" (61 : Nat) ({ cls := "java/lang/String", name := "charAt", desc := "(I)C" } : Jvm.MethodName)).before a0 Z = true := hw _ (List.mem_of_getElem? (i := 27) rfl)
theorem w_28 {Z : State} {a0 : Array Value} (hw : ∀ d ∈ tables_1, d.before a0 Z = true) : (Jvm.Cond.declares ({ cls := "java/lang/String", name := "charAt", desc := "(I)C" } : Jvm.MethodName)).before a0 Z = true := hw _ (List.mem_of_getElem? (i := 28) rfl)
theorem w_29 {Z : State} {a0 : Array Value} (hw : ∀ d ∈ tables_1, d.before a0 Z = true) : (Jvm.Cond.instanceMethod ({ cls := "java/lang/String", name := "charAt", desc := "(I)C" } : Jvm.MethodName)).before a0 Z = true := hw _ (List.mem_of_getElem? (i := 29) rfl)
theorem w_30 {Z : State} {a0 : Array Value} (hw : ∀ d ∈ tables_1, d.before a0 Z = true) : (Jvm.Cond.selects "java/lang/String" ({ cls := "java/lang/String", name := "charAt", desc := "(I)C" } : Jvm.MethodName) ({ cls := "java/lang/String", name := "charAt", desc := "(I)C" } : Jvm.MethodName)).before a0 Z = true := hw _ (List.mem_of_getElem? (i := 30) rfl)
theorem w_31 {Z : State} {a0 : Array Value} (hw : ∀ d ∈ tables_1, d.before a0 Z = true) : (Jvm.Cond.code ({ cls := "java/lang/String", name := "charAt", desc := "(I)C" } : Jvm.MethodName) jdk_42_method_56_code (2 : Nat) (Option.some Jvm.ClassFile.FieldType.char)).before a0 Z = true := hw _ (List.mem_of_getElem? (i := 31) rfl)
theorem w_32 {Z : State} {a0 : Array Value} (hw : ∀ d ∈ tables_1, d.before a0 Z = true) : (Jvm.Cond.methodLink "java/lang/String" (492 : Nat) ({ cls := "java/lang/String", name := "isLatin1", desc := "()Z" } : Jvm.MethodName)).before a0 Z = true := hw _ (List.mem_of_getElem? (i := 32) rfl)
theorem w_33 {Z : State} {a0 : Array Value} (hw : ∀ d ∈ tables_1, d.before a0 Z = true) : (Jvm.Cond.declares ({ cls := "java/lang/String", name := "isLatin1", desc := "()Z" } : Jvm.MethodName)).before a0 Z = true := hw _ (List.mem_of_getElem? (i := 33) rfl)
theorem w_34 {Z : State} {a0 : Array Value} (hw : ∀ d ∈ tables_1, d.before a0 Z = true) : (Jvm.Cond.instanceMethod ({ cls := "java/lang/String", name := "isLatin1", desc := "()Z" } : Jvm.MethodName)).before a0 Z = true := hw _ (List.mem_of_getElem? (i := 34) rfl)
theorem w_35 {Z : State} {a0 : Array Value} (hw : ∀ d ∈ tables_1, d.before a0 Z = true) : (Jvm.Cond.selects "java/lang/String" ({ cls := "java/lang/String", name := "isLatin1", desc := "()Z" } : Jvm.MethodName) ({ cls := "java/lang/String", name := "isLatin1", desc := "()Z" } : Jvm.MethodName)).before a0 Z = true := hw _ (List.mem_of_getElem? (i := 35) rfl)
theorem w_36 {Z : State} {a0 : Array Value} (hw : ∀ d ∈ tables_1, d.before a0 Z = true) : (Jvm.Cond.code ({ cls := "java/lang/String", name := "isLatin1", desc := "()Z" } : Jvm.MethodName) jdk_42_method_154_code (1 : Nat) (Option.some Jvm.ClassFile.FieldType.boolean)).before a0 Z = true := hw _ (List.mem_of_getElem? (i := 36) rfl)
theorem w_37 {Z : State} {a0 : Array Value} (hw : ∀ d ∈ tables_1, d.before a0 Z = true) : (Jvm.Cond.methodLink "java/lang/String" (495 : Nat) ({ cls := "java/lang/StringLatin1", name := "charAt", desc := "([BI)C" } : Jvm.MethodName)).before a0 Z = true := hw _ (List.mem_of_getElem? (i := 37) rfl)
theorem w_38 {Z : State} {a0 : Array Value} (hw : ∀ d ∈ tables_1, d.before a0 Z = true) : (Jvm.Cond.static ({ cls := "java/lang/StringLatin1", name := "charAt", desc := "([BI)C" } : Jvm.MethodName)).before a0 Z = true := hw _ (List.mem_of_getElem? (i := 38) rfl)
theorem w_39 {Z : State} {a0 : Array Value} (hw : ∀ d ∈ tables_1, d.before a0 Z = true) : (Jvm.Cond.initialized "java/lang/StringLatin1").before a0 Z = true := hw _ (List.mem_of_getElem? (i := 39) rfl)
theorem w_40 {Z : State} {a0 : Array Value} (hw : ∀ d ∈ tables_1, d.before a0 Z = true) : (Jvm.Cond.code ({ cls := "java/lang/StringLatin1", name := "charAt", desc := "([BI)C" } : Jvm.MethodName) jdk_43_method_2_code (2 : Nat) (Option.some Jvm.ClassFile.FieldType.char)).before a0 Z = true := hw _ (List.mem_of_getElem? (i := 40) rfl)
theorem w_41 {Z : State} {a0 : Array Value} (hw : ∀ d ∈ tables_1, d.before a0 Z = true) : (Jvm.Cond.methodLink "java/lang/StringLatin1" (9 : Nat) ({ cls := "java/lang/String", name := "checkIndex", desc := "(II)V" } : Jvm.MethodName)).before a0 Z = true := hw _ (List.mem_of_getElem? (i := 41) rfl)
theorem w_42 {Z : State} {a0 : Array Value} (hw : ∀ d ∈ tables_1, d.before a0 Z = true) : (Jvm.Cond.static ({ cls := "java/lang/String", name := "checkIndex", desc := "(II)V" } : Jvm.MethodName)).before a0 Z = true := hw _ (List.mem_of_getElem? (i := 42) rfl)
theorem w_43 {Z : State} {a0 : Array Value} (hw : ∀ d ∈ tables_1, d.before a0 Z = true) : (Jvm.Cond.code ({ cls := "java/lang/String", name := "checkIndex", desc := "(II)V" } : Jvm.MethodName) jdk_42_method_155_code (2 : Nat) (Option.none : Option Jvm.ClassFile.FieldType)).before a0 Z = true := hw _ (List.mem_of_getElem? (i := 43) rfl)
theorem w_44 {Z : State} {a0 : Array Value} (hw : ∀ d ∈ tables_1, d.before a0 Z = true) : (Jvm.Cond.fieldLink "java/lang/String" (1053 : Nat) "jdk/internal/util/Preconditions" "SIOOBE_FORMATTER" "Ljava/util/function/BiFunction;").before a0 Z = true := hw _ (List.mem_of_getElem? (i := 44) rfl)
theorem w_45 {Z : State} {a0 : Array Value} (hw : ∀ d ∈ tables_1, d.before a0 Z = true) : (Jvm.Cond.initialized "jdk/internal/util/Preconditions").before a0 Z = true := hw _ (List.mem_of_getElem? (i := 45) rfl)
theorem w_46 {Z : State} {a0 : Array Value} (hw : ∀ d ∈ tables_1, d.before a0 Z = true) : (Jvm.Cond.methodLink "java/lang/String" (1059 : Nat) ({ cls := "jdk/internal/util/Preconditions", name := "checkIndex", desc := "(IILjava/util/function/BiFunction;)I" } : Jvm.MethodName)).before a0 Z = true := hw _ (List.mem_of_getElem? (i := 46) rfl)
theorem w_47 {Z : State} {a0 : Array Value} (hw : ∀ d ∈ tables_1, d.before a0 Z = true) : (Jvm.Cond.static ({ cls := "jdk/internal/util/Preconditions", name := "checkIndex", desc := "(IILjava/util/function/BiFunction;)I" } : Jvm.MethodName)).before a0 Z = true := hw _ (List.mem_of_getElem? (i := 47) rfl)
theorem w_48 {Z : State} {a0 : Array Value} (hw : ∀ d ∈ tables_1, d.before a0 Z = true) : (Jvm.Cond.code ({ cls := "jdk/internal/util/Preconditions", name := "checkIndex", desc := "(IILjava/util/function/BiFunction;)I" } : Jvm.MethodName) jdk_41_method_11_code (3 : Nat) (Option.some Jvm.ClassFile.FieldType.int)).before a0 Z = true := hw _ (List.mem_of_getElem? (i := 48) rfl)
theorem w_49 {Z : State} {a0 : Array Value} (hw : ∀ d ∈ tables_1, d.before a0 Z = true) : (Jvm.Cond.classLink "com/example/tapstone/tapstone/server/RoleOfConfigNamePinLaw" (17 : Nat) "java/lang/String").before a0 Z = true := hw _ (List.mem_of_getElem? (i := 49) rfl)
theorem w_50 {Z : State} {a0 : Array Value} (hw : ∀ d ∈ tables_1, d.before a0 Z = true) : (Jvm.Cond.methodLink "com/example/tapstone/tapstone/server/RoleOfConfigNamePinLaw" (28 : Nat) ({ cls := "java/lang/String", name := "<init>", desc := "([C)V" } : Jvm.MethodName)).before a0 Z = true := hw _ (List.mem_of_getElem? (i := 50) rfl)
theorem w_51 {Z : State} {a0 : Array Value} (hw : ∀ d ∈ tables_1, d.before a0 Z = true) : (Jvm.Cond.instanceMethod ({ cls := "java/lang/String", name := "<init>", desc := "([C)V" } : Jvm.MethodName)).before a0 Z = true := hw _ (List.mem_of_getElem? (i := 51) rfl)
theorem w_52 {Z : State} {a0 : Array Value} (hw : ∀ d ∈ tables_1, d.before a0 Z = true) : (Jvm.Cond.code ({ cls := "java/lang/String", name := "<init>", desc := "([C)V" } : Jvm.MethodName) jdk_42_method_3_code (2 : Nat) (Option.none : Option Jvm.ClassFile.FieldType)).before a0 Z = true := hw _ (List.mem_of_getElem? (i := 52) rfl)
theorem w_53 {Z : State} {a0 : Array Value} (hw : ∀ d ∈ tables_1, d.before a0 Z = true) : (Jvm.Cond.methodLink "java/lang/String" (27 : Nat) ({ cls := "java/lang/String", name := "<init>", desc := "([CIILjava/lang/Void;)V" } : Jvm.MethodName)).before a0 Z = true := hw _ (List.mem_of_getElem? (i := 53) rfl)
theorem w_54 {Z : State} {a0 : Array Value} (hw : ∀ d ∈ tables_1, d.before a0 Z = true) : (Jvm.Cond.instanceMethod ({ cls := "java/lang/String", name := "<init>", desc := "([CIILjava/lang/Void;)V" } : Jvm.MethodName)).before a0 Z = true := hw _ (List.mem_of_getElem? (i := 54) rfl)
theorem w_56 {Z : State} {a0 : Array Value} (hw : ∀ d ∈ tables_1, d.before a0 Z = true) : (Jvm.Cond.code ({ cls := "java/lang/String", name := "<init>", desc := "([CIILjava/lang/Void;)V" } : Jvm.MethodName) jdk_42_method_149_code (6 : Nat) (Option.none : Option Jvm.ClassFile.FieldType)).before a0 Z = true := hw _ (List.mem_of_getElem? (i := 56) rfl)
theorem w_57 {Z : State} {a0 : Array Value} (hw : ∀ d ∈ tables_1, d.before a0 Z = true) : (Jvm.Cond.methodLink "java/lang/String" (1 : Nat) ({ cls := "java/lang/Object", name := "<init>", desc := "()V" } : Jvm.MethodName)).before a0 Z = true := hw _ (List.mem_of_getElem? (i := 57) rfl)
theorem w_58 {Z : State} {a0 : Array Value} (hw : ∀ d ∈ tables_1, d.before a0 Z = true) : (Jvm.Cond.instanceMethod ({ cls := "java/lang/Object", name := "<init>", desc := "()V" } : Jvm.MethodName)).before a0 Z = true := hw _ (List.mem_of_getElem? (i := 58) rfl)
theorem w_59 {Z : State} {a0 : Array Value} (hw : ∀ d ∈ tables_1, d.before a0 Z = true) : (Jvm.Cond.code ({ cls := "java/lang/Object", name := "<init>", desc := "()V" } : Jvm.MethodName) object_method_1_code (1 : Nat) (Option.none : Option Jvm.ClassFile.FieldType)).before a0 Z = true := hw _ (List.mem_of_getElem? (i := 59) rfl)
theorem w_60 {Z : State} {a0 : Array Value} (hw : ∀ d ∈ tables_1, d.before a0 Z = true) : (Jvm.Cond.methodLink "java/lang/String" (177 : Nat) ({ cls := "java/lang/StringUTF16", name := "compress", desc := "([CII)[B" } : Jvm.MethodName)).before a0 Z = true := hw _ (List.mem_of_getElem? (i := 60) rfl)
theorem w_61 {Z : State} {a0 : Array Value} (hw : ∀ d ∈ tables_1, d.before a0 Z = true) : (Jvm.Cond.static ({ cls := "java/lang/StringUTF16", name := "compress", desc := "([CII)[B" } : Jvm.MethodName)).before a0 Z = true := hw _ (List.mem_of_getElem? (i := 61) rfl)
theorem w_62 {Z : State} {a0 : Array Value} (hw : ∀ d ∈ tables_1, d.before a0 Z = true) : (Jvm.Cond.initialized "java/lang/StringUTF16").before a0 Z = true := hw _ (List.mem_of_getElem? (i := 62) rfl)
theorem w_63 {Z : State} {a0 : Array Value} (hw : ∀ d ∈ tables_1, d.before a0 Z = true) : (Jvm.Cond.code ({ cls := "java/lang/StringUTF16", name := "compress", desc := "([CII)[B" } : Jvm.MethodName) jdk_52_method_16_code (6 : Nat) (Option.some (Jvm.ClassFile.FieldType.array Jvm.ClassFile.FieldType.byte))).before a0 Z = true := hw _ (List.mem_of_getElem? (i := 63) rfl)
theorem w_64 {Z : State} {a0 : Array Value} (hw : ∀ d ∈ tables_1, d.before a0 Z = true) : (Jvm.Cond.methodLink "java/lang/StringUTF16" (115 : Nat) ({ cls := "java/lang/StringUTF16", name := "compress", desc := "([CI[BII)I" } : Jvm.MethodName)).before a0 Z = true := hw _ (List.mem_of_getElem? (i := 64) rfl)
theorem w_65 {Z : State} {a0 : Array Value} (hw : ∀ d ∈ tables_1, d.before a0 Z = true) : (Jvm.Cond.static ({ cls := "java/lang/StringUTF16", name := "compress", desc := "([CI[BII)I" } : Jvm.MethodName)).before a0 Z = true := hw _ (List.mem_of_getElem? (i := 65) rfl)
theorem w_66 {Z : State} {a0 : Array Value} (hw : ∀ d ∈ tables_1, d.before a0 Z = true) : (Jvm.Cond.code ({ cls := "java/lang/StringUTF16", name := "compress", desc := "([CI[BII)I" } : Jvm.MethodName) jdk_52_method_21_code (7 : Nat) (Option.some Jvm.ClassFile.FieldType.int)).before a0 Z = true := hw _ (List.mem_of_getElem? (i := 66) rfl)
theorem w_67 {Z : State} {a0 : Array Value} (hw : ∀ d ∈ tables_1, d.before a0 Z = true) : (Jvm.Cond.methodLink "java/lang/String" (47 : Nat) ({ cls := "java/lang/StringUTF16", name := "coderFromArrayLen", desc := "([BI)B" } : Jvm.MethodName)).before a0 Z = true := hw _ (List.mem_of_getElem? (i := 67) rfl)
theorem w_68 {Z : State} {a0 : Array Value} (hw : ∀ d ∈ tables_1, d.before a0 Z = true) : (Jvm.Cond.static ({ cls := "java/lang/StringUTF16", name := "coderFromArrayLen", desc := "([BI)B" } : Jvm.MethodName)).before a0 Z = true := hw _ (List.mem_of_getElem? (i := 68) rfl)
theorem w_69 {Z : State} {a0 : Array Value} (hw : ∀ d ∈ tables_1, d.before a0 Z = true) : (Jvm.Cond.code ({ cls := "java/lang/StringUTF16", name := "coderFromArrayLen", desc := "([BI)B" } : Jvm.MethodName) jdk_52_method_15_code (2 : Nat) (Option.some Jvm.ClassFile.FieldType.byte)).before a0 Z = true := hw _ (List.mem_of_getElem? (i := 69) rfl)
theorem w_70 {Z : State} {a0 : Array Value} (hw : ∀ d ∈ tables_1, d.before a0 Z = true) : (Jvm.Cond.methodLink "com/example/tapstone/tapstone/server/RoleOfConfigNamePinLaw" (31 : Nat) ({ cls := "com/example/tapstone/tapstone/server/Role", name := "ofConfigName", desc := "(Ljava/lang/String;)Ljava/util/Optional;" } : Jvm.MethodName)).before a0 Z = true := hw _ (List.mem_of_getElem? (i := 70) rfl)
theorem w_71 {Z : State} {a0 : Array Value} (hw : ∀ d ∈ tables_1, d.before a0 Z = true) : (Jvm.Cond.static ({ cls := "com/example/tapstone/tapstone/server/Role", name := "ofConfigName", desc := "(Ljava/lang/String;)Ljava/util/Optional;" } : Jvm.MethodName)).before a0 Z = true := hw _ (List.mem_of_getElem? (i := 71) rfl)
theorem w_72 {Z : State} {a0 : Array Value} (hw : ∀ d ∈ tables_1, d.before a0 Z = true) : (Jvm.Cond.initialized "com/example/tapstone/tapstone/server/Role").before a0 Z = true := hw _ (List.mem_of_getElem? (i := 72) rfl)
theorem w_73 {Z : State} {a0 : Array Value} (hw : ∀ d ∈ tables_1, d.before a0 Z = true) : (Jvm.Cond.code ({ cls := "com/example/tapstone/tapstone/server/Role", name := "ofConfigName", desc := "(Ljava/lang/String;)Ljava/util/Optional;" } : Jvm.MethodName) prog_29_method_5_code (5 : Nat) (Option.some (Jvm.ClassFile.FieldType.object "java/util/Optional"))).before a0 Z = true := hw _ (List.mem_of_getElem? (i := 73) rfl)
theorem w_74 {Z : State} {a0 : Array Value} (hw : ∀ d ∈ tables_1, d.before a0 Z = true) : (Jvm.Cond.methodLink "com/example/tapstone/tapstone/server/Role" (36 : Nat) ({ cls := "com/example/tapstone/tapstone/server/Role", name := "values", desc := "()[Lcom/example/tapstone/tapstone/server/Role;" } : Jvm.MethodName)).before a0 Z = true := hw _ (List.mem_of_getElem? (i := 74) rfl)
theorem w_75 {Z : State} {a0 : Array Value} (hw : ∀ d ∈ tables_1, d.before a0 Z = true) : (Jvm.Cond.static ({ cls := "com/example/tapstone/tapstone/server/Role", name := "values", desc := "()[Lcom/example/tapstone/tapstone/server/Role;" } : Jvm.MethodName)).before a0 Z = true := hw _ (List.mem_of_getElem? (i := 75) rfl)
theorem w_76 {Z : State} {a0 : Array Value} (hw : ∀ d ∈ tables_1, d.before a0 Z = true) : (Jvm.Cond.code ({ cls := "com/example/tapstone/tapstone/server/Role", name := "values", desc := "()[Lcom/example/tapstone/tapstone/server/Role;" } : Jvm.MethodName) prog_29_method_1_code (0 : Nat) (Option.some (Jvm.ClassFile.FieldType.array (Jvm.ClassFile.FieldType.object "com/example/tapstone/tapstone/server/Role")))).before a0 Z = true := hw _ (List.mem_of_getElem? (i := 76) rfl)
theorem w_77 {Z : State} {a0 : Array Value} (hw : ∀ d ∈ tables_1, d.before a0 Z = true) : (Jvm.Cond.fieldLink "com/example/tapstone/tapstone/server/Role" (13 : Nat) "com/example/tapstone/tapstone/server/Role" "$VALUES" "[Lcom/example/tapstone/tapstone/server/Role;").before a0 Z = true := hw _ (List.mem_of_getElem? (i := 77) rfl)
theorem w_79 {Z : State} {a0 : Array Value} (hw : ∀ d ∈ tables_1, d.before a0 Z = true) : (Jvm.Cond.methodLink "com/example/tapstone/tapstone/server/Role" (17 : Nat) ({ cls := "[Lcom/example/tapstone/tapstone/server/Role;", name := "clone", desc := "()Ljava/lang/Object;" } : Jvm.MethodName)).before a0 Z = true := hw _ (List.mem_of_getElem? (i := 79) rfl)
theorem w_80 {Z : State} {a0 : Array Value} (hw : ∀ d ∈ tables_1, d.before a0 Z = true) : (Jvm.Cond.sameMethod "[Lcom/example/tapstone/tapstone/server/Role;" "java/lang/Object" "clone" "()Ljava/lang/Object;").before a0 Z = true := hw _ (List.mem_of_getElem? (i := 80) rfl)
theorem w_82 {Z : State} {a0 : Array Value} (hw : ∀ d ∈ tables_1, d.before a0 Z = true) : (Jvm.Cond.instanceMethod ({ cls := "java/lang/Object", name := "clone", desc := "()Ljava/lang/Object;" } : Jvm.MethodName)).before a0 Z = true := hw _ (List.mem_of_getElem? (i := 82) rfl)
theorem w_83 {Z : State} {a0 : Array Value} (hw : ∀ d ∈ tables_1, d.before a0 Z = true) : (Jvm.Cond.selects "[Lcom/example/tapstone/tapstone/server/Role;" ({ cls := "[Lcom/example/tapstone/tapstone/server/Role;", name := "clone", desc := "()Ljava/lang/Object;" } : Jvm.MethodName) ({ cls := "java/lang/Object", name := "clone", desc := "()Ljava/lang/Object;" } : Jvm.MethodName)).before a0 Z = true := hw _ (List.mem_of_getElem? (i := 83) rfl)
theorem w_84 {Z : State} {a0 : Array Value} (hw : ∀ d ∈ tables_1, d.before a0 Z = true) : (Jvm.Cond.native ({ cls := "java/lang/Object", name := "clone", desc := "()Ljava/lang/Object;" } : Jvm.MethodName)).before a0 Z = true := hw _ (List.mem_of_getElem? (i := 84) rfl)
theorem w_85 {Z : State} {a0 : Array Value} (hw : ∀ d ∈ tables_1, d.before a0 Z = true) : (Jvm.Cond.castable "[Lcom/example/tapstone/tapstone/server/Role;" "java/lang/Cloneable").before a0 Z = true := hw _ (List.mem_of_getElem? (i := 85) rfl)
theorem w_86 {Z : State} {a0 : Array Value} (hw : ∀ d ∈ tables_1, d.before a0 Z = true) : (Jvm.Cond.laysStatic "com/example/tapstone/tapstone/server/Role" "REQUESTOR" "Lcom/example/tapstone/tapstone/server/Role;").before a0 Z = true := hw _ (List.mem_of_getElem? (i := 86) rfl)
theorem w_87 {Z : State} {a0 : Array Value} (hw : ∀ d ∈ tables_1, d.before a0 Z = true) : (Jvm.Cond.laysStatic "com/example/tapstone/tapstone/server/Role" "NETWORK" "Lcom/example/tapstone/tapstone/server/Role;").before a0 Z = true := hw _ (List.mem_of_getElem? (i := 87) rfl)
theorem w_88 {Z : State} {a0 : Array Value} (hw : ∀ d ∈ tables_1, d.before a0 Z = true) : (Jvm.Cond.laysStatic "com/example/tapstone/tapstone/server/Role" "INTEGRATOR" "Lcom/example/tapstone/tapstone/server/Role;").before a0 Z = true := hw _ (List.mem_of_getElem? (i := 88) rfl)
theorem w_89 {Z : State} {a0 : Array Value} (hw : ∀ d ∈ tables_1, d.before a0 Z = true) : (Jvm.Cond.initializedFor "com/example/tapstone/tapstone/server/Role" "$VALUES" "[Lcom/example/tapstone/tapstone/server/Role;").before a0 Z = true := hw _ (List.mem_of_getElem? (i := 89) rfl)
theorem w_90 {Z : State} {a0 : Array Value} (hw : ∀ d ∈ tables_1, d.before a0 Z = true) : (Jvm.Cond.classLink "com/example/tapstone/tapstone/server/Role" (18 : Nat) "[Lcom/example/tapstone/tapstone/server/Role;").before a0 Z = true := hw _ (List.mem_of_getElem? (i := 90) rfl)
theorem w_92 {Z : State} {a0 : Array Value} (hw : ∀ d ∈ tables_1, d.before a0 Z = true) : (Jvm.Cond.fieldLink "com/example/tapstone/tapstone/server/Role" (32 : Nat) "com/example/tapstone/tapstone/server/Role" "configName" "Ljava/lang/String;").before a0 Z = true := hw _ (List.mem_of_getElem? (i := 92) rfl)
theorem w_94 {Z : State} {a0 : Array Value} (hw : ∀ d ∈ tables_1, d.before a0 Z = true) : (Jvm.Cond.methodLink "com/example/tapstone/tapstone/server/Role" (40 : Nat) ({ cls := "java/lang/String", name := "equals", desc := "(Ljava/lang/Object;)Z" } : Jvm.MethodName)).before a0 Z = true := hw _ (List.mem_of_getElem? (i := 94) rfl)
theorem w_95 {Z : State} {a0 : Array Value} (hw : ∀ d ∈ tables_1, d.before a0 Z = true) : (Jvm.Cond.declares ({ cls := "java/lang/String", name := "equals", desc := "(Ljava/lang/Object;)Z" } : Jvm.MethodName)).before a0 Z = true := hw _ (List.mem_of_getElem? (i := 95) rfl)
theorem w_96 {Z : State} {a0 : Array Value} (hw : ∀ d ∈ tables_1, d.before a0 Z = true) : (Jvm.Cond.instanceMethod ({ cls := "java/lang/String", name := "equals", desc := "(Ljava/lang/Object;)Z" } : Jvm.MethodName)).before a0 Z = true := hw _ (List.mem_of_getElem? (i := 96) rfl)
theorem w_97 {Z : State} {a0 : Array Value} (hw : ∀ d ∈ tables_1, d.before a0 Z = true) : (Jvm.Cond.selects "java/lang/String" ({ cls := "java/lang/String", name := "equals", desc := "(Ljava/lang/Object;)Z" } : Jvm.MethodName) ({ cls := "java/lang/String", name := "equals", desc := "(Ljava/lang/Object;)Z" } : Jvm.MethodName)).before a0 Z = true := hw _ (List.mem_of_getElem? (i := 97) rfl)
theorem w_98 {Z : State} {a0 : Array Value} (hw : ∀ d ∈ tables_1, d.before a0 Z = true) : (Jvm.Cond.code ({ cls := "java/lang/String", name := "equals", desc := "(Ljava/lang/Object;)Z" } : Jvm.MethodName) jdk_42_method_66_code (3 : Nat) (Option.some Jvm.ClassFile.FieldType.boolean)).before a0 Z = true := hw _ (List.mem_of_getElem? (i := 98) rfl)
theorem w_99 {Z : State} {a0 : Array Value} (hw : ∀ d ∈ tables_1, d.before a0 Z = true) : (Jvm.Cond.classLink "java/lang/String" (10 : Nat) "java/lang/String").before a0 Z = true := hw _ (List.mem_of_getElem? (i := 99) rfl)
theorem w_100 {Z : State} {a0 : Array Value} (hw : ∀ d ∈ tables_1, d.before a0 Z = true) : (Jvm.Cond.methodLink "java/lang/String" (541 : Nat) ({ cls := "java/lang/StringLatin1", name := "equals", desc := "([B[B)Z" } : Jvm.MethodName)).before a0 Z = true := hw _ (List.mem_of_getElem? (i := 100) rfl)
theorem w_101 {Z : State} {a0 : Array Value} (hw : ∀ d ∈ tables_1, d.before a0 Z = true) : (Jvm.Cond.static ({ cls := "java/lang/StringLatin1", name := "equals", desc := "([B[B)Z" } : Jvm.MethodName)).before a0 Z = true := hw _ (List.mem_of_getElem? (i := 101) rfl)
theorem w_102 {Z : State} {a0 : Array Value} (hw : ∀ d ∈ tables_1, d.before a0 Z = true) : (Jvm.Cond.code ({ cls := "java/lang/StringLatin1", name := "equals", desc := "([B[B)Z" } : Jvm.MethodName) jdk_43_method_13_code (3 : Nat) (Option.some Jvm.ClassFile.FieldType.boolean)).before a0 Z = true := hw _ (List.mem_of_getElem? (i := 102) rfl)
theorem w_103 {Z : State} {a0 : Array Value} (hw : ∀ d ∈ tables_1, d.before a0 Z = true) : (Jvm.Cond.methodLink "com/example/tapstone/tapstone/server/Role" (46 : Nat) ({ cls := "java/util/Optional", name := "of", desc := "(Ljava/lang/Object;)Ljava/util/Optional;" } : Jvm.MethodName)).before a0 Z = true := hw _ (List.mem_of_getElem? (i := 103) rfl)
theorem w_104 {Z : State} {a0 : Array Value} (hw : ∀ d ∈ tables_1, d.before a0 Z = true) : (Jvm.Cond.static ({ cls := "java/util/Optional", name := "of", desc := "(Ljava/lang/Object;)Ljava/util/Optional;" } : Jvm.MethodName)).before a0 Z = true := hw _ (List.mem_of_getElem? (i := 104) rfl)
theorem w_105 {Z : State} {a0 : Array Value} (hw : ∀ d ∈ tables_1, d.before a0 Z = true) : (Jvm.Cond.initialized "java/util/Optional").before a0 Z = true := hw _ (List.mem_of_getElem? (i := 105) rfl)
theorem w_106 {Z : State} {a0 : Array Value} (hw : ∀ d ∈ tables_1, d.before a0 Z = true) : (Jvm.Cond.code ({ cls := "java/util/Optional", name := "of", desc := "(Ljava/lang/Object;)Ljava/util/Optional;" } : Jvm.MethodName) jdk_32_method_3_code (1 : Nat) (Option.some (Jvm.ClassFile.FieldType.object "java/util/Optional"))).before a0 Z = true := hw _ (List.mem_of_getElem? (i := 106) rfl)
theorem w_107 {Z : State} {a0 : Array Value} (hw : ∀ d ∈ tables_1, d.before a0 Z = true) : (Jvm.Cond.classLink "java/util/Optional" (2 : Nat) "java/util/Optional").before a0 Z = true := hw _ (List.mem_of_getElem? (i := 107) rfl)
theorem w_108 {Z : State} {a0 : Array Value} (hw : ∀ d ∈ tables_1, d.before a0 Z = true) : (Jvm.Cond.instantiable "java/util/Optional" (1 : Nat)).before a0 Z = true := hw _ (List.mem_of_getElem? (i := 108) rfl)
theorem w_109 {Z : State} {a0 : Array Value} (hw : ∀ d ∈ tables_1, d.before a0 Z = true) : (Jvm.Cond.methodLink "java/util/Optional" (17 : Nat) ({ cls := "java/util/Objects", name := "requireNonNull", desc := "(Ljava/lang/Object;)Ljava/lang/Object;" } : Jvm.MethodName)).before a0 Z = true := hw _ (List.mem_of_getElem? (i := 109) rfl)
theorem w_110 {Z : State} {a0 : Array Value} (hw : ∀ d ∈ tables_1, d.before a0 Z = true) : (Jvm.Cond.static ({ cls := "java/util/Objects", name := "requireNonNull", desc := "(Ljava/lang/Object;)Ljava/lang/Object;" } : Jvm.MethodName)).before a0 Z = true := hw _ (List.mem_of_getElem? (i := 110) rfl)
theorem w_111 {Z : State} {a0 : Array Value} (hw : ∀ d ∈ tables_1, d.before a0 Z = true) : (Jvm.Cond.initialized "java/util/Objects").before a0 Z = true := hw _ (List.mem_of_getElem? (i := 111) rfl)
theorem w_112 {Z : State} {a0 : Array Value} (hw : ∀ d ∈ tables_1, d.before a0 Z = true) : (Jvm.Cond.code ({ cls := "java/util/Objects", name := "requireNonNull", desc := "(Ljava/lang/Object;)Ljava/lang/Object;" } : Jvm.MethodName) jdk_31_method_10_code (1 : Nat) (Option.some (Jvm.ClassFile.FieldType.object "java/lang/Object"))).before a0 Z = true := hw _ (List.mem_of_getElem? (i := 112) rfl)
theorem w_113 {Z : State} {a0 : Array Value} (hw : ∀ d ∈ tables_1, d.before a0 Z = true) : (Jvm.Cond.methodLink "java/util/Optional" (23 : Nat) ({ cls := "java/util/Optional", name := "<init>", desc := "(Ljava/lang/Object;)V" } : Jvm.MethodName)).before a0 Z = true := hw _ (List.mem_of_getElem? (i := 113) rfl)
theorem w_114 {Z : State} {a0 : Array Value} (hw : ∀ d ∈ tables_1, d.before a0 Z = true) : (Jvm.Cond.instanceMethod ({ cls := "java/util/Optional", name := "<init>", desc := "(Ljava/lang/Object;)V" } : Jvm.MethodName)).before a0 Z = true := hw _ (List.mem_of_getElem? (i := 114) rfl)
theorem w_116 {Z : State} {a0 : Array Value} (hw : ∀ d ∈ tables_1, d.before a0 Z = true) : (Jvm.Cond.code ({ cls := "java/util/Optional", name := "<init>", desc := "(Ljava/lang/Object;)V" } : Jvm.MethodName) jdk_32_method_2_code (2 : Nat) (Option.none : Option Jvm.ClassFile.FieldType)).before a0 Z = true := hw _ (List.mem_of_getElem? (i := 116) rfl)
theorem w_117 {Z : State} {a0 : Array Value} (hw : ∀ d ∈ tables_1, d.before a0 Z = true) : (Jvm.Cond.methodLink "java/util/Optional" (7 : Nat) ({ cls := "java/lang/Object", name := "<init>", desc := "()V" } : Jvm.MethodName)).before a0 Z = true := hw _ (List.mem_of_getElem? (i := 117) rfl)
theorem w_118 {Z : State} {a0 : Array Value} (hw : ∀ d ∈ tables_1, d.before a0 Z = true) : (Jvm.Cond.fieldLink "java/util/Optional" (13 : Nat) "java/util/Optional" "value" "Ljava/lang/Object;").before a0 Z = true := hw _ (List.mem_of_getElem? (i := 118) rfl)
theorem w_119 {Z : State} {a0 : Array Value} (hw : ∀ d ∈ tables_1, d.before a0 Z = true) : (Jvm.Cond.laysFinal "java/util/Optional" "java/util/Optional" "value" "Ljava/lang/Object;").before a0 Z = true := hw _ (List.mem_of_getElem? (i := 119) rfl)
theorem w_120 {Z : State} {a0 : Array Value} (hw : ∀ d ∈ tables_1, d.before a0 Z = true) : (Jvm.Cond.methodLink "com/example/tapstone/tapstone/server/RoleOfConfigNamePinLaw" (37 : Nat) ({ cls := "java/lang/String", name := "equals", desc := "(Ljava/lang/Object;)Z" } : Jvm.MethodName)).before a0 Z = true := hw _ (List.mem_of_getElem? (i := 120) rfl)
theorem w_121 {Z : State} {a0 : Array Value} (hw : ∀ d ∈ tables_1, d.before a0 Z = true) : (Jvm.Cond.fieldLink "com/example/tapstone/tapstone/server/RoleOfConfigNamePinLaw" (41 : Nat) "com/example/tapstone/tapstone/server/Role" "REQUESTOR" "Lcom/example/tapstone/tapstone/server/Role;").before a0 Z = true := hw _ (List.mem_of_getElem? (i := 121) rfl)
theorem w_122 {Z : State} {a0 : Array Value} (hw : ∀ d ∈ tables_1, d.before a0 Z = true) : (Jvm.Cond.methodLink "com/example/tapstone/tapstone/server/RoleOfConfigNamePinLaw" (51 : Nat) ({ cls := "java/util/Optional", name := "isPresent", desc := "()Z" } : Jvm.MethodName)).before a0 Z = true := hw _ (List.mem_of_getElem? (i := 122) rfl)
theorem w_123 {Z : State} {a0 : Array Value} (hw : ∀ d ∈ tables_1, d.before a0 Z = true) : (Jvm.Cond.declares ({ cls := "java/util/Optional", name := "isPresent", desc := "()Z" } : Jvm.MethodName)).before a0 Z = true := hw _ (List.mem_of_getElem? (i := 123) rfl)
theorem w_124 {Z : State} {a0 : Array Value} (hw : ∀ d ∈ tables_1, d.before a0 Z = true) : (Jvm.Cond.instanceMethod ({ cls := "java/util/Optional", name := "isPresent", desc := "()Z" } : Jvm.MethodName)).before a0 Z = true := hw _ (List.mem_of_getElem? (i := 124) rfl)
theorem w_125 {Z : State} {a0 : Array Value} (hw : ∀ d ∈ tables_1, d.before a0 Z = true) : (Jvm.Cond.selects "java/util/Optional" ({ cls := "java/util/Optional", name := "isPresent", desc := "()Z" } : Jvm.MethodName) ({ cls := "java/util/Optional", name := "isPresent", desc := "()Z" } : Jvm.MethodName)).before a0 Z = true := hw _ (List.mem_of_getElem? (i := 125) rfl)
theorem w_126 {Z : State} {a0 : Array Value} (hw : ∀ d ∈ tables_1, d.before a0 Z = true) : (Jvm.Cond.code ({ cls := "java/util/Optional", name := "isPresent", desc := "()Z" } : Jvm.MethodName) jdk_32_method_6_code (1 : Nat) (Option.some Jvm.ClassFile.FieldType.boolean)).before a0 Z = true := hw _ (List.mem_of_getElem? (i := 126) rfl)
theorem w_127 {Z : State} {a0 : Array Value} (hw : ∀ d ∈ tables_1, d.before a0 Z = true) : (Jvm.Cond.methodLink "com/example/tapstone/tapstone/server/RoleOfConfigNamePinLaw" (57 : Nat) ({ cls := "java/util/Optional", name := "get", desc := "()Ljava/lang/Object;" } : Jvm.MethodName)).before a0 Z = true := hw _ (List.mem_of_getElem? (i := 127) rfl)
theorem w_128 {Z : State} {a0 : Array Value} (hw : ∀ d ∈ tables_1, d.before a0 Z = true) : (Jvm.Cond.declares ({ cls := "java/util/Optional", name := "get", desc := "()Ljava/lang/Object;" } : Jvm.MethodName)).before a0 Z = true := hw _ (List.mem_of_getElem? (i := 128) rfl)
theorem w_129 {Z : State} {a0 : Array Value} (hw : ∀ d ∈ tables_1, d.before a0 Z = true) : (Jvm.Cond.instanceMethod ({ cls := "java/util/Optional", name := "get", desc := "()Ljava/lang/Object;" } : Jvm.MethodName)).before a0 Z = true := hw _ (List.mem_of_getElem? (i := 129) rfl)
theorem w_130 {Z : State} {a0 : Array Value} (hw : ∀ d ∈ tables_1, d.before a0 Z = true) : (Jvm.Cond.selects "java/util/Optional" ({ cls := "java/util/Optional", name := "get", desc := "()Ljava/lang/Object;" } : Jvm.MethodName) ({ cls := "java/util/Optional", name := "get", desc := "()Ljava/lang/Object;" } : Jvm.MethodName)).before a0 Z = true := hw _ (List.mem_of_getElem? (i := 130) rfl)
theorem w_131 {Z : State} {a0 : Array Value} (hw : ∀ d ∈ tables_1, d.before a0 Z = true) : (Jvm.Cond.code ({ cls := "java/util/Optional", name := "get", desc := "()Ljava/lang/Object;" } : Jvm.MethodName) jdk_32_method_5_code (1 : Nat) (Option.some (Jvm.ClassFile.FieldType.object "java/lang/Object"))).before a0 Z = true := hw _ (List.mem_of_getElem? (i := 131) rfl)
theorem w_132 {Z : State} {a0 : Array Value} (hw : ∀ d ∈ tables_1, d.before a0 Z = true) : (Jvm.Cond.stringLink "com/example/tapstone/tapstone/server/RoleOfConfigNamePinLaw" (10 : Nat) "network").before a0 Z = true := hw _ (List.mem_of_getElem? (i := 132) rfl)
theorem w_133 {Z : State} {a0 : Array Value} (hw : ∀ d ∈ tables_1, d.before a0 Z = true) : (Jvm.Cond.methodLink "com/example/tapstone/tapstone/server/Role" (52 : Nat) ({ cls := "java/util/Optional", name := "empty", desc := "()Ljava/util/Optional;" } : Jvm.MethodName)).before a0 Z = true := hw _ (List.mem_of_getElem? (i := 133) rfl)
theorem w_134 {Z : State} {a0 : Array Value} (hw : ∀ d ∈ tables_1, d.before a0 Z = true) : (Jvm.Cond.static ({ cls := "java/util/Optional", name := "empty", desc := "()Ljava/util/Optional;" } : Jvm.MethodName)).before a0 Z = true := hw _ (List.mem_of_getElem? (i := 134) rfl)
theorem w_135 {Z : State} {a0 : Array Value} (hw : ∀ d ∈ tables_1, d.before a0 Z = true) : (Jvm.Cond.code ({ cls := "java/util/Optional", name := "empty", desc := "()Ljava/util/Optional;" } : Jvm.MethodName) jdk_32_method_1_code (1 : Nat) (Option.some (Jvm.ClassFile.FieldType.object "java/util/Optional"))).before a0 Z = true := hw _ (List.mem_of_getElem? (i := 135) rfl)
theorem w_136 {Z : State} {a0 : Array Value} (hw : ∀ d ∈ tables_1, d.before a0 Z = true) : (Jvm.Cond.fieldLink "java/util/Optional" (1 : Nat) "java/util/Optional" "EMPTY" "Ljava/util/Optional;").before a0 Z = true := hw _ (List.mem_of_getElem? (i := 136) rfl)
theorem w_137 {Z : State} {a0 : Array Value} (hw : ∀ d ∈ tables_1, d.before a0 Z = true) : (Jvm.Cond.stringLink "com/example/tapstone/tapstone/server/RoleOfConfigNamePinLaw" (12 : Nat) "integrator").before a0 Z = true := hw _ (List.mem_of_getElem? (i := 137) rfl)
theorem w_138 {Z : State} {a0 : Array Value} (hw : ∀ d ∈ tables_1, d.before a0 Z = true) : (Jvm.Cond.stringLink "com/example/tapstone/tapstone/server/RoleOfConfigNamePinLaw" (14 : Nat) "").before a0 Z = true := hw _ (List.mem_of_getElem? (i := 138) rfl)
theorem w_139 {Z : State} {a0 : Array Value} (hw : ∀ d ∈ tables_1, d.before a0 Z = true) : (Jvm.Cond.fieldLink "com/example/tapstone/tapstone/server/RoleOfConfigNamePinLaw" (45 : Nat) "com/example/tapstone/tapstone/server/Role" "NETWORK" "Lcom/example/tapstone/tapstone/server/Role;").before a0 Z = true := hw _ (List.mem_of_getElem? (i := 139) rfl)
theorem w_140 {Z : State} {a0 : Array Value} (hw : ∀ d ∈ tables_1, d.before a0 Z = true) : (Jvm.Cond.fieldLink "com/example/tapstone/tapstone/server/RoleOfConfigNamePinLaw" (48 : Nat) "com/example/tapstone/tapstone/server/Role" "INTEGRATOR" "Lcom/example/tapstone/tapstone/server/Role;").before a0 Z = true := hw _ (List.mem_of_getElem? (i := 140) rfl)
theorem w_141 {Z : State} {a0 : Array Value} (hw : ∀ d ∈ tables_1, d.before a0 Z = true) : (Jvm.Cond.stringLink "java/lang/String" (7 : Nat) "").before a0 Z = true := hw _ (List.mem_of_getElem? (i := 141) rfl)
theorem sA {Z : State} {a0 : Array Value} (hw : ∀ d ∈ tables_1, d.before a0 Z = true) : ∀ a ∈ Bundle.stringAtoms, a.before a0 Z = true := fun a ha => by
  simp only [Bundle.stringAtoms, List.mem_cons, List.not_mem_nil, or_false] at ha
  rcases ha with rfl | rfl | rfl | rfl | rfl | rfl | rfl
  · exact w_2 hw
  · exact w_3 hw
  · exact w_4 hw
  · exact w_5 hw
  · exact w_6 hw
  · exact w_7 hw
  · exact w_8 hw
abbrev R_m_cmpL : Room := { frames := 0, cells := 0, slots := 0, locals := 0 }
set_option maxRecDepth 65536 in
set_option maxHeartbeats 40000000 in
theorem m_cmpL_loop {l : Launch} {Z : State} {n0 : Nat} {h0 : Heap} {Q : Option Value → Heap → List Addr → Prop} {c t : Addr} {kc kt : ClassId} {cs : List Int32} {z : Int32} (hz : z.toNatClampNeg = cs.length) (hcs : ∀ x ∈ cs, ¬ x < 0 ∧ ¬ 255 < x) (ne_c_t : c ≠ t)
    (K : ∀ h' o, Arv Z h' t kt .byte z (cs.map lowV) (.int (0 : Int32)) → Go l Z EL0 n0 NR0 KN0 N_0 jdk_52_method_21_code 7 (Option.some Jvm.ClassFile.FieldType.int) R_m_cmpL h0 [t] Q [t] h' 0 0 44 #[.val (.ref c), .val (.int (Int32.ofNat cs.length)), .val (.ref t), .val (.int (Int32.ofNat cs.length)), .val (.int z), .val (.int (Int32.ofNat cs.length)), o] []) :
    ∀ (m i : Nat) (h : Heap) (o : Slot), i + m = cs.length → One o → Arv Z h c kc .char z (cs.map Value.int) (.int (0 : Int32)) → Arv Z h t kt .byte z ((cs.take i).map lowV ++ List.replicate m (.int (0 : Int32))) (.int (0 : Int32)) →
      Go l Z EL0 n0 NR0 KN0 N_0 jdk_52_method_21_code 7 (Option.some Jvm.ClassFile.FieldType.int) R_m_cmpL h0 [t] Q [t] h 0 0 3 #[.val (.ref c), .val (.int (Int32.ofNat i)), .val (.ref t), .val (.int (Int32.ofNat i)), .val (.int z), .val (.int (Int32.ofNat i)), o] [] := by
  intro m
  induction m with
  | zero =>
    intro i h o hi ho V_c V_t
    obtain rfl : i = cs.length := by omega
    have zn := arv_nn V_c
    have q := (back32 zn).2
    refine Go.iload (pc' := 5) d_jdk_52_method_21_3 rfl rfl ?_
    refine Go.iload (pc' := 7) d_jdk_52_method_21_5 rfl rfl ?_
    refine Go.icmpY (pc' := 44) d_jdk_52_method_21_7 (by decide) (by decide) (flt (ofNat_ge zn (by omega) (Nat.le_of_eq hz) : ¬ ((Int32.ofNat cs.length) < z))).2.1 ?_
    refine K h o ?_
    simpa using V_t
  | succ m ih =>
    intro i h o hi ho V_c V_t
    have zn := arv_nn V_c
    have q := (back32 zn).2
    have hi2 : i < cs.length := by omega
    have b1 := getD_mem hcs hi2
    have ci := ofNat_clamp (i := i) (by omega)
    have nn := ofNat_nn (i := i) (by omega)
    have lt := ofNat_lt (i := i) zn (by omega)
    refine Go.iload (pc' := 5) d_jdk_52_method_21_3 rfl rfl ?_
    refine Go.iload (pc' := 7) d_jdk_52_method_21_5 rfl rfl ?_
    refine Go.icmpN (pc' := 10) d_jdk_52_method_21_7 rfl (tlt (lt : (Int32.ofNat i) < z)).2.1 ?_
    refine Go.aload_n (pc' := 11) d_jdk_52_method_21_10 rfl rfl rfl ?_
    refine Go.iload_n (pc' := 12) d_jdk_52_method_21_11 rfl rfl ?_
    refine Go.caloadV (pc' := 13) (v := (.int (cs.getD i 0))) d_jdk_52_method_21_12 rfl V_c ⟨nn, lt⟩ (by rw [ci]; exact getD_int cs i) ?_
    refine Go.istoreS (pc' := 15) (Ls' := #[.val (.ref c), .val (.int (Int32.ofNat i)), .val (.ref t), .val (.int (Int32.ofNat i)), .val (.int z), .val (.int (Int32.ofNat i)), .val (.int (cs.getD i 0))]) d_jdk_52_method_21_13 rfl rfl ho rfl ?_
    refine Go.iload (pc' := 17) d_jdk_52_method_21_15 rfl rfl ?_
    refine Go.sipush (pc' := 20) d_jdk_52_method_21_17 rfl ics_255 ?_
    refine Go.icmpY (pc' := 26) d_jdk_52_method_21_20 (by decide) (by decide) (flt (b1.2 : ¬ ((255 : Int32) < (cs.getD i 0)))).2.2.2 ?_
    refine Go.aload_n (pc' := 27) d_jdk_52_method_21_26 rfl rfl rfl ?_
    refine Go.iload_n (pc' := 28) d_jdk_52_method_21_27 rfl rfl ?_
    refine Go.iload (pc' := 30) d_jdk_52_method_21_28 rfl rfl ?_
    refine Go.i2b (pc' := 31) d_jdk_52_method_21_30 rfl ?_
    refine Go.bastoreV (pc' := 32) (i := i) d_jdk_52_method_21_31 rfl (List.mem_of_getElem? (i := 0) rfl) V_t ⟨nn, lt⟩ ci (by simp; omega) ?_
    intro h2 W2 V_t2
    rw [nar_byte] at V_t2
    have V_t3 := V_t2
    rw [show (Value.int (cs.getD i 0).toInt8.toInt32) = lowV (cs.getD i 0) from rfl, set_low cs i m hi2] at V_t3
    replace V_c := V_c.other W2 ne_c_t
    change Go _ _ _ _ _ _ _ _ _ _ _ _ _ _ [t] h2 0 0 32 #[.val (.ref c), .val (.int (Int32.ofNat i)), .val (.ref t), .val (.int (Int32.ofNat i)), .val (.int z), .val (.int (Int32.ofNat i)), .val (.int (cs.getD i 0))] []
    refine Go.iinc (pc' := 35) (Ls' := #[.val (.ref c), .val (.int ((Int32.ofNat i) + (1 : Int32))), .val (.ref t), .val (.int (Int32.ofNat i)), .val (.int z), .val (.int (Int32.ofNat i)), .val (.int (cs.getD i 0))]) d_jdk_52_method_21_32 rfl ic_1 rfl rfl ?_
    refine Go.iinc (pc' := 38) (Ls' := #[.val (.ref c), .val (.int ((Int32.ofNat i) + (1 : Int32))), .val (.ref t), .val (.int ((Int32.ofNat i) + (1 : Int32))), .val (.int z), .val (.int (Int32.ofNat i)), .val (.int (cs.getD i 0))]) d_jdk_52_method_21_35 rfl ic_1 rfl rfl ?_
    refine Go.iinc (pc' := 41) (Ls' := #[.val (.ref c), .val (.int ((Int32.ofNat i) + (1 : Int32))), .val (.ref t), .val (.int ((Int32.ofNat i) + (1 : Int32))), .val (.int z), .val (.int ((Int32.ofNat i) + (1 : Int32))), .val (.int (cs.getD i 0))]) d_jdk_52_method_21_38 rfl ic_1 rfl rfl ?_
    refine Go.goto (pc' := 3) d_jdk_52_method_21_41 (by decide) (by decide) ?_
    rw [ofNat_succ i]
    exact ih (i + 1) h2 _ (by omega) (One.val rfl) V_c V_t3
theorem pn_m_cmpL : plainFor (⟨"java/lang/StringUTF16", "compress", "([CI[BII)I"⟩ : MethodName) = true := by first | (refine plainFor_of_name ?_; simp [plainName, overriddenIn]; done) | decide +kernel
theorem ef_m_cmpL (m : MethodId) (c t : Addr) (z : Int32) : entryFrame m #[(.ref c), (.int (0 : Int32)), (.ref t), (.int (0 : Int32)), (.int z)] 7 = mkF m 0 #[.val (.ref c), .val (.int (0 : Int32)), .val (.ref t), .val (.int (0 : Int32)), .val (.int z), .unset, .unset] [] := by first | (simp [entryFrame, mkF, argsToLocals, Value.category]; done) | rfl
set_option maxRecDepth 65536 in
set_option maxHeartbeats 40000000 in
theorem m_cmpL {l : Launch} {Z : State} {a0 : Array Value} {n0 : Nat} (hw : ∀ d ∈ tables_1, d.before a0 Z = true) (hs : Stat Z) (c t : Addr) (kc kt : ClassId) (cs : List Int32) (z : Int32) (h0 : Heap) (V_c : Arv Z h0 c kc .char z (cs.map Value.int) (.int (0 : Int32))) (V_t : Arv Z h0 t kt .byte z (List.replicate cs.length (.int (0 : Int32))) (.int (0 : Int32))) (hz : z.toNatClampNeg = cs.length) (hcs : ∀ x ∈ cs, ¬ x < 0 ∧ ¬ 255 < x) (ne_c_t : c ≠ t) :
    Met l Z EL0 n0 NR0 KN0 N_0 jdk_52_method_21_code 7 (Option.some Jvm.ClassFile.FieldType.int) R_m_cmpL [t] #[(.ref c), (.int (0 : Int32)), (.ref t), (.int (0 : Int32)), (.int z)] h0 (fun v h' SN => v = some (.int z) ∧ SN = [] ∧ Arv Z h' t kt .byte z (cs.map lowV) (.int (0 : Int32))) := by
  refine Met.of_go pn_m_cmpL (fun m => ef_m_cmpL m c t z) ?_
  intro hO hWS
  refine Go.iconst (pc' := 1) d_jdk_52_method_21_0 rfl ic_0 ?_
  refine Go.istore (pc' := 3) (Ls' := #[.val (.ref c), .val (.int (0 : Int32)), .val (.ref t), .val (.int (0 : Int32)), .val (.int z), .val (.int (0 : Int32)), .unset]) d_jdk_52_method_21_1 rfl rfl ?_
  refine m_cmpL_loop (kc := kc) hz hcs ne_c_t (fun h' o V => ?_) cs.length 0 h0 _ (by omega) One.u V_c (by simpa using V_t)
  refine Go.iload (pc' := 46) d_jdk_52_method_21_44 rfl rfl ?_
  exact Go.retI d_jdk_52_method_21_46 rfl (by decide) (by decide) [] sn0 ⟨rfl, rfl, V⟩
abbrev R_m_cmp : Room := { frames := 1, cells := 1, slots := 11, locals := 18 }
theorem pn_m_cmp : plainFor (⟨"java/lang/StringUTF16", "compress", "([CII)[B"⟩ : MethodName) = true := by first | (refine plainFor_of_name ?_; simp [plainName, overriddenIn]; done) | decide +kernel
abbrev Q_m_cmp (Z : State) (c : Addr) (kc : ClassId) (cs : List Int32) (z : Int32) (h0 : Heap) : Option Value → Heap → List Addr → Prop := fun res h' SN => ∃ (t : Addr) (kt : ClassId), res = some (.ref t) ∧ SN = [] ∧ h0.size ≤ t ∧ Arv Z h' t kt .byte z (cs.map lowV) (.int (0 : Int32))
theorem ef_m_cmp (mid : MethodId) (c : Addr) (kc : ClassId) (cs : List Int32) (z : Int32) : entryFrame mid #[(.ref c), (.int (0 : Int32)), (.int z)] 6 = mkF mid 0 #[.val (.ref c), .val (.int (0 : Int32)), .val (.int z), .unset, .unset, .unset] [] := by first | (simp [entryFrame, mkF, argsToLocals, Value.category]; done) | rfl
set_option maxRecDepth 65536 in
set_option maxHeartbeats 40000000 in
theorem m_cmp {l : Launch} {Z : State} {a0 : Array Value} {n0 : Nat} (hw : ∀ d ∈ tables_1, d.before a0 Z = true) (hs : Stat Z) (c : Addr) (kc : ClassId) (cs : List Int32) (z : Int32) (h0 : Heap) (V_c : Arv Z h0 c kc .char z (cs.map Value.int) (.int (0 : Int32))) (hz : z.toNatClampNeg = cs.length) (hcs : ∀ x ∈ cs, ¬ x < 0 ∧ ¬ 255 < x) (hcap : z.toNatClampNeg ≤ CAP) :
    Met l Z EL0 n0 NR0 KN0 N_1 jdk_52_method_16_code 6 (Option.some (Jvm.ClassFile.FieldType.array Jvm.ClassFile.FieldType.byte)) R_m_cmp [] #[(.ref c), (.int (0 : Int32)), (.int z)] h0 (Q_m_cmp Z c kc cs z h0) := by
  refine Met.of_go pn_m_cmp (fun mid => ef_m_cmp mid c kc cs z ) ?_
  intro hO hWS
  have zn := arv_nn V_c
  refine Go.iload_n (pc' := 1) d_jdk_52_method_16_0 rfl rfl ?_
  refine Go.newP (pc' := 3) (cap := CAP) (ad := "[B") d_jdk_52_method_16_1 rfl (w_4 hw) (by decide) zn hcap (by decide) (by decide) (by decide) ?_
  intro h1 b1 g1 ge_b1 k1 x1 V_b1 E_b1
  have o_c_b1 : c ≠ b1 := Nat.ne_of_lt (Nat.lt_of_lt_of_le V_c.lt (Nat.le_of_eq g1))
  replace V_c := V_c.ext x1
  replace V_b1 : Arv Z h1 b1 k1 .byte z (List.replicate cs.length (.int (0 : Int32))) (.int (0 : Int32)) := V_b1.pad (fun i => pad_rep [] _ cs.length i)
  change Go _ _ _ _ _ _ _ _ _ _ _ _ _ _ [b1] h1 1 11 3 #[.val (.ref c), .val (.int (0 : Int32)), .val (.int z), .unset, .unset, .unset] [(.ref b1)]
  refine Go.astore_n (pc' := 4) (Ls' := #[.val (.ref c), .val (.int (0 : Int32)), .val (.int z), .val (.ref b1), .unset, .unset]) d_jdk_52_method_16_3 rfl rfl rfl ?_
  refine Go.aload_n (pc' := 5) d_jdk_52_method_16_4 rfl rfl rfl ?_
  refine Go.iload_n (pc' := 6) d_jdk_52_method_16_5 rfl rfl ?_
  refine Go.aload_n (pc' := 7) d_jdk_52_method_16_6 rfl rfl rfl ?_
  refine Go.iconst (pc' := 8) d_jdk_52_method_16_7 rfl ic_0 ?_
  refine Go.iload_n (pc' := 9) d_jdk_52_method_16_8 rfl rfl ?_
  refine Go.callS (pc' := 12) (z := N_0) d_jdk_52_method_16_9 rfl (w_64 hw) (w_65 hw) (w_62 hw) (w_66 hw) (by decide) (argsL := [(.ref c), (.int (0 : Int32)), (.ref b1), (.int (0 : Int32)), (.int z)]) (rest := []) (Pays.of_met (W := 0) (len := 3) (m_cmpL hw hs c b1 kc k1 cs z h1 V_c V_b1 (hz) (hcs) o_c_b1) (w_66 hw) (w_62 hw) (by decide) (by decide)) rfl rfl (lenOf pd_0 rfl) rfl (Nat.le_of_eq rfl) (memS (List.mem_of_getElem? (i := 0) rfl) mem0) (by decide) (by decide) ?_
  rintro _ h1 _ K2 le3 ⟨rfl, rfl, p4⟩
  replace V_c := V_c.keep K2 (ninS o_c_b1 nin0)
  have V_b1 := p4
  change Go _ _ _ _ _ _ _ _ _ _ _ _ _ _ [b1] h1 1 11 12 #[.val (.ref c), .val (.int (0 : Int32)), .val (.int z), .val (.ref b1), .unset, .unset] [(.int z)]
  refine Go.istore (pc' := 14) (Ls' := #[.val (.ref c), .val (.int (0 : Int32)), .val (.int z), .val (.ref b1), .val (.int z), .unset]) d_jdk_52_method_16_12 rfl rfl ?_
  refine Go.iload (pc' := 16) d_jdk_52_method_16_14 rfl rfl ?_
  refine Go.iload_n (pc' := 17) d_jdk_52_method_16_16 rfl rfl ?_
  refine Go.icmpY (pc' := 57) d_jdk_52_method_16_17 (by decide) (by decide) (teq (rfl : z = z)).1 ?_
  refine Go.aload_n (pc' := 58) d_jdk_52_method_16_57 rfl rfl rfl ?_
  exact Go.retA d_jdk_52_method_16_58 rfl rfl rfl (by decide) (by decide) [] sn0 ⟨b1, k1, rfl, rfl, ge_b1, V_b1⟩
abbrev R_m_cfl : Room := { frames := 0, cells := 0, slots := 0, locals := 0 }
theorem pn_m_cfl : plainFor (⟨"java/lang/StringUTF16", "coderFromArrayLen", "([BI)B"⟩ : MethodName) = true := by first | (refine plainFor_of_name ?_; simp [plainName, overriddenIn]; done) | decide +kernel
abbrev Q_m_cfl (Z : State) (t : Addr) (kt : ClassId) (z : Int32) (vs : List Value) (h0 : Heap) : Option Value → Heap → List Addr → Prop := fun res h' SN => res = some (.int (0 : Int32)) ∧ SN = [] ∧ h0 = h'
theorem ef_m_cfl (mid : MethodId) (t : Addr) (kt : ClassId) (z : Int32) (vs : List Value) : entryFrame mid #[(.ref t), (.int z)] 2 = mkF mid 0 #[.val (.ref t), .val (.int z)] [] := by first | (simp [entryFrame, mkF, argsToLocals, Value.category]; done) | rfl
set_option maxRecDepth 65536 in
set_option maxHeartbeats 40000000 in
theorem m_cfl {l : Launch} {Z : State} {a0 : Array Value} {n0 : Nat} (hw : ∀ d ∈ tables_1, d.before a0 Z = true) (hs : Stat Z) (t : Addr) (kt : ClassId) (z : Int32) (vs : List Value) (h0 : Heap) (V_t : Arv Z h0 t kt .byte z vs (.int (0 : Int32))) :
    Met l Z EL0 n0 NR0 KN0 N_2 jdk_52_method_15_code 2 (Option.some Jvm.ClassFile.FieldType.byte) R_m_cfl [] #[(.ref t), (.int z)] h0 (Q_m_cfl Z t kt z vs h0) := by
  refine Met.of_go pn_m_cfl (fun mid => ef_m_cfl mid t kt z vs ) ?_
  intro hO hWS
  refine Go.iload_n (pc' := 1) d_jdk_52_method_15_0 rfl rfl ?_
  refine Go.aload_n (pc' := 2) d_jdk_52_method_15_1 rfl rfl rfl ?_
  refine Go.lenV (pc' := 3) d_jdk_52_method_15_2 rfl V_t ?_
  refine Go.isub (pc' := 4) d_jdk_52_method_15_3 rfl ?_
  refine Go.bipush (pc' := 6) d_jdk_52_method_15_4 rfl icb_31 ?_
  refine Go.iushr (pc' := 7) d_jdk_52_method_15_6 rfl ?_
  refine Go.i2b (pc' := 8) d_jdk_52_method_15_7 rfl ?_
  rw [own_coder0]
  exact Go.retS (ty := .byte) d_jdk_52_method_15_8 rfl (by simp) rfl (by decide) (by decide) [] sn0 ⟨rfl, rfl, rfl⟩
abbrev R_m_str4 : Room := { frames := 2, cells := 1, slots := 11, locals := 35 }
theorem pn_m_str4 : plainFor (⟨"java/lang/String", "<init>", "([CIILjava/lang/Void;)V"⟩ : MethodName) = true := by first | (refine plainFor_of_name ?_; simp [plainName, overriddenIn]; done) | decide +kernel
abbrev Q_m_str4 (Z : State) (a : Addr) (c : Addr) (kc : ClassId) (cs : List Int32) (z : Int32) (h0 : Heap) : Option Value → Heap → List Addr → Prop := fun res h' SN => ∃ (t : Addr) (kt : ClassId), res = none ∧ SN = [] ∧ Exa Z h' a "java/lang/String" ∧ Fld Z h' a "java/lang/String" "coder" "B" (.int (0 : Int32)) ∧ Fld Z h' a "java/lang/String" "value" "[B" (.ref t) ∧ Arv Z h' t kt .byte z (cs.map lowV) (.int (0 : Int32)) ∧ h0.size ≤ t
theorem ef_m_str4 (mid : MethodId) (a : Addr) (c : Addr) (kc : ClassId) (cs : List Int32) (z : Int32) : entryFrame mid #[(.ref a), (.ref c), (.int (0 : Int32)), (.int z), .null] 6 = mkF mid 0 #[.val (.ref a), .val (.ref c), .val (.int (0 : Int32)), .val (.int z), .val .null, .unset] [] := by first | (simp [entryFrame, mkF, argsToLocals, Value.category]; done) | rfl
set_option maxRecDepth 65536 in
set_option maxHeartbeats 40000000 in
theorem m_str4 {l : Launch} {Z : State} {a0 : Array Value} {n0 : Nat} (hw : ∀ d ∈ tables_1, d.before a0 Z = true) (hs : Stat Z) (a : Addr) (c : Addr) (kc : ClassId) (cs : List Int32) (z : Int32) (h0 : Heap) (E_a : Exa Z h0 a "java/lang/String") (F_a_coder : Fld Z h0 a "java/lang/String" "coder" "B" (.int (0 : Int32))) (F_a_value : Fld Z h0 a "java/lang/String" "value" "[B" .null) (V_c : Arv Z h0 c kc .char z (cs.map Value.int) (.int (0 : Int32))) (hz : z.toNatClampNeg = cs.length) (hcs : ∀ x ∈ cs, ¬ x < 0 ∧ ¬ 255 < x) (hcs0 : cs ≠ []) (hcap : z.toNatClampNeg ≤ CAP) (ne_c_a : c ≠ a) :
    Met l Z EL0 n0 NR0 KN0 N_3 jdk_42_method_149_code 6 (Option.none : Option Jvm.ClassFile.FieldType) R_m_str4 [a] #[(.ref a), (.ref c), (.int (0 : Int32)), (.int z), .null] h0 (Q_m_str4 Z a c kc cs z h0) := by
  refine Met.of_go pn_m_str4 (fun mid => ef_m_str4 mid a c kc cs z ) ?_
  intro hO hWS
  obtain ⟨zc, S_c, hzc⟩ := hs_c hs
  have zn := arv_nn V_c
  refine Go.aload_n (pc' := 1) d_jdk_42_method_149_0 rfl rfl rfl ?_
  refine Go.initO (pc' := 4) (W := 0) d_jdk_42_method_149_1 rfl (w_57 hw) (w_58 hw) (w_59 hw) rfl (by decide) (Nat.le_of_eq rfl) (by decide) ?_
  refine Go.iload_n (pc' := 5) d_jdk_42_method_149_4 rfl rfl ?_
  refine Go.ifY (pc' := 27) d_jdk_42_method_149_5 (by decide) (by decide) ((if0 _ _).trans (feq (own_nz hz hcs0 : ¬ (z = (0 : Int32)))).2) ?_
  refine Go.getS (pc' := 30) d_jdk_42_method_149_27 rfl (host := "") (Or.inl (w_20 hw)) Via.refl S_c ?_
  refine Go.ifN (pc' := 33) d_jdk_42_method_149_30 rfl ((if0 _ _).trans (feq (hzc : ¬ (zc = (0 : Int32)))).1) ?_
  refine Go.aload_n (pc' := 34) d_jdk_42_method_149_33 rfl rfl rfl ?_
  refine Go.iload_n (pc' := 35) d_jdk_42_method_149_34 rfl rfl ?_
  refine Go.iload_n (pc' := 36) d_jdk_42_method_149_35 rfl rfl ?_
  refine Go.callS (pc' := 39) (z := N_1) d_jdk_42_method_149_36 rfl (w_60 hw) (w_61 hw) (w_62 hw) (w_63 hw) (by decide) (argsL := [(.ref c), (.int (0 : Int32)), (.int z)]) (rest := []) (Pays.of_met (W := 0) (len := 3) (m_cmp hw hs c kc cs z h0 V_c (hz) (hcs) (hcap)) (w_63 hw) (w_62 hw) (by decide) (by decide)) rfl rfl (lenOf pd_1 rfl) rfl (Nat.le_of_eq rfl) mem0 (by decide) (by decide) ?_
  rintro _ h7 _ K8 le9 ⟨b5, q6, rfl, rfl, p10, p11⟩
  have o_a_b5 : a ≠ b5 := Nat.ne_of_lt (Nat.lt_of_lt_of_le E_a.lt p10)
  have o_c_b5 : c ≠ b5 := Nat.ne_of_lt (Nat.lt_of_lt_of_le V_c.lt p10)
  have ge_b5 := Nat.le_trans le9 p10
  replace E_a := E_a.keep K8
  replace F_a_coder := F_a_coder.keep K8 nin0
  replace F_a_value := F_a_value.keep K8 nin0
  replace V_c := V_c.keep K8 nin0
  have V_b5 := p11
  change Go _ _ _ _ _ _ _ _ _ _ _ _ _ _ [a] h7 1 11 39 #[.val (.ref a), .val (.ref c), .val (.int (0 : Int32)), .val (.int z), .val .null, .unset] [(.ref b5)]
  refine Go.astore (pc' := 41) (Ls' := #[.val (.ref a), .val (.ref c), .val (.int (0 : Int32)), .val (.int z), .val .null, .val (.ref b5)]) d_jdk_42_method_149_39 rfl rfl rfl ?_
  refine Go.aload_n (pc' := 42) d_jdk_42_method_149_41 rfl rfl rfl ?_
  refine Go.aload (pc' := 44) d_jdk_42_method_149_42 rfl rfl rfl ?_
  refine Go.iload_n (pc' := 45) d_jdk_42_method_149_44 rfl rfl ?_
  refine Go.callS (pc' := 48) (z := N_2) d_jdk_42_method_149_45 rfl (w_67 hw) (w_68 hw) (w_62 hw) (w_69 hw) (by decide) (argsL := [(.ref b5), (.int z)]) (rest := [(.ref a)]) (Pays.of_met (W := 1) (len := 3) (m_cfl hw hs b5 q6 z (cs.map lowV) h7 V_b5) (w_69 hw) (w_62 hw) (by decide) (by decide)) rfl rfl (lenOf pd_2 rfl) rfl (Nat.le_of_eq rfl) mem0 (by decide) (by decide) ?_
  rintro _ _ _ - - ⟨rfl, rfl, rfl⟩
  change Go _ _ _ _ _ _ _ _ _ _ _ _ _ _ [a] h7 1 11 48 #[.val (.ref a), .val (.ref c), .val (.int (0 : Int32)), .val (.int z), .val .null, .val (.ref b5)] [(.int (0 : Int32)), (.ref a)]
  refine Go.putFN (pc' := 51) (v' := (.int (0 : Int32))) d_jdk_42_method_149_48 rfl (List.mem_of_getElem? (i := 0) rfl) (w_21 hw) Via.refl F_a_coder E_a (Or.inr ⟨(w_6 hw), rfl, rfl⟩) (w_3 hw) (ty := .byte) (by decide) rfl rfl ?_
  intro h12 W13
  replace F_a_coder := F_a_coder.same W13
  replace E_a := E_a.wr W13
  replace F_a_value := F_a_value.other W13 (Or.inr (slot_ne (Or.inr (w_5 hw)) (Or.inr (w_6 hw)) (by decide) (t := (.array .byte)) (t' := .byte) (by decide) (by decide)))
  replace V_c := V_c.other W13 ne_c_a
  replace V_b5 := V_b5.other W13 (Ne.symm o_a_b5)
  change Go _ _ _ _ _ _ _ _ _ _ _ _ _ _ [a] h12 1 11 51 #[.val (.ref a), .val (.ref c), .val (.int (0 : Int32)), .val (.int z), .val .null, .val (.ref b5)] []
  refine Go.aload_n (pc' := 52) d_jdk_42_method_149_51 rfl rfl rfl ?_
  refine Go.aload (pc' := 54) d_jdk_42_method_149_52 rfl rfl rfl ?_
  refine Go.putF (pc' := 57) d_jdk_42_method_149_54 rfl (List.mem_of_getElem? (i := 0) rfl) (host := "") (Or.inl (w_14 hw)) Via.refl F_a_value E_a (Or.inr ⟨(w_5 hw), rfl, rfl⟩) (w_3 hw) (ty := (.array .byte)) (by decide) rfl rfl ?_
  intro h14 W15
  replace F_a_value := F_a_value.same W15
  replace E_a := E_a.wr W15
  replace V_c := V_c.other W15 ne_c_a
  replace V_b5 := V_b5.other W15 (Ne.symm o_a_b5)
  replace F_a_coder := F_a_coder.other W15 (Or.inr (slot_ne (Or.inr (w_6 hw)) (Or.inr (w_5 hw)) (by decide) (t := .byte) (t' := (.array .byte)) (by decide) (by decide)))
  change Go _ _ _ _ _ _ _ _ _ _ _ _ _ _ [a] h14 1 11 57 #[.val (.ref a), .val (.ref c), .val (.int (0 : Int32)), .val (.int z), .val .null, .val (.ref b5)] []
  exact Go.retV d_jdk_42_method_149_57 rfl (by decide) (by decide) [] sn0 ⟨b5, q6, rfl, rfl, E_a, F_a_coder, F_a_value, V_b5, ge_b5⟩
abbrev R_m_str : Room := { frames := 3, cells := 1, slots := 11, locals := 52 }
theorem pn_m_str : plainFor (⟨"java/lang/String", "<init>", "([C)V"⟩ : MethodName) = true := by first | (refine plainFor_of_name ?_; simp [plainName, overriddenIn]; done) | decide +kernel
abbrev Q_m_str (Z : State) (a : Addr) (c : Addr) (kc : ClassId) (cs : List Int32) (z : Int32) (h0 : Heap) : Option Value → Heap → List Addr → Prop := fun res h' SN => ∃ (t : Addr) (kt : ClassId), res = none ∧ SN = [] ∧ Exa Z h' a "java/lang/String" ∧ Fld Z h' a "java/lang/String" "coder" "B" (.int (0 : Int32)) ∧ Fld Z h' a "java/lang/String" "value" "[B" (.ref t) ∧ Arv Z h' t kt .byte z (cs.map lowV) (.int (0 : Int32)) ∧ h0.size ≤ t
theorem ef_m_str (mid : MethodId) (a : Addr) (c : Addr) (kc : ClassId) (cs : List Int32) (z : Int32) : entryFrame mid #[(.ref a), (.ref c)] 2 = mkF mid 0 #[.val (.ref a), .val (.ref c)] [] := by first | (simp [entryFrame, mkF, argsToLocals, Value.category]; done) | rfl
set_option maxRecDepth 65536 in
set_option maxHeartbeats 40000000 in
theorem m_str {l : Launch} {Z : State} {a0 : Array Value} {n0 : Nat} (hw : ∀ d ∈ tables_1, d.before a0 Z = true) (hs : Stat Z) (a : Addr) (c : Addr) (kc : ClassId) (cs : List Int32) (z : Int32) (h0 : Heap) (E_a : Exa Z h0 a "java/lang/String") (F_a_coder : Fld Z h0 a "java/lang/String" "coder" "B" (.int (0 : Int32))) (F_a_value : Fld Z h0 a "java/lang/String" "value" "[B" .null) (V_c : Arv Z h0 c kc .char z (cs.map Value.int) (.int (0 : Int32))) (hz : z.toNatClampNeg = cs.length) (hcs : ∀ x ∈ cs, ¬ x < 0 ∧ ¬ 255 < x) (hcs0 : cs ≠ []) (hcap : z.toNatClampNeg ≤ CAP) (ne_c_a : c ≠ a) :
    Met l Z EL0 n0 NR0 KN0 N_4 jdk_42_method_3_code 2 (Option.none : Option Jvm.ClassFile.FieldType) R_m_str [a] #[(.ref a), (.ref c)] h0 (Q_m_str Z a c kc cs z h0) := by
  refine Met.of_go pn_m_str (fun mid => ef_m_str mid a c kc cs z ) ?_
  intro hO hWS
  refine Go.aload_n (pc' := 1) d_jdk_42_method_3_0 rfl rfl rfl ?_
  refine Go.aload_n (pc' := 2) d_jdk_42_method_3_1 rfl rfl rfl ?_
  refine Go.iconst (pc' := 3) d_jdk_42_method_3_2 rfl ic_0 ?_
  refine Go.aload_n (pc' := 4) d_jdk_42_method_3_3 rfl rfl rfl ?_
  refine Go.lenV (pc' := 5) d_jdk_42_method_3_4 rfl V_c ?_
  refine Go.aconst_null (pc' := 6) d_jdk_42_method_3_5 rfl ?_
  refine Go.callI (pc' := 9) (z := N_3) (a := a) d_jdk_42_method_3_6 rfl rfl (w_53 hw) (w_54 hw) (w_56 hw) (by decide) (argsL := [(.ref c), (.int (0 : Int32)), (.int z), .null]) (rest := []) (Pays.of_met (W := 0) (len := 3) (m_str4 hw hs a c kc cs z h0 E_a F_a_coder F_a_value V_c (hz) (hcs) (hcs0) (hcap) ne_c_a) (w_56 hw) (w_2 hw) (by decide) (by decide)) rfl rfl (lenOf pd_3 rfl) rfl (Nat.le_of_eq rfl) (memS (List.mem_of_getElem? (i := 0) rfl) mem0) (by decide) (by decide) ?_
  rintro _ h18 _ K19 le20 ⟨b16, q17, rfl, rfl, p21, p22, p23, p24, p25⟩
  have o_a_b16 : a ≠ b16 := Nat.ne_of_lt (Nat.lt_of_lt_of_le E_a.lt p25)
  have o_c_b16 : c ≠ b16 := Nat.ne_of_lt (Nat.lt_of_lt_of_le V_c.lt p25)
  have ge_b16 := Nat.le_trans le20 p25
  replace E_a := E_a.keep K19
  replace V_c := V_c.keep K19 (ninS ne_c_a nin0)
  have F_a_coder := p22
  have F_a_value := p23
  have V_b16 := p24
  change Go _ _ _ _ _ _ _ _ _ _ _ _ _ _ [a] h18 1 11 9 #[.val (.ref a), .val (.ref c)] []
  exact Go.retV d_jdk_42_method_3_9 rfl (by decide) (by decide) [] sn0 ⟨b16, q17, rfl, rfl, E_a, F_a_coder, F_a_value, V_b16, ge_b16⟩
abbrev R_m_str4e : Room := { frames := 1, cells := 4, slots := 8, locals := 12 }
theorem pn_m_str4e : plainFor (⟨"java/lang/String", "<init>", "([CIILjava/lang/Void;)V"⟩ : MethodName) = true := by first | (refine plainFor_of_name ?_; simp [plainName, overriddenIn]; done) | decide +kernel
abbrev Q_m_str4e (Z : State) (a : Addr) (c : Addr) (h0 : Heap) : Option Value → Heap → List Addr → Prop := fun res h' SN => ∃ (t : Addr) (kt : ClassId), res = none ∧ SN = [] ∧ Exa Z h' a "java/lang/String" ∧ Fld Z h' a "java/lang/String" "coder" "B" (.int (0 : Int32)) ∧ Fld Z h' a "java/lang/String" "value" "[B" (.ref t) ∧ Arv Z h' t kt .byte (0 : Int32) [] (.int (0 : Int32))
theorem ef_m_str4e (mid : MethodId) (a : Addr) (c : Addr) : entryFrame mid #[(.ref a), (.ref c), (.int (0 : Int32)), (.int (0 : Int32)), .null] 6 = mkF mid 0 #[.val (.ref a), .val (.ref c), .val (.int (0 : Int32)), .val (.int (0 : Int32)), .val .null, .unset] [] := by first | (simp [entryFrame, mkF, argsToLocals, Value.category]; done) | rfl
set_option maxRecDepth 65536 in
set_option maxHeartbeats 40000000 in
theorem m_str4e {l : Launch} {Z : State} {a0 : Array Value} {n0 : Nat} (hw : ∀ d ∈ tables_1, d.before a0 Z = true) (hs : Stat Z) (a : Addr) (c : Addr) (h0 : Heap) (E_a : Exa Z h0 a "java/lang/String") (F_a_coder : Fld Z h0 a "java/lang/String" "coder" "B" (.int (0 : Int32))) (F_a_value : Fld Z h0 a "java/lang/String" "value" "[B" .null) :
    Met l Z EL0 n0 NR0 KN0 N_3 jdk_42_method_149_code 6 (Option.none : Option Jvm.ClassFile.FieldType) R_m_str4e [a] #[(.ref a), (.ref c), (.int (0 : Int32)), (.int (0 : Int32)), .null] h0 (Q_m_str4e Z a c h0) := by
  refine Met.of_go pn_m_str4e (fun mid => ef_m_str4e mid a c ) ?_
  intro hO hWS
  refine Go.aload_n (pc' := 1) d_jdk_42_method_149_0 rfl rfl rfl ?_
  refine Go.initO (pc' := 4) (W := 0) d_jdk_42_method_149_1 rfl (w_57 hw) (w_58 hw) (w_59 hw) rfl (by decide) (Nat.le_of_eq rfl) (by decide) ?_
  refine Go.iload_n (pc' := 5) d_jdk_42_method_149_4 rfl rfl ?_
  refine Go.ifN (pc' := 8) d_jdk_42_method_149_5 rfl ((if0 _ _).trans (teq (rfl : (0 : Int32) = (0 : Int32))).2) ?_
  refine Go.aload_n (pc' := 9) d_jdk_42_method_149_8 rfl rfl rfl ?_
  refine Go.ldcS (pc' := 11) (nn := 0) (z := 0) (vs := []) rfl d_jdk_42_method_149_9 rfl (w_141 hw) (sA hw) (by decide) lit_0 (by decide) (by decide) (by decide) (by decide) (by decide) (by decide) ?_
  intro h26 s27 t28 q29 x30 E_s27 F_s27_coder F_s27_value V_t28 ne31
  replace E_a := E_a.ext x30
  replace F_a_coder := F_a_coder.ext x30
  replace F_a_value := F_a_value.ext x30
  have o_a_s27 := (ne31 a (List.mem_of_getElem? (i := 0) rfl)).1
  have o_a_t28 := (ne31 a (List.mem_of_getElem? (i := 0) rfl)).2
  change Go _ _ _ _ _ _ _ _ _ _ _ _ _ _ [a] h26 2 4 11 #[.val (.ref a), .val (.ref c), .val (.int (0 : Int32)), .val (.int (0 : Int32)), .val .null, .unset] [(.ref s27), (.ref a)]
  refine Go.getF (pc' := 14) d_jdk_42_method_149_11 rfl (host := "") (Or.inl (w_14 hw)) Via.refl F_s27_value ?_
  refine Go.putF (pc' := 17) d_jdk_42_method_149_14 rfl (List.mem_of_getElem? (i := 0) rfl) (host := "") (Or.inl (w_14 hw)) Via.refl F_a_value E_a (Or.inr ⟨(w_5 hw), rfl, rfl⟩) (w_3 hw) (ty := (.array .byte)) (by decide) rfl rfl ?_
  intro h32 W33
  replace F_a_value := F_a_value.same W33
  replace E_a := E_a.wr W33
  replace F_a_coder := F_a_coder.other W33 (Or.inr (slot_ne (Or.inr (w_6 hw)) (Or.inr (w_5 hw)) (by decide) (t := .byte) (t' := (.array .byte)) (by decide) (by decide)))
  replace E_s27 := E_s27.wr W33
  replace F_s27_coder := F_s27_coder.other W33 (Or.inl (Ne.symm o_a_s27))
  replace F_s27_value := F_s27_value.other W33 (Or.inl (Ne.symm o_a_s27))
  replace V_t28 := V_t28.other W33 (Ne.symm o_a_t28)
  change Go _ _ _ _ _ _ _ _ _ _ _ _ _ _ [a] h32 2 4 17 #[.val (.ref a), .val (.ref c), .val (.int (0 : Int32)), .val (.int (0 : Int32)), .val .null, .unset] []
  refine Go.aload_n (pc' := 18) d_jdk_42_method_149_17 rfl rfl rfl ?_
  refine Go.ldcS (pc' := 20) (nn := 0) (z := 0) (vs := []) rfl d_jdk_42_method_149_18 rfl (w_141 hw) (sA hw) (by decide) lit_0 (by decide) (by decide) (by decide) (by decide) (by decide) (by decide) ?_
  intro h34 s35 t36 q37 x38 E_s35 F_s35_coder F_s35_value V_t36 ne39
  replace E_a := E_a.ext x38
  replace F_a_coder := F_a_coder.ext x38
  replace E_s27 := E_s27.ext x38
  replace F_s27_coder := F_s27_coder.ext x38
  replace F_s27_value := F_s27_value.ext x38
  replace V_t28 := V_t28.ext x38
  replace F_a_value := F_a_value.ext x38
  have o_a_s35 := (ne39 a (List.mem_of_getElem? (i := 0) rfl)).1
  have o_a_t36 := (ne39 a (List.mem_of_getElem? (i := 0) rfl)).2
  change Go _ _ _ _ _ _ _ _ _ _ _ _ _ _ [a] h34 4 8 20 #[.val (.ref a), .val (.ref c), .val (.int (0 : Int32)), .val (.int (0 : Int32)), .val .null, .unset] [(.ref s35), (.ref a)]
  refine Go.getF (pc' := 23) d_jdk_42_method_149_20 rfl (host := "") (Or.inl (w_21 hw)) Via.refl F_s35_coder ?_
  refine Go.putFN (pc' := 26) (v' := (.int (0 : Int32))) d_jdk_42_method_149_23 rfl (List.mem_of_getElem? (i := 0) rfl) (w_21 hw) Via.refl F_a_coder E_a (Or.inr ⟨(w_6 hw), rfl, rfl⟩) (w_3 hw) (ty := .byte) (by decide) rfl rfl ?_
  intro h40 W41
  replace F_a_coder := F_a_coder.same W41
  replace E_a := E_a.wr W41
  replace E_s27 := E_s27.wr W41
  replace F_s27_coder := F_s27_coder.other W41 (Or.inl (Ne.symm o_a_s27))
  replace F_s27_value := F_s27_value.other W41 (Or.inl (Ne.symm o_a_s27))
  replace V_t28 := V_t28.other W41 (Ne.symm o_a_t28)
  replace F_a_value := F_a_value.other W41 (Or.inr (slot_ne (Or.inr (w_5 hw)) (Or.inr (w_6 hw)) (by decide) (t := (.array .byte)) (t' := .byte) (by decide) (by decide)))
  replace E_s35 := E_s35.wr W41
  replace F_s35_coder := F_s35_coder.other W41 (Or.inl (Ne.symm o_a_s35))
  replace F_s35_value := F_s35_value.other W41 (Or.inl (Ne.symm o_a_s35))
  replace V_t36 := V_t36.other W41 (Ne.symm o_a_t36)
  change Go _ _ _ _ _ _ _ _ _ _ _ _ _ _ [a] h40 4 8 26 #[.val (.ref a), .val (.ref c), .val (.int (0 : Int32)), .val (.int (0 : Int32)), .val .null, .unset] []
  exact Go.retV d_jdk_42_method_149_26 rfl (by decide) (by decide) [] sn0 ⟨t28, q29, rfl, rfl, E_a, F_a_coder, F_a_value, V_t28⟩
abbrev R_m_stre : Room := { frames := 2, cells := 4, slots := 8, locals := 29 }
theorem pn_m_stre : plainFor (⟨"java/lang/String", "<init>", "([C)V"⟩ : MethodName) = true := by first | (refine plainFor_of_name ?_; simp [plainName, overriddenIn]; done) | decide +kernel
abbrev Q_m_stre (Z : State) (a : Addr) (c : Addr) (kc : ClassId) (vs : List Value) (h0 : Heap) : Option Value → Heap → List Addr → Prop := fun res h' SN => ∃ (t : Addr) (kt : ClassId), res = none ∧ SN = [] ∧ Exa Z h' a "java/lang/String" ∧ Fld Z h' a "java/lang/String" "coder" "B" (.int (0 : Int32)) ∧ Fld Z h' a "java/lang/String" "value" "[B" (.ref t) ∧ Arv Z h' t kt .byte (0 : Int32) [] (.int (0 : Int32))
theorem ef_m_stre (mid : MethodId) (a : Addr) (c : Addr) (kc : ClassId) (vs : List Value) : entryFrame mid #[(.ref a), (.ref c)] 2 = mkF mid 0 #[.val (.ref a), .val (.ref c)] [] := by first | (simp [entryFrame, mkF, argsToLocals, Value.category]; done) | rfl
set_option maxRecDepth 65536 in
set_option maxHeartbeats 40000000 in
theorem m_stre {l : Launch} {Z : State} {a0 : Array Value} {n0 : Nat} (hw : ∀ d ∈ tables_1, d.before a0 Z = true) (hs : Stat Z) (a : Addr) (c : Addr) (kc : ClassId) (vs : List Value) (h0 : Heap) (E_a : Exa Z h0 a "java/lang/String") (F_a_coder : Fld Z h0 a "java/lang/String" "coder" "B" (.int (0 : Int32))) (F_a_value : Fld Z h0 a "java/lang/String" "value" "[B" .null) (V_c : Arv Z h0 c kc .char (0 : Int32) vs (.int (0 : Int32))) (ne_c_a : c ≠ a) :
    Met l Z EL0 n0 NR0 KN0 N_4 jdk_42_method_3_code 2 (Option.none : Option Jvm.ClassFile.FieldType) R_m_stre [a] #[(.ref a), (.ref c)] h0 (Q_m_stre Z a c kc vs h0) := by
  refine Met.of_go pn_m_stre (fun mid => ef_m_stre mid a c kc vs ) ?_
  intro hO hWS
  refine Go.aload_n (pc' := 1) d_jdk_42_method_3_0 rfl rfl rfl ?_
  refine Go.aload_n (pc' := 2) d_jdk_42_method_3_1 rfl rfl rfl ?_
  refine Go.iconst (pc' := 3) d_jdk_42_method_3_2 rfl ic_0 ?_
  refine Go.aload_n (pc' := 4) d_jdk_42_method_3_3 rfl rfl rfl ?_
  refine Go.lenV (pc' := 5) d_jdk_42_method_3_4 rfl V_c ?_
  refine Go.aconst_null (pc' := 6) d_jdk_42_method_3_5 rfl ?_
  refine Go.callI (pc' := 9) (z := N_3) (a := a) d_jdk_42_method_3_6 rfl rfl (w_53 hw) (w_54 hw) (w_56 hw) (by decide) (argsL := [(.ref c), (.int (0 : Int32)), (.int (0 : Int32)), .null]) (rest := []) (Pays.of_met (W := 0) (len := 3) (m_str4e hw hs a c h0 E_a F_a_coder F_a_value) (w_56 hw) (w_2 hw) (by decide) (by decide)) rfl rfl (lenOf pd_3 rfl) rfl (Nat.le_of_eq rfl) (memS (List.mem_of_getElem? (i := 0) rfl) mem0) (by decide) (by decide) ?_
  rintro _ h44 _ K45 le46 ⟨b42, q43, rfl, rfl, p47, p48, p49, p50⟩
  replace E_a := E_a.keep K45
  replace V_c := V_c.keep K45 (ninS ne_c_a nin0)
  have F_a_coder := p48
  have F_a_value := p49
  have V_b42 := p50
  change Go _ _ _ _ _ _ _ _ _ _ _ _ _ _ [a] h44 4 8 9 #[.val (.ref a), .val (.ref c)] []
  exact Go.retV d_jdk_42_method_3_9 rfl (by decide) (by decide) [] sn0 ⟨b42, q43, rfl, rfl, E_a, F_a_coder, F_a_value, V_b42⟩
abbrev R_m_coder : Room := { frames := 0, cells := 0, slots := 0, locals := 0 }
theorem pn_m_coder : plainFor (⟨"java/lang/String", "coder", "()B"⟩ : MethodName) = true := by first | (refine plainFor_of_name ?_; simp [plainName, overriddenIn]; done) | decide +kernel
abbrev Q_m_coder (Z : State) (a : Addr) (h0 : Heap) : Option Value → Heap → List Addr → Prop := fun res h' SN => res = some (.int (0 : Int32)) ∧ SN = [] ∧ h0 = h'
theorem ef_m_coder (mid : MethodId) (a : Addr) : entryFrame mid #[(.ref a)] 1 = mkF mid 0 #[.val (.ref a)] [] := by first | (simp [entryFrame, mkF, argsToLocals, Value.category]; done) | rfl
set_option maxRecDepth 65536 in
set_option maxHeartbeats 40000000 in
theorem m_coder {l : Launch} {Z : State} {a0 : Array Value} {n0 : Nat} (hw : ∀ d ∈ tables_1, d.before a0 Z = true) (hs : Stat Z) (a : Addr) (h0 : Heap) (F_a_coder : Fld Z h0 a "java/lang/String" "coder" "B" (.int (0 : Int32))) :
    Met l Z EL0 n0 NR0 KN0 N_5 jdk_42_method_152_code 1 (Option.some Jvm.ClassFile.FieldType.byte) R_m_coder [] #[(.ref a)] h0 (Q_m_coder Z a h0) := by
  refine Met.of_go pn_m_coder (fun mid => ef_m_coder mid a ) ?_
  intro hO hWS
  obtain ⟨zc, S_c, hzc⟩ := hs_c hs
  refine Go.getS (pc' := 3) d_jdk_42_method_152_0 rfl (host := "") (Or.inl (w_20 hw)) Via.refl S_c ?_
  refine Go.ifN (pc' := 6) d_jdk_42_method_152_3 rfl ((if0 _ _).trans (feq (hzc : ¬ (zc = (0 : Int32)))).1) ?_
  refine Go.aload_n (pc' := 7) d_jdk_42_method_152_6 rfl rfl rfl ?_
  refine Go.getF (pc' := 10) d_jdk_42_method_152_7 rfl (host := "") (Or.inl (w_21 hw)) Via.refl F_a_coder ?_
  refine Go.goto (pc' := 14) d_jdk_42_method_152_10 (by decide) (by decide) ?_
  exact Go.retS (ty := .byte) d_jdk_42_method_152_14 rfl (by simp) rfl (by decide) (by decide) [] sn0 ⟨rfl, rfl, rfl⟩
abbrev R_m_isL : Room := { frames := 0, cells := 0, slots := 0, locals := 0 }
theorem pn_m_isL : plainFor (⟨"java/lang/String", "isLatin1", "()Z"⟩ : MethodName) = true := by first | (refine plainFor_of_name ?_; simp [plainName, overriddenIn]; done) | decide +kernel
abbrev Q_m_isL (Z : State) (a : Addr) (h0 : Heap) : Option Value → Heap → List Addr → Prop := fun res h' SN => res = some (.int (1 : Int32)) ∧ SN = [] ∧ h0 = h'
theorem ef_m_isL (mid : MethodId) (a : Addr) : entryFrame mid #[(.ref a)] 1 = mkF mid 0 #[.val (.ref a)] [] := by first | (simp [entryFrame, mkF, argsToLocals, Value.category]; done) | rfl
set_option maxRecDepth 65536 in
set_option maxHeartbeats 40000000 in
theorem m_isL {l : Launch} {Z : State} {a0 : Array Value} {n0 : Nat} (hw : ∀ d ∈ tables_1, d.before a0 Z = true) (hs : Stat Z) (a : Addr) (h0 : Heap) (F_a_coder : Fld Z h0 a "java/lang/String" "coder" "B" (.int (0 : Int32))) :
    Met l Z EL0 n0 NR0 KN0 N_6 jdk_42_method_154_code 1 (Option.some Jvm.ClassFile.FieldType.boolean) R_m_isL [] #[(.ref a)] h0 (Q_m_isL Z a h0) := by
  refine Met.of_go pn_m_isL (fun mid => ef_m_isL mid a ) ?_
  intro hO hWS
  obtain ⟨zc, S_c, hzc⟩ := hs_c hs
  refine Go.getS (pc' := 3) d_jdk_42_method_154_0 rfl (host := "") (Or.inl (w_20 hw)) Via.refl S_c ?_
  refine Go.ifN (pc' := 6) d_jdk_42_method_154_3 rfl ((if0 _ _).trans (feq (hzc : ¬ (zc = (0 : Int32)))).1) ?_
  refine Go.aload_n (pc' := 7) d_jdk_42_method_154_6 rfl rfl rfl ?_
  refine Go.getF (pc' := 10) d_jdk_42_method_154_7 rfl (host := "") (Or.inl (w_21 hw)) Via.refl F_a_coder ?_
  refine Go.ifN (pc' := 13) d_jdk_42_method_154_10 rfl ((if0 _ _).trans (teq (rfl : (0 : Int32) = (0 : Int32))).2) ?_
  refine Go.iconst (pc' := 14) d_jdk_42_method_154_13 rfl ic_1 ?_
  refine Go.goto (pc' := 18) d_jdk_42_method_154_14 (by decide) (by decide) ?_
  exact Go.retS (ty := .boolean) d_jdk_42_method_154_18 rfl (by simp) rfl (by decide) (by decide) [] sn0 ⟨rfl, rfl, rfl⟩
abbrev R_m_length : Room := { frames := 1, cells := 0, slots := 0, locals := 13 }
theorem pn_m_length : plainFor (⟨"java/lang/String", "length", "()I"⟩ : MethodName) = true := by first | (refine plainFor_of_name ?_; simp [plainName, overriddenIn]; done) | decide +kernel
abbrev Q_m_length (Z : State) (a : Addr) (t : Addr) (kt : ClassId) (z : Int32) (vs : List Value) (h0 : Heap) : Option Value → Heap → List Addr → Prop := fun res h' SN => res = some (.int z) ∧ SN = [] ∧ h0 = h'
theorem ef_m_length (mid : MethodId) (a : Addr) (t : Addr) (kt : ClassId) (z : Int32) (vs : List Value) : entryFrame mid #[(.ref a)] 1 = mkF mid 0 #[.val (.ref a)] [] := by first | (simp [entryFrame, mkF, argsToLocals, Value.category]; done) | rfl
set_option maxRecDepth 65536 in
set_option maxHeartbeats 40000000 in
theorem m_length {l : Launch} {Z : State} {a0 : Array Value} {n0 : Nat} (hw : ∀ d ∈ tables_1, d.before a0 Z = true) (hs : Stat Z) (a : Addr) (t : Addr) (kt : ClassId) (z : Int32) (vs : List Value) (h0 : Heap) (E_a : Exa Z h0 a "java/lang/String") (F_a_coder : Fld Z h0 a "java/lang/String" "coder" "B" (.int (0 : Int32))) (F_a_value : Fld Z h0 a "java/lang/String" "value" "[B" (.ref t)) (V_t : Arv Z h0 t kt .byte z vs (.int (0 : Int32))) :
    Met l Z EL0 n0 NR0 KN0 N_7 jdk_42_method_54_code 1 (Option.some Jvm.ClassFile.FieldType.int) R_m_length [] #[(.ref a)] h0 (Q_m_length Z a t kt z vs h0) := by
  refine Met.of_go pn_m_length (fun mid => ef_m_length mid a t kt z vs ) ?_
  intro hO hWS
  refine Go.aload_n (pc' := 1) d_jdk_42_method_54_0 rfl rfl rfl ?_
  refine Go.getF (pc' := 4) d_jdk_42_method_54_1 rfl (host := "") (Or.inl (w_14 hw)) Via.refl F_a_value ?_
  refine Go.lenV (pc' := 5) d_jdk_42_method_54_4 rfl V_t ?_
  refine Go.aload_n (pc' := 6) d_jdk_42_method_54_5 rfl rfl rfl ?_
  refine Go.callV (pc' := 9) (u := N_5) (z := N_5) (a := a) d_jdk_42_method_54_6 rfl (w_15 hw) (w_16 hw) (nf (w_18 hw) rfl) (w_18 hw) (w_17 hw) (by decide) E_a (argsL := []) (rest := [(.int z)]) (Pays.of_met (W := 1) (len := 3) (m_coder hw hs a h0 F_a_coder) (w_19 hw) (w_2 hw) (by decide) (by decide)) rfl rfl (lenOf pd_4 rfl) rfl (Nat.le_of_eq rfl) mem0 (by decide) (by decide) ?_
  rintro _ _ _ - - ⟨rfl, rfl, rfl⟩
  change Go _ _ _ _ _ _ _ _ _ _ _ _ _ _ [] h0 0 0 9 #[.val (.ref a)] [(.int (0 : Int32)), (.int z)]
  refine Go.ishr (pc' := 10) d_jdk_42_method_54_9 rfl ?_
  rw [shr0]
  exact Go.retI d_jdk_42_method_54_10 rfl (by decide) (by decide) [] sn0 ⟨rfl, rfl, rfl⟩
abbrev R_m_pre : Room := { frames := 0, cells := 0, slots := 0, locals := 0 }
theorem pn_m_pre : plainFor (⟨"jdk/internal/util/Preconditions", "checkIndex", "(IILjava/util/function/BiFunction;)I"⟩ : MethodName) = true := by first | (refine plainFor_of_name ?_; simp [plainName, overriddenIn]; done) | decide +kernel
abbrev Q_m_pre (Z : State) (j : Int32) (z : Int32) (f : Value) (h0 : Heap) : Option Value → Heap → List Addr → Prop := fun res h' SN => res = some (.int j) ∧ SN = [] ∧ h0 = h'
theorem ef_m_pre (mid : MethodId) (j : Int32) (z : Int32) (f : Value) (hv_f : f.isRef = true) : entryFrame mid #[(.int j), (.int z), f] 3 = mkF mid 0 #[.val (.int j), .val (.int z), .val f] [] := by rcases ref_cases hv_f with rfl | ⟨_, rfl⟩ <;> first | (simp [entryFrame, mkF, argsToLocals, Value.category]; done) | rfl
set_option maxRecDepth 65536 in
set_option maxHeartbeats 40000000 in
theorem m_pre {l : Launch} {Z : State} {a0 : Array Value} {n0 : Nat} (hw : ∀ d ∈ tables_1, d.before a0 Z = true) (hs : Stat Z) (j : Int32) (z : Int32) (f : Value) (h0 : Heap) (hv_f : f.isRef = true) (hj : ¬ j < 0 ∧ j < z) :
    Met l Z EL0 n0 NR0 KN0 N_8 jdk_41_method_11_code 3 (Option.some Jvm.ClassFile.FieldType.int) R_m_pre [] #[(.int j), (.int z), f] h0 (Q_m_pre Z j z f h0) := by
  refine Met.of_go pn_m_pre (fun mid => ef_m_pre mid j z f hv_f) ?_
  intro hO hWS
  refine Go.iload_n (pc' := 1) d_jdk_41_method_11_0 rfl rfl ?_
  refine Go.ifN (pc' := 4) d_jdk_41_method_11_1 rfl ((if0 _ _).trans (flt (hj.1 : ¬ (j < (0 : Int32)))).1) ?_
  refine Go.iload_n (pc' := 5) d_jdk_41_method_11_4 rfl rfl ?_
  refine Go.iload_n (pc' := 6) d_jdk_41_method_11_5 rfl rfl ?_
  refine Go.icmpY (pc' := 16) d_jdk_41_method_11_6 (by decide) (by decide) (tlt (hj.2 : j < z)).1 ?_
  refine Go.iload_n (pc' := 17) d_jdk_41_method_11_16 rfl rfl ?_
  exact Go.retI d_jdk_41_method_11_17 rfl (by decide) (by decide) [] sn0 ⟨rfl, rfl, rfl⟩
abbrev R_m_chk : Room := { frames := 1, cells := 0, slots := 0, locals := 14 }
theorem pn_m_chk : plainFor (⟨"java/lang/String", "checkIndex", "(II)V"⟩ : MethodName) = true := by first | (refine plainFor_of_name ?_; simp [plainName, overriddenIn]; done) | decide +kernel
abbrev Q_m_chk (Z : State) (j : Int32) (z : Int32) (h0 : Heap) : Option Value → Heap → List Addr → Prop := fun res h' SN => res = none ∧ SN = [] ∧ h0 = h'
theorem ef_m_chk (mid : MethodId) (j : Int32) (z : Int32) : entryFrame mid #[(.int j), (.int z)] 2 = mkF mid 0 #[.val (.int j), .val (.int z)] [] := by first | (simp [entryFrame, mkF, argsToLocals, Value.category]; done) | rfl
set_option maxRecDepth 65536 in
set_option maxHeartbeats 40000000 in
theorem m_chk {l : Launch} {Z : State} {a0 : Array Value} {n0 : Nat} (hw : ∀ d ∈ tables_1, d.before a0 Z = true) (hs : Stat Z) (j : Int32) (z : Int32) (h0 : Heap) (hj : ¬ j < 0 ∧ j < z) :
    Met l Z EL0 n0 NR0 KN0 N_9 jdk_42_method_155_code 2 (Option.none : Option Jvm.ClassFile.FieldType) R_m_chk [] #[(.int j), (.int z)] h0 (Q_m_chk Z j z h0) := by
  refine Met.of_go pn_m_chk (fun mid => ef_m_chk mid j z ) ?_
  intro hO hWS
  obtain ⟨fm, S_f, hv_fm⟩ := hs_f hs
  refine Go.iload_n (pc' := 1) d_jdk_42_method_155_0 rfl rfl ?_
  refine Go.iload_n (pc' := 2) d_jdk_42_method_155_1 rfl rfl ?_
  refine Go.getS (pc' := 5) d_jdk_42_method_155_2 rfl (host := "") (Or.inl (w_44 hw)) Via.refl S_f ?_
  refine Go.callS (pc' := 8) (z := N_8) d_jdk_42_method_155_5 rfl (w_46 hw) (w_47 hw) (w_45 hw) (w_48 hw) (by decide) (argsL := [(.int j), (.int z), fm]) (rest := []) (Pays.of_met (W := 0) (len := 3) (m_pre hw hs j z fm h0 hv_fm (hj)) (w_48 hw) (w_45 hw) (by decide) (by decide)) rfl rfl (lenOf pd_5 rfl) rfl (Nat.le_of_eq rfl) mem0 (by decide) (by decide) ?_
  rintro _ _ _ - - ⟨rfl, rfl, rfl⟩
  change Go _ _ _ _ _ _ _ _ _ _ _ _ _ _ [] h0 0 0 8 #[.val (.int j), .val (.int z)] [(.int j)]
  refine Go.pop (pc' := 9) d_jdk_42_method_155_8 rfl rfl ?_
  exact Go.retV d_jdk_42_method_155_9 rfl (by decide) (by decide) [] sn0 ⟨rfl, rfl, rfl⟩
abbrev R_m_l1c : Room := { frames := 2, cells := 0, slots := 0, locals := 27 }
theorem pn_m_l1c : plainFor (⟨"java/lang/StringLatin1", "charAt", "([BI)C"⟩ : MethodName) = true := by first | (refine plainFor_of_name ?_; simp [plainName, overriddenIn]; done) | decide +kernel
abbrev Q_m_l1c (Z : State) (t : Addr) (kt : ClassId) (z : Int32) (vs : List Value) (j : Int32) (u : Int32) (h0 : Heap) : Option Value → Heap → List Addr → Prop := fun res h' SN => res = some (.int (u &&& (255 : Int32)).toUInt32.toUInt16.toUInt32.toInt32) ∧ SN = [] ∧ h0 = h'
theorem ef_m_l1c (mid : MethodId) (t : Addr) (kt : ClassId) (z : Int32) (vs : List Value) (j : Int32) (u : Int32) : entryFrame mid #[(.ref t), (.int j)] 2 = mkF mid 0 #[.val (.ref t), .val (.int j)] [] := by first | (simp [entryFrame, mkF, argsToLocals, Value.category]; done) | rfl
set_option maxRecDepth 65536 in
set_option maxHeartbeats 40000000 in
theorem m_l1c {l : Launch} {Z : State} {a0 : Array Value} {n0 : Nat} (hw : ∀ d ∈ tables_1, d.before a0 Z = true) (hs : Stat Z) (t : Addr) (kt : ClassId) (z : Int32) (vs : List Value) (j : Int32) (u : Int32) (h0 : Heap) (V_t : Arv Z h0 t kt .byte z vs (.int (0 : Int32))) (hj : ¬ j < 0 ∧ j < z) (hu : vs.getD j.toNatClampNeg (.int (0 : Int32)) = .int u) :
    Met l Z EL0 n0 NR0 KN0 N_10 jdk_43_method_2_code 2 (Option.some Jvm.ClassFile.FieldType.char) R_m_l1c [] #[(.ref t), (.int j)] h0 (Q_m_l1c Z t kt z vs j u h0) := by
  refine Met.of_go pn_m_l1c (fun mid => ef_m_l1c mid t kt z vs j u ) ?_
  intro hO hWS
  refine Go.iload_n (pc' := 1) d_jdk_43_method_2_0 rfl rfl ?_
  refine Go.aload_n (pc' := 2) d_jdk_43_method_2_1 rfl rfl rfl ?_
  refine Go.lenV (pc' := 3) d_jdk_43_method_2_2 rfl V_t ?_
  refine Go.callS (pc' := 6) (z := N_9) d_jdk_43_method_2_3 rfl (w_41 hw) (w_42 hw) (w_2 hw) (w_43 hw) (by decide) (argsL := [(.int j), (.int z)]) (rest := []) (Pays.of_met (W := 0) (len := 3) (m_chk hw hs j z h0 (hj)) (w_43 hw) (w_2 hw) (by decide) (by decide)) rfl rfl (lenOf pd_6 rfl) rfl (Nat.le_of_eq rfl) mem0 (by decide) (by decide) ?_
  rintro _ _ _ - - ⟨rfl, rfl, rfl⟩
  change Go _ _ _ _ _ _ _ _ _ _ _ _ _ _ [] h0 0 0 6 #[.val (.ref t), .val (.int j)] []
  refine Go.aload_n (pc' := 7) d_jdk_43_method_2_6 rfl rfl rfl ?_
  refine Go.iload_n (pc' := 8) d_jdk_43_method_2_7 rfl rfl ?_
  refine Go.baloadV (pc' := 9) (v := (.int u)) d_jdk_43_method_2_8 rfl V_t hj hu ?_
  refine Go.sipush (pc' := 12) d_jdk_43_method_2_9 rfl ics_255 ?_
  refine Go.iand (pc' := 13) d_jdk_43_method_2_12 rfl ?_
  refine Go.i2c (pc' := 14) d_jdk_43_method_2_13 rfl ?_
  exact Go.retS (ty := .char) d_jdk_43_method_2_14 rfl (by simp) (own_narc u) (by decide) (by decide) [] sn0 ⟨rfl, rfl, rfl⟩
abbrev R_m_charAt : Room := { frames := 3, cells := 0, slots := 0, locals := 40 }
theorem pn_m_charAt : plainFor (⟨"java/lang/String", "charAt", "(I)C"⟩ : MethodName) = true := by first | (refine plainFor_of_name ?_; simp [plainName, overriddenIn]; done) | decide +kernel
abbrev Q_m_charAt (Z : State) (a : Addr) (t : Addr) (kt : ClassId) (z : Int32) (vs : List Value) (j : Int32) (u : Int32) (h0 : Heap) : Option Value → Heap → List Addr → Prop := fun res h' SN => res = some (.int (u &&& (255 : Int32)).toUInt32.toUInt16.toUInt32.toInt32) ∧ SN = [] ∧ h0 = h'
theorem ef_m_charAt (mid : MethodId) (a : Addr) (t : Addr) (kt : ClassId) (z : Int32) (vs : List Value) (j : Int32) (u : Int32) : entryFrame mid #[(.ref a), (.int j)] 2 = mkF mid 0 #[.val (.ref a), .val (.int j)] [] := by first | (simp [entryFrame, mkF, argsToLocals, Value.category]; done) | rfl
set_option maxRecDepth 65536 in
set_option maxHeartbeats 40000000 in
theorem m_charAt {l : Launch} {Z : State} {a0 : Array Value} {n0 : Nat} (hw : ∀ d ∈ tables_1, d.before a0 Z = true) (hs : Stat Z) (a : Addr) (t : Addr) (kt : ClassId) (z : Int32) (vs : List Value) (j : Int32) (u : Int32) (h0 : Heap) (E_a : Exa Z h0 a "java/lang/String") (F_a_coder : Fld Z h0 a "java/lang/String" "coder" "B" (.int (0 : Int32))) (F_a_value : Fld Z h0 a "java/lang/String" "value" "[B" (.ref t)) (V_t : Arv Z h0 t kt .byte z vs (.int (0 : Int32))) (hj : ¬ j < 0 ∧ j < z) (hu : vs.getD j.toNatClampNeg (.int (0 : Int32)) = .int u) :
    Met l Z EL0 n0 NR0 KN0 N_11 jdk_42_method_56_code 2 (Option.some Jvm.ClassFile.FieldType.char) R_m_charAt [] #[(.ref a), (.int j)] h0 (Q_m_charAt Z a t kt z vs j u h0) := by
  refine Met.of_go pn_m_charAt (fun mid => ef_m_charAt mid a t kt z vs j u ) ?_
  intro hO hWS
  refine Go.aload_n (pc' := 1) d_jdk_42_method_56_0 rfl rfl rfl ?_
  refine Go.callV (pc' := 4) (u := N_6) (z := N_6) (a := a) d_jdk_42_method_56_1 rfl (w_32 hw) (w_33 hw) (nf (w_35 hw) rfl) (w_35 hw) (w_34 hw) (by decide) E_a (argsL := []) (rest := []) (Pays.of_met (W := 0) (len := 3) (m_isL hw hs a h0 F_a_coder) (w_36 hw) (w_2 hw) (by decide) (by decide)) rfl rfl (lenOf pd_7 rfl) rfl (Nat.le_of_eq rfl) mem0 (by decide) (by decide) ?_
  rintro _ _ _ - - ⟨rfl, rfl, rfl⟩
  change Go _ _ _ _ _ _ _ _ _ _ _ _ _ _ [] h0 0 0 4 #[.val (.ref a), .val (.int j)] [(.int (1 : Int32))]
  refine Go.ifN (pc' := 7) d_jdk_42_method_56_4 rfl ((if0 _ _).trans (feq (by decide : ¬ ((1 : Int32) = (0 : Int32)))).1) ?_
  refine Go.aload_n (pc' := 8) d_jdk_42_method_56_7 rfl rfl rfl ?_
  refine Go.getF (pc' := 11) d_jdk_42_method_56_8 rfl (host := "") (Or.inl (w_14 hw)) Via.refl F_a_value ?_
  refine Go.iload_n (pc' := 12) d_jdk_42_method_56_11 rfl rfl ?_
  refine Go.callS (pc' := 15) (z := N_10) d_jdk_42_method_56_12 rfl (w_37 hw) (w_38 hw) (w_39 hw) (w_40 hw) (by decide) (argsL := [(.ref t), (.int j)]) (rest := []) (Pays.of_met (W := 0) (len := 3) (m_l1c hw hs t kt z vs j u h0 V_t (hj) (hu)) (w_40 hw) (w_39 hw) (by decide) (by decide)) rfl rfl (lenOf pd_8 rfl) rfl (Nat.le_of_eq rfl) mem0 (by decide) (by decide) ?_
  rintro _ _ _ - - ⟨rfl, rfl, rfl⟩
  change Go _ _ _ _ _ _ _ _ _ _ _ _ _ _ [] h0 0 0 15 #[.val (.ref a), .val (.int j)] [(.int (u &&& (255 : Int32)).toUInt32.toUInt16.toUInt32.toInt32)]
  exact Go.retS (ty := .char) d_jdk_42_method_56_15 rfl (by simp) (own_narc u) (by decide) (by decide) [] sn0 ⟨rfl, rfl, rfl⟩
abbrev RL_l1e : Room := { frames := 0, cells := 0, slots := 0, locals := 0 }
set_option maxRecDepth 65536 in
set_option maxHeartbeats 40000000 in
theorem m_l1e_loop {l : Launch} {Z : State} {n0 : Nat} {h0 : Heap} {Q : Option Value → Heap → List Addr → Prop} {t s : Addr} {kt ks : ClassId} {us ws : List Int32} {z : Int32} (hz : z.toNatClampNeg = us.length) (hl : us.length = ws.length) (V_t : Arv Z h0 t kt .byte z (us.map Value.int) (.int (0 : Int32))) (V_s : Arv Z h0 s ks .byte z (ws.map Value.int) (.int (0 : Int32))) (hQ : Q (some (.int (own_eqb us ws))) h0 []) :
    ∀ (m i : Nat), i + m = us.length → us.take i = ws.take i → Go l Z EL0 n0 NR0 KN0 N_12 jdk_43_method_13_code 3 (Option.some Jvm.ClassFile.FieldType.boolean) RL_l1e h0 [] Q [] h0 0 0 9 #[.val (.ref t), .val (.ref s), .val (.int (Int32.ofNat i))] [] := by
  intro m
  induction m with
  | zero =>
    intro i hi ht
    obtain rfl : i = us.length := by omega
    have zn := arv_nn V_t
    have q := (back32 zn).2
    have e : us = ws := by rw [List.take_length, hl, List.take_length] at ht; exact ht
    rw [own_eqb_pos e] at hQ
    refine Go.iload_n (pc' := 10) d_jdk_43_method_13_9 rfl rfl ?_
    refine Go.aload_n (pc' := 11) d_jdk_43_method_13_10 rfl rfl rfl ?_
    refine Go.lenV (pc' := 12) d_jdk_43_method_13_11 rfl V_t ?_
    refine Go.icmpY (pc' := 32) d_jdk_43_method_13_12 (by decide) (by decide) (flt (ofNat_ge zn (by omega) (Nat.le_of_eq hz) : ¬ ((Int32.ofNat us.length) < z))).2.1 ?_
    refine Go.iconst (pc' := 33) d_jdk_43_method_13_32 rfl ic_1 ?_
    exact Go.retS (ty := .boolean) d_jdk_43_method_13_33 rfl (by simp) rfl (by decide) (by decide) [] sn0 hQ
  | succ m ih =>
    intro i hi ht
    have zn := arv_nn V_t
    have q := (back32 zn).2
    have hi2 : i < us.length := by omega
    have ci := ofNat_clamp (i := i) (by omega)
    have nn := ofNat_nn (i := i) (by omega)
    have lt := ofNat_lt (i := i) zn (by omega)
    refine Go.iload_n (pc' := 10) d_jdk_43_method_13_9 rfl rfl ?_
    refine Go.aload_n (pc' := 11) d_jdk_43_method_13_10 rfl rfl rfl ?_
    refine Go.lenV (pc' := 12) d_jdk_43_method_13_11 rfl V_t ?_
    refine Go.icmpN (pc' := 15) d_jdk_43_method_13_12 rfl (tlt (lt : (Int32.ofNat i) < z)).2.1 ?_
    refine Go.aload_n (pc' := 16) d_jdk_43_method_13_15 rfl rfl rfl ?_
    refine Go.iload_n (pc' := 17) d_jdk_43_method_13_16 rfl rfl ?_
    refine Go.baloadV (pc' := 18) (v := (.int (us.getD i 0))) d_jdk_43_method_13_17 rfl V_t ⟨nn, lt⟩ (by rw [ci]; exact getD_int us i) ?_
    refine Go.aload_n (pc' := 19) d_jdk_43_method_13_18 rfl rfl rfl ?_
    refine Go.iload_n (pc' := 20) d_jdk_43_method_13_19 rfl rfl ?_
    refine Go.baloadV (pc' := 21) (v := (.int (ws.getD i 0))) d_jdk_43_method_13_20 rfl V_s ⟨nn, lt⟩ (by rw [ci]; exact getD_int ws i) ?_
    by_cases h1 : (us.getD i 0) = (ws.getD i 0)
    · skip
      refine Go.icmpY (pc' := 26) d_jdk_43_method_13_21 (by decide) (by decide) (teq (h1 : (us.getD i 0) = (ws.getD i 0))).1 ?_
      refine Go.iinc (pc' := 29) (Ls' := #[.val (.ref t), .val (.ref s), .val (.int ((Int32.ofNat i) + (1 : Int32)))]) d_jdk_43_method_13_26 rfl ic_1 rfl rfl ?_
      refine Go.goto (pc' := 9) d_jdk_43_method_13_29 (by decide) (by decide) ?_
      rw [ofNat_succ i]
      exact ih (i + 1) (by omega) (own_take_succ hi2 (by omega) ht h1)
    · skip
      refine Go.icmpN (pc' := 24) d_jdk_43_method_13_21 rfl (feq (h1 : ¬ ((us.getD i 0) = (ws.getD i 0)))).1 ?_
      refine Go.iconst (pc' := 25) d_jdk_43_method_13_24 rfl ic_0 ?_
      rw [own_eqb_neg (fun e => h1 (by rw [e]))] at hQ
      exact Go.retS (ty := .boolean) d_jdk_43_method_13_25 rfl (by simp) rfl (by decide) (by decide) [] sn0 hQ
abbrev R_m_l1e : Room := { frames := 0, cells := 0, slots := 0, locals := 0 }
theorem pn_m_l1e : plainFor (⟨"java/lang/StringLatin1", "equals", "([B[B)Z"⟩ : MethodName) = true := by first | (refine plainFor_of_name ?_; simp [plainName, overriddenIn]; done) | decide +kernel
abbrev Q_m_l1e (Z : State) (t : Addr) (s : Addr) (kt : ClassId) (ks : ClassId) (us : List Int32) (ws : List Int32) (z : Int32) (z2 : Int32) (h0 : Heap) : Option Value → Heap → List Addr → Prop := fun res h' SN => res = some (.int (own_eqb us ws)) ∧ SN = [] ∧ h0 = h'
theorem ef_m_l1e (mid : MethodId) (t : Addr) (s : Addr) (kt : ClassId) (ks : ClassId) (us : List Int32) (ws : List Int32) (z : Int32) (z2 : Int32) : entryFrame mid #[(.ref t), (.ref s)] 3 = mkF mid 0 #[.val (.ref t), .val (.ref s), .unset] [] := by first | (simp [entryFrame, mkF, argsToLocals, Value.category]; done) | rfl
set_option maxRecDepth 65536 in
set_option maxHeartbeats 40000000 in
theorem m_l1e {l : Launch} {Z : State} {a0 : Array Value} {n0 : Nat} (hw : ∀ d ∈ tables_1, d.before a0 Z = true) (hs : Stat Z) (t : Addr) (s : Addr) (kt : ClassId) (ks : ClassId) (us : List Int32) (ws : List Int32) (z : Int32) (z2 : Int32) (h0 : Heap) (V_t : Arv Z h0 t kt .byte z (us.map Value.int) (.int (0 : Int32))) (V_s : Arv Z h0 s ks .byte z2 (ws.map Value.int) (.int (0 : Int32))) (hz : z.toNatClampNeg = us.length) (hw2 : z2.toNatClampNeg = ws.length) :
    Met l Z EL0 n0 NR0 KN0 N_12 jdk_43_method_13_code 3 (Option.some Jvm.ClassFile.FieldType.boolean) R_m_l1e [] #[(.ref t), (.ref s)] h0 (Q_m_l1e Z t s kt ks us ws z z2 h0) := by
  refine Met.of_go pn_m_l1e (fun mid => ef_m_l1e mid t s kt ks us ws z z2 ) ?_
  intro hO hWS
  refine Go.aload_n (pc' := 1) d_jdk_43_method_13_0 rfl rfl rfl ?_
  refine Go.lenV (pc' := 2) d_jdk_43_method_13_1 rfl V_t ?_
  refine Go.aload_n (pc' := 3) d_jdk_43_method_13_2 rfl rfl rfl ?_
  refine Go.lenV (pc' := 4) d_jdk_43_method_13_3 rfl V_s ?_
  by_cases h1 : z = z2
  · skip
    refine Go.icmpN (pc' := 7) d_jdk_43_method_13_4 rfl (teq (h1 : z = z2)).2 ?_
    subst h1
    refine Go.iconst (pc' := 8) d_jdk_43_method_13_7 rfl ic_0 ?_
    refine Go.istore_n (pc' := 9) (Ls' := #[.val (.ref t), .val (.ref s), .val (.int (0 : Int32))]) d_jdk_43_method_13_8 rfl rfl ?_
    exact m_l1e_loop hz (by rw [← hz, ← hw2]) V_t V_s ⟨rfl, rfl, rfl⟩ us.length 0 (by omega) rfl
  · skip
    refine Go.icmpY (pc' := 34) d_jdk_43_method_13_4 (by decide) (by decide) (feq (h1 : ¬ (z = z2))).2 ?_
    refine Go.iconst (pc' := 35) d_jdk_43_method_13_34 rfl ic_0 ?_
    exact Go.retS (ty := .boolean) d_jdk_43_method_13_35 rfl (by simp) rfl (by decide) (by decide) [] sn0 ⟨by rw [own_eqb_neg (fun e => h1 (own_clamp_inj (arv_nn V_t) (arv_nn V_s) (by rw [hz, hw2, e])))], rfl, rfl⟩
abbrev R_m_seq : Room := { frames := 1, cells := 0, slots := 0, locals := 14 }
theorem pn_m_seq : plainFor (⟨"java/lang/String", "equals", "(Ljava/lang/Object;)Z"⟩ : MethodName) = true := by first | (refine plainFor_of_name ?_; simp [plainName, overriddenIn]; done) | decide +kernel
abbrev Q_m_seq (Z : State) (a : Addr) (b : Addr) (t : Addr) (s : Addr) (kt : ClassId) (ks : ClassId) (us : List Int32) (ws : List Int32) (z : Int32) (z2 : Int32) (h0 : Heap) : Option Value → Heap → List Addr → Prop := fun res h' SN => res = some (.int (own_eqb us ws)) ∧ SN = [] ∧ h0 = h'
theorem ef_m_seq (mid : MethodId) (a : Addr) (b : Addr) (t : Addr) (s : Addr) (kt : ClassId) (ks : ClassId) (us : List Int32) (ws : List Int32) (z : Int32) (z2 : Int32) : entryFrame mid #[(.ref a), (.ref b)] 3 = mkF mid 0 #[.val (.ref a), .val (.ref b), .unset] [] := by first | (simp [entryFrame, mkF, argsToLocals, Value.category]; done) | rfl
set_option maxRecDepth 65536 in
set_option maxHeartbeats 40000000 in
theorem m_seq {l : Launch} {Z : State} {a0 : Array Value} {n0 : Nat} (hw : ∀ d ∈ tables_1, d.before a0 Z = true) (hs : Stat Z) (a : Addr) (b : Addr) (t : Addr) (s : Addr) (kt : ClassId) (ks : ClassId) (us : List Int32) (ws : List Int32) (z : Int32) (z2 : Int32) (h0 : Heap) (E_a : Exa Z h0 a "java/lang/String") (F_a_coder : Fld Z h0 a "java/lang/String" "coder" "B" (.int (0 : Int32))) (F_a_value : Fld Z h0 a "java/lang/String" "value" "[B" (.ref t)) (V_t : Arv Z h0 t kt .byte z (us.map Value.int) (.int (0 : Int32))) (E_b : Exa Z h0 b "java/lang/String") (F_b_coder : Fld Z h0 b "java/lang/String" "coder" "B" (.int (0 : Int32))) (F_b_value : Fld Z h0 b "java/lang/String" "value" "[B" (.ref s)) (V_s : Arv Z h0 s ks .byte z2 (ws.map Value.int) (.int (0 : Int32))) (hz : z.toNatClampNeg = us.length) (hw2 : z2.toNatClampNeg = ws.length) :
    Met l Z EL0 n0 NR0 KN0 N_13 jdk_42_method_66_code 3 (Option.some Jvm.ClassFile.FieldType.boolean) R_m_seq [] #[(.ref a), (.ref b)] h0 (Q_m_seq Z a b t s kt ks us ws z z2 h0) := by
  refine Met.of_go pn_m_seq (fun mid => ef_m_seq mid a b t s kt ks us ws z z2 ) ?_
  intro hO hWS
  obtain ⟨zc, S_c, hzc⟩ := hs_c hs
  refine Go.aload_n (pc' := 1) d_jdk_42_method_66_0 rfl rfl rfl ?_
  refine Go.aload_n (pc' := 2) d_jdk_42_method_66_1 rfl rfl rfl ?_
  by_cases hab : a = b
  · skip
    refine Go.acmp (pc' := 5) (same := true) d_jdk_42_method_66_2 rfl rfl (decide_eq_true (by rw [hab])) (by decide) (by decide) ?_
    refine Go.iconst (pc' := 6) d_jdk_42_method_66_5 rfl ic_1 ?_
    subst hab
    obtain rfl := own_fld_uniq F_a_value F_b_value
    exact Go.retS (ty := .boolean) d_jdk_42_method_66_6 rfl (by simp) rfl (by decide) (by decide) [] sn0 ⟨by rw [own_eqb_pos (own_arv_uniq V_t V_s hz hw2)], rfl, rfl⟩
  · skip
    refine Go.acmp (pc' := 7) (same := false) d_jdk_42_method_66_2 rfl rfl (decide_eq_false (fun e => hab (Value.ref.inj e))) (by decide) (by decide) ?_
    refine Go.aload_n (pc' := 8) d_jdk_42_method_66_7 rfl rfl rfl ?_
    refine Go.instY (pc' := 11) d_jdk_42_method_66_8 rfl (w_99 hw) (Ins.self E_b) ?_
    refine Go.ifN (pc' := 14) d_jdk_42_method_66_11 rfl ((if0 _ _).trans (feq (by decide : ¬ ((1 : Int32) = (0 : Int32)))).1) ?_
    refine Go.aload_n (pc' := 15) d_jdk_42_method_66_14 rfl rfl rfl ?_
    refine Go.castY (pc' := 18) d_jdk_42_method_66_15 rfl (w_99 hw) (Ins.self E_b) ?_
    refine Go.astore_n (pc' := 19) (Ls' := #[.val (.ref a), .val (.ref b), .val (.ref b)]) d_jdk_42_method_66_18 rfl rfl rfl ?_
    refine Go.getS (pc' := 22) d_jdk_42_method_66_19 rfl (host := "") (Or.inl (w_20 hw)) Via.refl S_c ?_
    refine Go.ifN (pc' := 25) d_jdk_42_method_66_22 rfl ((if0 _ _).trans (feq (hzc : ¬ (zc = (0 : Int32)))).1) ?_
    refine Go.aload_n (pc' := 26) d_jdk_42_method_66_25 rfl rfl rfl ?_
    refine Go.getF (pc' := 29) d_jdk_42_method_66_26 rfl (host := "") (Or.inl (w_21 hw)) Via.refl F_a_coder ?_
    refine Go.aload_n (pc' := 30) d_jdk_42_method_66_29 rfl rfl rfl ?_
    refine Go.getF (pc' := 33) d_jdk_42_method_66_30 rfl (host := "") (Or.inl (w_21 hw)) Via.refl F_b_coder ?_
    refine Go.icmpN (pc' := 36) d_jdk_42_method_66_33 rfl (teq (rfl : (0 : Int32) = (0 : Int32))).2 ?_
    refine Go.aload_n (pc' := 37) d_jdk_42_method_66_36 rfl rfl rfl ?_
    refine Go.getF (pc' := 40) d_jdk_42_method_66_37 rfl (host := "") (Or.inl (w_14 hw)) Via.refl F_a_value ?_
    refine Go.aload_n (pc' := 41) d_jdk_42_method_66_40 rfl rfl rfl ?_
    refine Go.getF (pc' := 44) d_jdk_42_method_66_41 rfl (host := "") (Or.inl (w_14 hw)) Via.refl F_b_value ?_
    refine Go.callS (pc' := 47) (z := N_12) d_jdk_42_method_66_44 rfl (w_100 hw) (w_101 hw) (w_39 hw) (w_102 hw) (by decide) (argsL := [(.ref t), (.ref s)]) (rest := []) (Pays.of_met (W := 0) (len := 3) (m_l1e hw hs t s kt ks us ws z z2 h0 V_t V_s (hz) (hw2)) (w_102 hw) (w_39 hw) (by decide) (by decide)) rfl rfl (lenOf pd_9 rfl) rfl (Nat.le_of_eq rfl) mem0 (by decide) (by decide) ?_
    rintro _ _ _ - - ⟨rfl, rfl, rfl⟩
    change Go _ _ _ _ _ _ _ _ _ _ _ _ _ _ [] h0 0 0 47 #[.val (.ref a), .val (.ref b), .val (.ref b)] [(.int (own_eqb us ws))]
    by_cases h1 : (own_eqb us ws) = (0 : Int32)
    · skip
      refine Go.ifY (pc' := 54) d_jdk_42_method_66_47 (by decide) (by decide) ((if0 _ _).trans (teq (h1 : (own_eqb us ws) = (0 : Int32))).1) ?_
      refine Go.iconst (pc' := 55) d_jdk_42_method_66_54 rfl ic_0 ?_
      exact Go.retS (ty := .boolean) d_jdk_42_method_66_55 rfl (by simp) rfl (by decide) (by decide) [] sn0 ⟨by rw [h1], rfl, rfl⟩
    · skip
      refine Go.ifN (pc' := 50) d_jdk_42_method_66_47 rfl ((if0 _ _).trans (feq (h1 : ¬ ((own_eqb us ws) = (0 : Int32)))).1) ?_
      refine Go.iconst (pc' := 51) d_jdk_42_method_66_50 rfl ic_1 ?_
      refine Go.goto (pc' := 55) d_jdk_42_method_66_51 (by decide) (by decide) ?_
      exact Go.retS (ty := .boolean) d_jdk_42_method_66_55 rfl (by simp) rfl (by decide) (by decide) [] sn0 ⟨by rw [own_eqb_pos (own_eqb1 h1)], rfl, rfl⟩
abbrev R_m_rnn : Room := { frames := 0, cells := 0, slots := 0, locals := 0 }
theorem pn_m_rnn : plainFor (⟨"java/util/Objects", "requireNonNull", "(Ljava/lang/Object;)Ljava/lang/Object;"⟩ : MethodName) = true := by first | (refine plainFor_of_name ?_; simp [plainName, overriddenIn]; done) | decide +kernel
abbrev Q_m_rnn (Z : State) (y : Addr) (h0 : Heap) : Option Value → Heap → List Addr → Prop := fun res h' SN => res = some (.ref y) ∧ SN = [] ∧ h0 = h'
theorem ef_m_rnn (mid : MethodId) (y : Addr) : entryFrame mid #[(.ref y)] 1 = mkF mid 0 #[.val (.ref y)] [] := by first | (simp [entryFrame, mkF, argsToLocals, Value.category]; done) | rfl
set_option maxRecDepth 65536 in
set_option maxHeartbeats 40000000 in
theorem m_rnn {l : Launch} {Z : State} {a0 : Array Value} {n0 : Nat} (hw : ∀ d ∈ tables_1, d.before a0 Z = true) (hs : Stat Z) (y : Addr) (h0 : Heap) :
    Met l Z EL0 n0 NR0 KN0 N_14 jdk_31_method_10_code 1 (Option.some (Jvm.ClassFile.FieldType.object "java/lang/Object")) R_m_rnn [] #[(.ref y)] h0 (Q_m_rnn Z y h0) := by
  refine Met.of_go pn_m_rnn (fun mid => ef_m_rnn mid y ) ?_
  intro hO hWS
  refine Go.aload_n (pc' := 1) d_jdk_31_method_10_0 rfl rfl rfl ?_
  refine Go.ifnonnullY (pc' := 12) d_jdk_31_method_10_1 (by decide) (by decide) ?_
  refine Go.aload_n (pc' := 13) d_jdk_31_method_10_12 rfl rfl rfl ?_
  exact Go.retA d_jdk_31_method_10_13 rfl rfl rfl (by decide) (by decide) [] sn0 ⟨rfl, rfl, rfl⟩
abbrev R_m_oinit : Room := { frames := 1, cells := 0, slots := 0, locals := 12 }
theorem pn_m_oinit : plainFor (⟨"java/util/Optional", "<init>", "(Ljava/lang/Object;)V"⟩ : MethodName) = true := by first | (refine plainFor_of_name ?_; simp [plainName, overriddenIn]; done) | decide +kernel
abbrev Q_m_oinit (Z : State) (o : Addr) (v : Addr) (h0 : Heap) : Option Value → Heap → List Addr → Prop := fun res h' SN => res = none ∧ SN = [] ∧ Exa Z h' o "java/util/Optional" ∧ Fld Z h' o "java/util/Optional" "value" "Ljava/lang/Object;" (.ref v)
theorem ef_m_oinit (mid : MethodId) (o : Addr) (v : Addr) : entryFrame mid #[(.ref o), (.ref v)] 2 = mkF mid 0 #[.val (.ref o), .val (.ref v)] [] := by first | (simp [entryFrame, mkF, argsToLocals, Value.category]; done) | rfl
set_option maxRecDepth 65536 in
set_option maxHeartbeats 40000000 in
theorem m_oinit {l : Launch} {Z : State} {a0 : Array Value} {n0 : Nat} (hw : ∀ d ∈ tables_1, d.before a0 Z = true) (hs : Stat Z) (o : Addr) (v : Addr) (h0 : Heap) (E_o : Exa Z h0 o "java/util/Optional") (F_o_value : Fld Z h0 o "java/util/Optional" "value" "Ljava/lang/Object;" .null) :
    Met l Z EL0 n0 NR0 KN0 N_15 jdk_32_method_2_code 2 (Option.none : Option Jvm.ClassFile.FieldType) R_m_oinit [o] #[(.ref o), (.ref v)] h0 (Q_m_oinit Z o v h0) := by
  refine Met.of_go pn_m_oinit (fun mid => ef_m_oinit mid o v ) ?_
  intro hO hWS
  refine Go.aload_n (pc' := 1) d_jdk_32_method_2_0 rfl rfl rfl ?_
  refine Go.initO (pc' := 4) (W := 0) d_jdk_32_method_2_1 rfl (w_117 hw) (w_58 hw) (w_59 hw) rfl (by decide) (Nat.le_of_eq rfl) (by decide) ?_
  refine Go.aload_n (pc' := 5) d_jdk_32_method_2_4 rfl rfl rfl ?_
  refine Go.aload_n (pc' := 6) d_jdk_32_method_2_5 rfl rfl rfl ?_
  refine Go.putF (pc' := 9) d_jdk_32_method_2_6 rfl (List.mem_of_getElem? (i := 0) rfl) (host := "") (Or.inl (w_118 hw)) Via.refl F_o_value E_o (Or.inr ⟨(w_119 hw), rfl, rfl⟩) (w_108 hw) (ty := (.object "java/lang/Object")) (by decide) rfl rfl ?_
  intro h51 W52
  replace F_o_value := F_o_value.same W52
  replace E_o := E_o.wr W52
  change Go _ _ _ _ _ _ _ _ _ _ _ _ _ _ [o] h51 0 0 9 #[.val (.ref o), .val (.ref v)] []
  exact Go.retV d_jdk_32_method_2_9 rfl (by decide) (by decide) [] sn0 ⟨rfl, rfl, E_o, F_o_value⟩
abbrev R_m_oof : Room := { frames := 2, cells := 1, slots := 1, locals := 26 }
theorem pn_m_oof : plainFor (⟨"java/util/Optional", "of", "(Ljava/lang/Object;)Ljava/util/Optional;"⟩ : MethodName) = true := by first | (refine plainFor_of_name ?_; simp [plainName, overriddenIn]; done) | decide +kernel
abbrev Q_m_oof (Z : State) (v : Addr) (h0 : Heap) : Option Value → Heap → List Addr → Prop := fun res h' SN => ∃ (o : Addr), res = some (.ref o) ∧ SN = [] ∧ Exa Z h' o "java/util/Optional" ∧ Fld Z h' o "java/util/Optional" "value" "Ljava/lang/Object;" (.ref v)
theorem ef_m_oof (mid : MethodId) (v : Addr) : entryFrame mid #[(.ref v)] 1 = mkF mid 0 #[.val (.ref v)] [] := by first | (simp [entryFrame, mkF, argsToLocals, Value.category]; done) | rfl
set_option maxRecDepth 65536 in
set_option maxHeartbeats 40000000 in
theorem m_oof {l : Launch} {Z : State} {a0 : Array Value} {n0 : Nat} (hw : ∀ d ∈ tables_1, d.before a0 Z = true) (hs : Stat Z) (v : Addr) (h0 : Heap) :
    Met l Z EL0 n0 NR0 KN0 N_16 jdk_32_method_3_code 1 (Option.some (Jvm.ClassFile.FieldType.object "java/util/Optional")) R_m_oof [] #[(.ref v)] h0 (Q_m_oof Z v h0) := by
  refine Met.of_go pn_m_oof (fun mid => ef_m_oof mid v ) ?_
  intro hO hWS
  refine Go.newO (pc' := 3) d_jdk_32_method_3_0 rfl (w_107 hw) (w_108 hw) (w_105 hw) (by decide) (by decide) ?_
  intro h53 b54 g55 ge_b54 x56 E_b54 D_b54 U_b54
  have F_b54_value : Fld Z h53 b54 "java/util/Optional" "value" "Ljava/lang/Object;" .null := D_b54 (Or.inr (w_119 hw)) (ty := (.object "java/lang/Object")) (by decide)
  change Go _ _ _ _ _ _ _ _ _ _ _ _ _ _ [b54] h53 1 1 3 #[.val (.ref v)] [(.ref b54)]
  refine Go.dup (pc' := 4) d_jdk_32_method_3_3 rfl rfl ?_
  refine Go.aload_n (pc' := 5) d_jdk_32_method_3_4 rfl rfl rfl ?_
  refine Go.callS (pc' := 8) (z := N_14) d_jdk_32_method_3_5 rfl (w_109 hw) (w_110 hw) (w_111 hw) (w_112 hw) (by decide) (argsL := [(.ref v)]) (rest := [(.ref b54), (.ref b54)]) (Pays.of_met (W := 2) (len := 3) (m_rnn hw hs v h53) (w_112 hw) (w_111 hw) (by decide) (by decide)) rfl rfl (lenOf pd_10 rfl) rfl (Nat.le_of_eq rfl) mem0 (by decide) (by decide) ?_
  rintro _ _ _ - - ⟨rfl, rfl, rfl⟩
  change Go _ _ _ _ _ _ _ _ _ _ _ _ _ _ [b54] h53 1 1 8 #[.val (.ref v)] [(.ref v), (.ref b54), (.ref b54)]
  refine Go.callI (pc' := 11) (z := N_15) (a := b54) d_jdk_32_method_3_8 rfl rfl (w_113 hw) (w_114 hw) (w_116 hw) (by decide) (argsL := [(.ref v)]) (rest := [(.ref b54)]) (Pays.of_met (W := 1) (len := 3) (m_oinit hw hs b54 v h53 E_b54 F_b54_value) (w_116 hw) (w_105 hw) (by decide) (by decide)) rfl rfl (lenOf pd_11 rfl) rfl (Nat.le_of_eq rfl) (memS (List.mem_of_getElem? (i := 0) rfl) mem0) (by decide) (by decide) ?_
  rintro _ h57 _ K58 le59 ⟨rfl, rfl, p60, p61⟩
  replace E_b54 := E_b54.keep K58
  have F_b54_value := p61
  change Go _ _ _ _ _ _ _ _ _ _ _ _ _ _ [b54] h57 1 1 11 #[.val (.ref v)] [(.ref b54)]
  exact Go.retA d_jdk_32_method_3_11 rfl rfl rfl (by decide) (by decide) [] sn0 ⟨b54, rfl, rfl, E_b54, F_b54_value⟩
abbrev R_m_oem : Room := { frames := 0, cells := 0, slots := 0, locals := 0 }
theorem pn_m_oem : plainFor (⟨"java/util/Optional", "empty", "()Ljava/util/Optional;"⟩ : MethodName) = true := by first | (refine plainFor_of_name ?_; simp [plainName, overriddenIn]; done) | decide +kernel
abbrev Q_m_oem (Z : State)  (h0 : Heap) : Option Value → Heap → List Addr → Prop := fun res h' SN => ∃ (o : Addr), res = some (.ref o) ∧ SN = [] ∧ Exa Z h' o "java/util/Optional" ∧ Fld Z h' o "java/util/Optional" "value" "Ljava/lang/Object;" .null
theorem ef_m_oem (mid : MethodId)  : entryFrame mid #[] 1 = mkF mid 0 #[.unset] [] := by first | (simp [entryFrame, mkF, argsToLocals, Value.category]; done) | rfl
set_option maxRecDepth 65536 in
set_option maxHeartbeats 40000000 in
theorem m_oem {l : Launch} {Z : State} {a0 : Array Value} {n0 : Nat} (hw : ∀ d ∈ tables_1, d.before a0 Z = true) (hs : Stat Z) (h0 : Heap) :
    Met l Z EL0 n0 NR0 KN0 N_17 jdk_32_method_1_code 1 (Option.some (Jvm.ClassFile.FieldType.object "java/util/Optional")) R_m_oem [] #[] h0 (Q_m_oem Z  h0) := by
  refine Met.of_go pn_m_oem (fun mid => ef_m_oem mid  ) ?_
  intro hO hWS
  obtain ⟨S_e, E_e, F_e⟩ := hs_O hs
  refine Go.getS (pc' := 3) d_jdk_32_method_1_0 rfl (host := "") (Or.inl (w_136 hw)) Via.refl S_e ?_
  refine Go.astore_n (pc' := 4) (Ls' := #[.val (.ref (stRef Z "java/util/Optional" "EMPTY" "Ljava/util/Optional;"))]) d_jdk_32_method_1_3 rfl rfl rfl ?_
  refine Go.aload_n (pc' := 5) d_jdk_32_method_1_4 rfl rfl rfl ?_
  exact Go.retA d_jdk_32_method_1_5 rfl rfl rfl (by decide) (by decide) [] sn0 ⟨(stRef Z "java/util/Optional" "EMPTY" "Ljava/util/Optional;"), rfl, rfl, E_e.ext hO.2, F_e.ext hO.2⟩
abbrev R_m_opr0 : Room := { frames := 0, cells := 0, slots := 0, locals := 0 }
theorem pn_m_opr0 : plainFor (⟨"java/util/Optional", "isPresent", "()Z"⟩ : MethodName) = true := by first | (refine plainFor_of_name ?_; simp [plainName, overriddenIn]; done) | decide +kernel
abbrev Q_m_opr0 (Z : State) (o : Addr) (h0 : Heap) : Option Value → Heap → List Addr → Prop := fun res h' SN => res = some (.int (0 : Int32)) ∧ SN = [] ∧ h0 = h'
theorem ef_m_opr0 (mid : MethodId) (o : Addr) : entryFrame mid #[(.ref o)] 1 = mkF mid 0 #[.val (.ref o)] [] := by first | (simp [entryFrame, mkF, argsToLocals, Value.category]; done) | rfl
set_option maxRecDepth 65536 in
set_option maxHeartbeats 40000000 in
theorem m_opr0 {l : Launch} {Z : State} {a0 : Array Value} {n0 : Nat} (hw : ∀ d ∈ tables_1, d.before a0 Z = true) (hs : Stat Z) (o : Addr) (h0 : Heap) (F_o_value : Fld Z h0 o "java/util/Optional" "value" "Ljava/lang/Object;" .null) :
    Met l Z EL0 n0 NR0 KN0 N_18 jdk_32_method_6_code 1 (Option.some Jvm.ClassFile.FieldType.boolean) R_m_opr0 [] #[(.ref o)] h0 (Q_m_opr0 Z o h0) := by
  refine Met.of_go pn_m_opr0 (fun mid => ef_m_opr0 mid o ) ?_
  intro hO hWS
  refine Go.aload_n (pc' := 1) d_jdk_32_method_6_0 rfl rfl rfl ?_
  refine Go.getF (pc' := 4) d_jdk_32_method_6_1 rfl (host := "") (Or.inl (w_118 hw)) Via.refl F_o_value ?_
  refine Go.ifnullY (pc' := 11) d_jdk_32_method_6_4 (by decide) (by decide) ?_
  refine Go.iconst (pc' := 12) d_jdk_32_method_6_11 rfl ic_0 ?_
  exact Go.retS (ty := .boolean) d_jdk_32_method_6_12 rfl (by simp) rfl (by decide) (by decide) [] sn0 ⟨rfl, rfl, rfl⟩
abbrev R_m_opr1 : Room := { frames := 0, cells := 0, slots := 0, locals := 0 }
theorem pn_m_opr1 : plainFor (⟨"java/util/Optional", "isPresent", "()Z"⟩ : MethodName) = true := by first | (refine plainFor_of_name ?_; simp [plainName, overriddenIn]; done) | decide +kernel
abbrev Q_m_opr1 (Z : State) (o : Addr) (v : Addr) (h0 : Heap) : Option Value → Heap → List Addr → Prop := fun res h' SN => res = some (.int (1 : Int32)) ∧ SN = [] ∧ h0 = h'
theorem ef_m_opr1 (mid : MethodId) (o : Addr) (v : Addr) : entryFrame mid #[(.ref o)] 1 = mkF mid 0 #[.val (.ref o)] [] := by first | (simp [entryFrame, mkF, argsToLocals, Value.category]; done) | rfl
set_option maxRecDepth 65536 in
set_option maxHeartbeats 40000000 in
theorem m_opr1 {l : Launch} {Z : State} {a0 : Array Value} {n0 : Nat} (hw : ∀ d ∈ tables_1, d.before a0 Z = true) (hs : Stat Z) (o : Addr) (v : Addr) (h0 : Heap) (F_o_value : Fld Z h0 o "java/util/Optional" "value" "Ljava/lang/Object;" (.ref v)) :
    Met l Z EL0 n0 NR0 KN0 N_18 jdk_32_method_6_code 1 (Option.some Jvm.ClassFile.FieldType.boolean) R_m_opr1 [] #[(.ref o)] h0 (Q_m_opr1 Z o v h0) := by
  refine Met.of_go pn_m_opr1 (fun mid => ef_m_opr1 mid o v ) ?_
  intro hO hWS
  refine Go.aload_n (pc' := 1) d_jdk_32_method_6_0 rfl rfl rfl ?_
  refine Go.getF (pc' := 4) d_jdk_32_method_6_1 rfl (host := "") (Or.inl (w_118 hw)) Via.refl F_o_value ?_
  refine Go.ifnullN (pc' := 7) d_jdk_32_method_6_4 rfl ?_
  refine Go.iconst (pc' := 8) d_jdk_32_method_6_7 rfl ic_1 ?_
  refine Go.goto (pc' := 12) d_jdk_32_method_6_8 (by decide) (by decide) ?_
  exact Go.retS (ty := .boolean) d_jdk_32_method_6_12 rfl (by simp) rfl (by decide) (by decide) [] sn0 ⟨rfl, rfl, rfl⟩
abbrev R_m_oget : Room := { frames := 0, cells := 0, slots := 0, locals := 0 }
theorem pn_m_oget : plainFor (⟨"java/util/Optional", "get", "()Ljava/lang/Object;"⟩ : MethodName) = true := by first | (refine plainFor_of_name ?_; simp [plainName, overriddenIn]; done) | decide +kernel
abbrev Q_m_oget (Z : State) (o : Addr) (v : Addr) (h0 : Heap) : Option Value → Heap → List Addr → Prop := fun res h' SN => res = some (.ref v) ∧ SN = [] ∧ h0 = h'
theorem ef_m_oget (mid : MethodId) (o : Addr) (v : Addr) : entryFrame mid #[(.ref o)] 1 = mkF mid 0 #[.val (.ref o)] [] := by first | (simp [entryFrame, mkF, argsToLocals, Value.category]; done) | rfl
set_option maxRecDepth 65536 in
set_option maxHeartbeats 40000000 in
theorem m_oget {l : Launch} {Z : State} {a0 : Array Value} {n0 : Nat} (hw : ∀ d ∈ tables_1, d.before a0 Z = true) (hs : Stat Z) (o : Addr) (v : Addr) (h0 : Heap) (F_o_value : Fld Z h0 o "java/util/Optional" "value" "Ljava/lang/Object;" (.ref v)) :
    Met l Z EL0 n0 NR0 KN0 N_19 jdk_32_method_5_code 1 (Option.some (Jvm.ClassFile.FieldType.object "java/lang/Object")) R_m_oget [] #[(.ref o)] h0 (Q_m_oget Z o v h0) := by
  refine Met.of_go pn_m_oget (fun mid => ef_m_oget mid o v ) ?_
  intro hO hWS
  refine Go.aload_n (pc' := 1) d_jdk_32_method_5_0 rfl rfl rfl ?_
  refine Go.getF (pc' := 4) d_jdk_32_method_5_1 rfl (host := "") (Or.inl (w_118 hw)) Via.refl F_o_value ?_
  refine Go.ifnonnullY (pc' := 17) d_jdk_32_method_5_4 (by decide) (by decide) ?_
  refine Go.aload_n (pc' := 18) d_jdk_32_method_5_17 rfl rfl rfl ?_
  refine Go.getF (pc' := 21) d_jdk_32_method_5_18 rfl (host := "") (Or.inl (w_118 hw)) Via.refl F_o_value ?_
  exact Go.retA d_jdk_32_method_5_21 rfl rfl rfl (by decide) (by decide) [] sn0 ⟨rfl, rfl, rfl⟩
abbrev R_m_values : Room := { frames := 1, cells := 1, slots := 3, locals := 14 }
theorem pn_m_values : plainFor (⟨"com/example/tapstone/tapstone/server/Role", "values", "()[Lcom/example/tapstone/tapstone/server/Role;"⟩ : MethodName) = true := by first | (refine plainFor_of_name ?_; simp [plainName, overriddenIn]; done) | decide +kernel
abbrev Q_m_values (Z : State)  (h0 : Heap) : Option Value → Heap → List Addr → Prop := fun res h' SN => ∃ (vb : Addr) (kv : ClassId), res = some (.ref vb) ∧ SN = [] ∧ h0.size ≤ vb ∧ Arv Z h' vb kv (.object "com/example/tapstone/tapstone/server/Role") (3 : Int32) [(.ref (stRef Z "com/example/tapstone/tapstone/server/Role" "REQUESTOR" "Lcom/example/tapstone/tapstone/server/Role;")), (.ref (stRef Z "com/example/tapstone/tapstone/server/Role" "NETWORK" "Lcom/example/tapstone/tapstone/server/Role;")), (.ref (stRef Z "com/example/tapstone/tapstone/server/Role" "INTEGRATOR" "Lcom/example/tapstone/tapstone/server/Role;"))] .null
theorem ef_m_values (mid : MethodId)  : entryFrame mid #[] 0 = mkF mid 0 #[] [] := by first | (simp [entryFrame, mkF, argsToLocals, Value.category]; done) | rfl
set_option maxRecDepth 65536 in
set_option maxHeartbeats 40000000 in
theorem m_values {l : Launch} {Z : State} {a0 : Array Value} {n0 : Nat} (hw : ∀ d ∈ tables_1, d.before a0 Z = true) (hs : Stat Z) (h0 : Heap) :
    Met l Z EL0 n0 NR0 KN0 N_20 prog_29_method_1_code 0 (Option.some (Jvm.ClassFile.FieldType.array (Jvm.ClassFile.FieldType.object "com/example/tapstone/tapstone/server/Role"))) R_m_values [] #[] h0 (Q_m_values Z  h0) := by
  refine Met.of_go pn_m_values (fun mid => ef_m_values mid  ) ?_
  intro hO hWS
  obtain ⟨S_v, E_va, kv, V_va⟩ := hs_V hs
  replace E_va := E_va.ext hO.2
  replace V_va := V_va.ext hO.2
  refine Go.getS (pc' := 3) d_prog_29_method_1_0 rfl (host := "") (Or.inl (w_77 hw)) Via.refl S_v ?_
  refine Go.clone (pc' := 6) (W := 0) (cap := 3) d_prog_29_method_1_3 rfl (w_79 hw) (w_80 hw) (w_84 hw) (w_82 hw) (w_83 hw) (w_85 hw) V_va.arh E_va rfl (by decide) (Nat.le_of_eq rfl) (by decide) (by decide) (by decide) (by decide) ?_
  intro h62 b63 g64 ge_b63 x65 V_b63 E_b63
  have on66 : (stRef Z "com/example/tapstone/tapstone/server/Role" "$VALUES" "[Lcom/example/tapstone/tapstone/server/Role;") ≠ b63 := Nat.ne_of_lt (Nat.lt_of_lt_of_le E_va.lt (Nat.le_of_eq g64))
  replace E_va := E_va.ext x65
  replace V_va := V_va.ext x65
  replace V_b63 : Arv Z h62 b63 kv (.object "com/example/tapstone/tapstone/server/Role") (3 : Int32) [(.ref (stRef Z "com/example/tapstone/tapstone/server/Role" "REQUESTOR" "Lcom/example/tapstone/tapstone/server/Role;")), (.ref (stRef Z "com/example/tapstone/tapstone/server/Role" "NETWORK" "Lcom/example/tapstone/tapstone/server/Role;")), (.ref (stRef Z "com/example/tapstone/tapstone/server/Role" "INTEGRATOR" "Lcom/example/tapstone/tapstone/server/Role;"))] .null := V_b63
  change Go _ _ _ _ _ _ _ _ _ _ _ _ _ _ [b63] h62 1 3 6 #[] [(.ref b63)]
  refine Go.castY (pc' := 9) d_prog_29_method_1_6 rfl (w_90 hw) (Ins.self E_b63) ?_
  exact Go.retA d_prog_29_method_1_9 rfl rfl rfl (by decide) (by decide) [] sn0 ⟨b63, kv, rfl, rfl, ge_b63, V_b63⟩
abbrev R_m_put : Room := { frames := 4, cells := 0, slots := 0, locals := 55 }
theorem pn_m_put : plainFor (⟨"com/example/tapstone/tapstone/server/RoleOfConfigNamePinLaw", "put", "([CILjava/lang/String;I)V"⟩ : MethodName) = true := by first | (refine plainFor_of_name ?_; simp [plainName, overriddenIn]; done) | decide +kernel
abbrev Q_m_put (Z : State) (c : Addr) (b : Addr) (t : Addr) (kc : ClassId) (kt : ClassId) (cs : List Int32) (us : List Int32) (z : Int32) (z2 : Int32) (i : Int32) (bits : Int32) (h0 : Heap) : Option Value → Heap → List Addr → Prop := fun res h' SN => ∃ (cq : List Int32), res = none ∧ SN = [] ∧ Arv Z h' c kc .char z (cq.map Value.int) (.int (0 : Int32)) ∧ z.toNatClampNeg = cq.length ∧ ∀ x ∈ cq, ¬ x < 0 ∧ ¬ 255 < x
theorem ef_m_put (mid : MethodId) (c : Addr) (b : Addr) (t : Addr) (kc : ClassId) (kt : ClassId) (cs : List Int32) (us : List Int32) (z : Int32) (z2 : Int32) (i : Int32) (bits : Int32) : entryFrame mid #[(.ref c), (.int i), (.ref b), (.int bits)] 4 = mkF mid 0 #[.val (.ref c), .val (.int i), .val (.ref b), .val (.int bits)] [] := by first | (simp [entryFrame, mkF, argsToLocals, Value.category]; done) | rfl
set_option maxRecDepth 65536 in
set_option maxHeartbeats 40000000 in
theorem m_put {l : Launch} {Z : State} {a0 : Array Value} {n0 : Nat} (hw : ∀ d ∈ tables_1, d.before a0 Z = true) (hs : Stat Z) (c : Addr) (b : Addr) (t : Addr) (kc : ClassId) (kt : ClassId) (cs : List Int32) (us : List Int32) (z : Int32) (z2 : Int32) (i : Int32) (bits : Int32) (h0 : Heap) (V_c : Arv Z h0 c kc .char z (cs.map Value.int) (.int (0 : Int32))) (E_b : Exa Z h0 b "java/lang/String") (F_b_coder : Fld Z h0 b "java/lang/String" "coder" "B" (.int (0 : Int32))) (F_b_value : Fld Z h0 b "java/lang/String" "value" "[B" (.ref t)) (V_t : Arv Z h0 t kt .byte z2 (us.map Value.int) (.int (0 : Int32))) (hz : z.toNatClampNeg = cs.length) (hcs : ∀ x ∈ cs, ¬ x < 0 ∧ ¬ 255 < x) (hi : ¬ i < 0) :
    Met l Z EL0 n0 NR0 KN0 N_21 method_3_code 4 (Option.none : Option Jvm.ClassFile.FieldType) R_m_put [c] #[(.ref c), (.int i), (.ref b), (.int bits)] h0 (Q_m_put Z c b t kc kt cs us z z2 i bits h0) := by
  refine Met.of_go pn_m_put (fun mid => ef_m_put mid c b t kc kt cs us z z2 i bits ) ?_
  intro hO hWS
  refine Go.iload_n (pc' := 1) d_method_3_0 rfl rfl ?_
  refine Go.aload_n (pc' := 2) d_method_3_1 rfl rfl rfl ?_
  refine Go.lenV (pc' := 3) d_method_3_2 rfl V_c ?_
  by_cases h1 : i < z
  · skip
    refine Go.icmpN (pc' := 6) d_method_3_3 rfl (tlt (h1 : i < z)).2.1 ?_
    refine Go.aload_n (pc' := 7) d_method_3_6 rfl rfl rfl ?_
    refine Go.iload_n (pc' := 8) d_method_3_7 rfl rfl ?_
    refine Go.iload_n (pc' := 9) d_method_3_8 rfl rfl ?_
    refine Go.aload_n (pc' := 10) d_method_3_9 rfl rfl rfl ?_
    refine Go.callV (pc' := 13) (u := N_7) (z := N_7) (a := b) d_method_3_10 rfl (w_9 hw) (w_10 hw) (nf (w_12 hw) rfl) (w_12 hw) (w_11 hw) (by decide) E_b (argsL := []) (rest := [(.int i), (.int i), (.ref c)]) (Pays.of_met (W := 3) (len := 3) (m_length hw hs b t kt z2 (us.map Value.int) h0 E_b F_b_coder F_b_value V_t) (w_13 hw) (w_2 hw) (by decide) (by decide)) rfl rfl (lenOf pd_12 rfl) rfl (Nat.le_of_eq rfl) mem0 (by decide) (by decide) ?_
    rintro _ _ _ - - ⟨rfl, rfl, rfl⟩
    change Go _ _ _ _ _ _ _ _ _ _ _ _ _ _ [c] h0 0 0 13 #[.val (.ref c), .val (.int i), .val (.ref b), .val (.int bits)] [(.int z2), (.int i), (.int i), (.ref c)]
    by_cases h3 : i < z2
    · skip
      refine Go.icmpN (pc' := 16) d_method_3_13 rfl (tlt (h3 : i < z2)).2.1 ?_
      refine Go.aload_n (pc' := 17) d_method_3_16 rfl rfl rfl ?_
      refine Go.iload_n (pc' := 18) d_method_3_17 rfl rfl ?_
      refine Go.callV (pc' := 21) (u := N_11) (z := N_11) (a := b) d_method_3_18 rfl (w_27 hw) (w_28 hw) (nf (w_30 hw) rfl) (w_30 hw) (w_29 hw) (by decide) E_b (argsL := [(.int i)]) (rest := [(.int i), (.ref c)]) (Pays.of_met (W := 2) (len := 3) (m_charAt hw hs b t kt z2 (us.map Value.int) i (us.getD i.toNatClampNeg 0) h0 E_b F_b_coder F_b_value V_t (⟨hi, h3⟩) (getD_int us i.toNatClampNeg)) (w_31 hw) (w_2 hw) (by decide) (by decide)) rfl rfl (lenOf pd_13 rfl) rfl (Nat.le_of_eq rfl) mem0 (by decide) (by decide) ?_
      rintro _ _ _ - - ⟨rfl, rfl, rfl⟩
      change Go _ _ _ _ _ _ _ _ _ _ _ _ _ _ [c] h0 0 0 21 #[.val (.ref c), .val (.int i), .val (.ref b), .val (.int bits)] [(.int ((us.getD i.toNatClampNeg 0) &&& (255 : Int32)).toUInt32.toUInt16.toUInt32.toInt32), (.int i), (.ref c)]
      rw [i2c_mask]
      refine Go.goto (pc' := 37) d_method_3_21 (by decide) (by decide) ?_
      refine Go.castoreV (pc' := 38) (i := i.toNatClampNeg) d_method_3_37 rfl (List.mem_of_getElem? (i := 0) rfl) V_c ⟨hi, h1⟩ rfl (by rw [List.length_map, ← (hz)]; exact own_idx hi h1) ?_
      rw [nar_char (mask255 (us.getD i.toNatClampNeg 0)).1 (le255 (mask255 (us.getD i.toNatClampNeg 0)).2)]
      intro h67 W68 V_c'
      rw [own_set_map] at V_c'
      replace E_b := E_b.wr W68
      replace V_c : Arv Z h67 c kc .char z ((cs.set i.toNatClampNeg ((us.getD i.toNatClampNeg 0) &&& (255 : Int32))).map Value.int) (.int (0 : Int32)) := V_c'
      change Go _ _ _ _ _ _ _ _ _ _ _ _ _ _ [c] h67 0 0 38 #[.val (.ref c), .val (.int i), .val (.ref b), .val (.int bits)] []
      exact Go.retV d_method_3_38 rfl (by decide) (by decide) [] sn0 ⟨_, rfl, rfl, V_c, by rw [List.length_set]; exact hz, own_set_mem hcs (mask255 (us.getD i.toNatClampNeg 0))⟩
    · skip
      refine Go.icmpY (pc' := 24) d_method_3_13 (by decide) (by decide) (flt (h3 : ¬ (i < z2))).2.1 ?_
      refine Go.iload_n (pc' := 25) d_method_3_24 rfl rfl ?_
      refine Go.bipush (pc' := 27) d_method_3_25 rfl icb_8 ?_
      refine Go.iload_n (pc' := 28) d_method_3_27 rfl rfl ?_
      refine Go.iconst (pc' := 29) d_method_3_28 rfl ic_3 ?_
      refine Go.iand (pc' := 30) d_method_3_29 rfl ?_
      refine Go.imul (pc' := 31) d_method_3_30 rfl ?_
      refine Go.iushr (pc' := 32) d_method_3_31 rfl ?_
      refine Go.sipush (pc' := 35) d_method_3_32 rfl ics_255 ?_
      refine Go.iand (pc' := 36) d_method_3_35 rfl ?_
      refine Go.i2c (pc' := 37) d_method_3_36 rfl ?_
      rw [i2c_mask]
      refine Go.castoreV (pc' := 38) (i := i.toNatClampNeg) d_method_3_37 rfl (List.mem_of_getElem? (i := 0) rfl) V_c ⟨hi, h1⟩ rfl (by rw [List.length_map, ← (hz)]; exact own_idx hi h1) ?_
      rw [nar_char (mask255 ((bits.toUInt32 >>> (((8 : Int32) * (i &&& (3 : Int32))) &&& 31).toUInt32).toInt32)).1 (le255 (mask255 ((bits.toUInt32 >>> (((8 : Int32) * (i &&& (3 : Int32))) &&& 31).toUInt32).toInt32)).2)]
      intro h69 W70 V_c'
      rw [own_set_map] at V_c'
      replace E_b := E_b.wr W70
      replace V_c : Arv Z h69 c kc .char z ((cs.set i.toNatClampNeg (((bits.toUInt32 >>> (((8 : Int32) * (i &&& (3 : Int32))) &&& 31).toUInt32).toInt32) &&& (255 : Int32))).map Value.int) (.int (0 : Int32)) := V_c'
      change Go _ _ _ _ _ _ _ _ _ _ _ _ _ _ [c] h69 0 0 38 #[.val (.ref c), .val (.int i), .val (.ref b), .val (.int bits)] []
      exact Go.retV d_method_3_38 rfl (by decide) (by decide) [] sn0 ⟨_, rfl, rfl, V_c, by rw [List.length_set]; exact hz, own_set_mem hcs (mask255 ((bits.toUInt32 >>> (((8 : Int32) * (i &&& (3 : Int32))) &&& 31).toUInt32).toInt32))⟩
  · skip
    refine Go.icmpY (pc' := 38) d_method_3_3 (by decide) (by decide) (flt (h1 : ¬ (i < z))).2.1 ?_
    exact Go.retV d_method_3_38 rfl (by decide) (by decide) [] sn0 ⟨cs, rfl, rfl, V_c, hz, hcs⟩
abbrev R_m_ofc : Room := { frames := 3, cells := 2, slots := 4, locals := 38 }
theorem pn_m_ofc : plainFor (⟨"com/example/tapstone/tapstone/server/Role", "ofConfigName", "(Ljava/lang/String;)Ljava/util/Optional;"⟩ : MethodName) = true := by first | (refine plainFor_of_name ?_; simp [plainName, overriddenIn]; done) | decide +kernel
abbrev Q_m_ofc (Z : State) (s : Addr) (t : Addr) (kt : ClassId) (us : List Int32) (z : Int32) (h0 : Heap) : Option Value → Heap → List Addr → Prop := fun res h' SN => ∃ (o : Addr) (v : Value), res = some (.ref o) ∧ SN = [] ∧ Exa Z h' o "java/util/Optional" ∧ Fld Z h' o "java/util/Optional" "value" "Ljava/lang/Object;" v ∧ v.isRef = true ∧ v = brandV Z us
theorem ef_m_ofc (mid : MethodId) (s : Addr) (t : Addr) (kt : ClassId) (us : List Int32) (z : Int32) : entryFrame mid #[(.ref s)] 5 = mkF mid 0 #[.val (.ref s), .unset, .unset, .unset, .unset] [] := by first | (simp [entryFrame, mkF, argsToLocals, Value.category]; done) | rfl
set_option maxRecDepth 65536 in
set_option maxHeartbeats 40000000 in
theorem m_ofc {l : Launch} {Z : State} {a0 : Array Value} {n0 : Nat} (hw : ∀ d ∈ tables_1, d.before a0 Z = true) (hs : Stat Z) (s : Addr) (t : Addr) (kt : ClassId) (us : List Int32) (z : Int32) (h0 : Heap) (E_s : Exa Z h0 s "java/lang/String") (F_s_coder : Fld Z h0 s "java/lang/String" "coder" "B" (.int (0 : Int32))) (F_s_value : Fld Z h0 s "java/lang/String" "value" "[B" (.ref t)) (V_t : Arv Z h0 t kt .byte z (us.map Value.int) (.int (0 : Int32))) (hz : z.toNatClampNeg = us.length) :
    Met l Z EL0 n0 NR0 KN0 N_22 prog_29_method_5_code 5 (Option.some (Jvm.ClassFile.FieldType.object "java/util/Optional")) R_m_ofc [] #[(.ref s)] h0 (Q_m_ofc Z s t kt us z h0) := by
  refine Met.of_go pn_m_ofc (fun mid => ef_m_ofc mid s t kt us z ) ?_
  intro hO hWS
  refine Go.callS (pc' := 3) (z := N_20) d_prog_29_method_5_0 rfl (w_74 hw) (w_75 hw) (w_72 hw) (w_76 hw) (by decide) (argsL := []) (rest := []) (Pays.of_met (W := 0) (len := 3) (m_values hw hs  h0) (w_76 hw) (w_72 hw) (by decide) (by decide)) rfl rfl (lenOf pd_14 rfl) rfl (Nat.le_of_eq rfl) mem0 (by decide) (by decide) ?_
  rintro _ h73 _ K74 le75 ⟨b71, q72, rfl, rfl, p76, p77⟩
  have o_s_b71 : s ≠ b71 := Nat.ne_of_lt (Nat.lt_of_lt_of_le E_s.lt p76)
  have o_t_b71 : t ≠ b71 := Nat.ne_of_lt (Nat.lt_of_lt_of_le V_t.lt p76)
  have ge_b71 := Nat.le_trans le75 p76
  replace E_s := E_s.keep K74
  replace F_s_coder := F_s_coder.keep K74 nin0
  replace F_s_value := F_s_value.keep K74 nin0
  replace V_t := V_t.keep K74 nin0
  have V_b71 := p77
  change Go _ _ _ _ _ _ _ _ _ _ _ _ _ _ [] h73 1 3 3 #[.val (.ref s), .unset, .unset, .unset, .unset] [(.ref b71)]
  refine Go.astore_n (pc' := 4) (Ls' := #[.val (.ref s), .val (.ref b71), .unset, .unset, .unset]) d_prog_29_method_5_3 rfl rfl rfl ?_
  refine Go.aload_n (pc' := 5) d_prog_29_method_5_4 rfl rfl rfl ?_
  refine Go.lenV (pc' := 6) d_prog_29_method_5_5 rfl V_b71 ?_
  refine Go.istore_n (pc' := 7) (Ls' := #[.val (.ref s), .val (.ref b71), .val (.int (3 : Int32)), .unset, .unset]) d_prog_29_method_5_6 rfl rfl ?_
  refine Go.iconst (pc' := 8) d_prog_29_method_5_7 rfl ic_0 ?_
  refine Go.istore_n (pc' := 9) (Ls' := #[.val (.ref s), .val (.ref b71), .val (.int (3 : Int32)), .val (.int (0 : Int32)), .unset]) d_prog_29_method_5_8 rfl rfl ?_
  refine Go.iload_n (pc' := 10) d_prog_29_method_5_9 rfl rfl ?_
  refine Go.iload_n (pc' := 11) d_prog_29_method_5_10 rfl rfl ?_
  refine Go.icmpN (pc' := 14) d_prog_29_method_5_11 rfl (tlt (by decide : (0 : Int32) < (3 : Int32))).2.1 ?_
  refine Go.aload_n (pc' := 15) d_prog_29_method_5_14 rfl rfl rfl ?_
  refine Go.iload_n (pc' := 16) d_prog_29_method_5_15 rfl rfl ?_
  refine Go.aaloadV (pc' := 17) (v := (.ref (stRef Z "com/example/tapstone/tapstone/server/Role" "REQUESTOR" "Lcom/example/tapstone/tapstone/server/Role;"))) d_prog_29_method_5_16 rfl V_b71 rfl (by decide) rfl ?_
  refine Go.astore (pc' := 19) (Ls' := #[.val (.ref s), .val (.ref b71), .val (.int (3 : Int32)), .val (.int (0 : Int32)), .val (.ref (stRef Z "com/example/tapstone/tapstone/server/Role" "REQUESTOR" "Lcom/example/tapstone/tapstone/server/Role;"))]) d_prog_29_method_5_17 rfl rfl rfl ?_
  refine Go.aload (pc' := 21) d_prog_29_method_5_19 rfl rfl rfl ?_
  refine Go.inv (fun hO78 _ _ => ?_)
  obtain ⟨-, -, se79, te79, ke79, F__stRef_Z__com_example_tapstone_tapstone_server_Role___REQUESTOR___Lcom_example_tapstone_tapstone_server_Role____configNamee79, E_se79e79, F_se79_codere79, F_se79_valuee79, V_te79e79⟩ := hs_b0 hs
  replace F__stRef_Z__com_example_tapstone_tapstone_server_Role___REQUESTOR___Lcom_example_tapstone_tapstone_server_Role____configNamee79 := F__stRef_Z__com_example_tapstone_tapstone_server_Role___REQUESTOR___Lcom_example_tapstone_tapstone_server_Role____configNamee79.ext hO78.2
  replace E_se79e79 := E_se79e79.ext hO78.2
  replace F_se79_codere79 := F_se79_codere79.ext hO78.2
  replace F_se79_valuee79 := F_se79_valuee79.ext hO78.2
  replace V_te79e79 := V_te79e79.ext hO78.2
  refine Go.getF (pc' := 24) d_prog_29_method_5_21 rfl (host := "") (Or.inl (w_92 hw)) Via.refl F__stRef_Z__com_example_tapstone_tapstone_server_Role___REQUESTOR___Lcom_example_tapstone_tapstone_server_Role____configNamee79 ?_
  refine Go.aload_n (pc' := 25) d_prog_29_method_5_24 rfl rfl rfl ?_
  refine Go.callV (pc' := 28) (u := N_13) (z := N_13) (a := se79) d_prog_29_method_5_25 rfl (w_94 hw) (w_95 hw) (nf (w_97 hw) rfl) (w_97 hw) (w_96 hw) (by decide) E_se79e79 (argsL := [(.ref s)]) (rest := []) (Pays.of_met (W := 0) (len := 3) (m_seq hw hs se79 s te79 t ke79 kt [(114 : Int32), (101 : Int32), (113 : Int32), (117 : Int32), (101 : Int32), (115 : Int32), (116 : Int32), (111 : Int32), (114 : Int32)] us (9 : Int32) z h73 E_se79e79 F_se79_codere79 F_se79_valuee79 V_te79e79 E_s F_s_coder F_s_value V_t (rfl) (hz)) (w_98 hw) (w_2 hw) (by decide) (by decide)) rfl rfl (lenOf pd_15 rfl) rfl (Nat.le_of_eq rfl) mem0 (by decide) (by decide) ?_
  rintro _ _ _ - - ⟨rfl, rfl, rfl⟩
  change Go _ _ _ _ _ _ _ _ _ _ _ _ _ _ [] h73 1 3 28 #[.val (.ref s), .val (.ref b71), .val (.int (3 : Int32)), .val (.int (0 : Int32)), .val (.ref (stRef Z "com/example/tapstone/tapstone/server/Role" "REQUESTOR" "Lcom/example/tapstone/tapstone/server/Role;"))] [(.int (own_eqb [(114 : Int32), (101 : Int32), (113 : Int32), (117 : Int32), (101 : Int32), (115 : Int32), (116 : Int32), (111 : Int32), (114 : Int32)] us))]
  rcases (Classical.em ((own_eqb [(114 : Int32), (101 : Int32), (113 : Int32), (117 : Int32), (101 : Int32), (115 : Int32), (116 : Int32), (111 : Int32), (114 : Int32)] us) = (0 : Int32))).symm with hq0 | hq0
  · skip
    refine Go.ifN (pc' := 31) d_prog_29_method_5_28 rfl ((if0 _ _).trans (feq (hq0 : ¬ ((own_eqb [(114 : Int32), (101 : Int32), (113 : Int32), (117 : Int32), (101 : Int32), (115 : Int32), (116 : Int32), (111 : Int32), (114 : Int32)] us) = (0 : Int32)))).1) ?_
    refine Go.aload (pc' := 33) d_prog_29_method_5_31 rfl rfl rfl ?_
    refine Go.callS (pc' := 36) (z := N_16) d_prog_29_method_5_33 rfl (w_103 hw) (w_104 hw) (w_105 hw) (w_106 hw) (by decide) (argsL := [(.ref (stRef Z "com/example/tapstone/tapstone/server/Role" "REQUESTOR" "Lcom/example/tapstone/tapstone/server/Role;"))]) (rest := []) (Pays.of_met (W := 0) (len := 3) (m_oof hw hs (stRef Z "com/example/tapstone/tapstone/server/Role" "REQUESTOR" "Lcom/example/tapstone/tapstone/server/Role;") h73) (w_106 hw) (w_105 hw) (by decide) (by decide)) rfl rfl (lenOf pd_16 rfl) rfl (Nat.le_of_eq rfl) mem0 (by decide) (by decide) ?_
    rintro _ h81 _ K82 le83 ⟨b80, rfl, rfl, p84, p85⟩
    replace E_s := E_s.keep K82
    replace F_s_coder := F_s_coder.keep K82 nin0
    replace F_s_value := F_s_value.keep K82 nin0
    replace V_t := V_t.keep K82 nin0
    replace V_b71 := V_b71.keep K82 nin0
    replace F__stRef_Z__com_example_tapstone_tapstone_server_Role___REQUESTOR___Lcom_example_tapstone_tapstone_server_Role____configNamee79 := F__stRef_Z__com_example_tapstone_tapstone_server_Role___REQUESTOR___Lcom_example_tapstone_tapstone_server_Role____configNamee79.keep K82 nin0
    replace E_se79e79 := E_se79e79.keep K82
    replace F_se79_codere79 := F_se79_codere79.keep K82 nin0
    replace F_se79_valuee79 := F_se79_valuee79.keep K82 nin0
    replace V_te79e79 := V_te79e79.keep K82 nin0
    have E_b80 := p84
    have F_b80_value := p85
    change Go _ _ _ _ _ _ _ _ _ _ _ _ _ _ [] h81 2 4 36 #[.val (.ref s), .val (.ref b71), .val (.int (3 : Int32)), .val (.int (0 : Int32)), .val (.ref (stRef Z "com/example/tapstone/tapstone/server/Role" "REQUESTOR" "Lcom/example/tapstone/tapstone/server/Role;"))] [(.ref b80)]
    exact Go.retA d_prog_29_method_5_36 rfl rfl rfl (by decide) (by decide) [] sn0 ⟨b80, (.ref (stRef Z "com/example/tapstone/tapstone/server/Role" "REQUESTOR" "Lcom/example/tapstone/tapstone/server/Role;")), rfl, rfl, E_b80, F_b80_value, rfl, (brandV_0 ((own_eqb1 hq0).symm)).symm⟩
  · skip
    refine Go.ifY (pc' := 37) d_prog_29_method_5_28 (by decide) (by decide) ((if0 _ _).trans (teq (hq0 : (own_eqb [(114 : Int32), (101 : Int32), (113 : Int32), (117 : Int32), (101 : Int32), (115 : Int32), (116 : Int32), (111 : Int32), (114 : Int32)] us) = (0 : Int32))).1) ?_
    refine Go.iinc (pc' := 40) (Ls' := #[.val (.ref s), .val (.ref b71), .val (.int (3 : Int32)), .val (.int ((0 : Int32) + (1 : Int32))), .val (.ref (stRef Z "com/example/tapstone/tapstone/server/Role" "REQUESTOR" "Lcom/example/tapstone/tapstone/server/Role;"))]) d_prog_29_method_5_37 rfl ic_1 rfl rfl ?_
    rw [show ((0 : Int32) + (1 : Int32)) = (1 : Int32) from by decide]
    refine Go.goto (pc' := 9) d_prog_29_method_5_40 (by decide) (by decide) ?_
    refine Go.iload_n (pc' := 10) d_prog_29_method_5_9 rfl rfl ?_
    refine Go.iload_n (pc' := 11) d_prog_29_method_5_10 rfl rfl ?_
    refine Go.icmpN (pc' := 14) d_prog_29_method_5_11 rfl (tlt (by decide : (1 : Int32) < (3 : Int32))).2.1 ?_
    refine Go.aload_n (pc' := 15) d_prog_29_method_5_14 rfl rfl rfl ?_
    refine Go.iload_n (pc' := 16) d_prog_29_method_5_15 rfl rfl ?_
    refine Go.aaloadV (pc' := 17) (v := (.ref (stRef Z "com/example/tapstone/tapstone/server/Role" "NETWORK" "Lcom/example/tapstone/tapstone/server/Role;"))) d_prog_29_method_5_16 rfl V_b71 rfl (by decide) rfl ?_
    refine Go.astore (pc' := 19) (Ls' := #[.val (.ref s), .val (.ref b71), .val (.int (3 : Int32)), .val (.int (1 : Int32)), .val (.ref (stRef Z "com/example/tapstone/tapstone/server/Role" "NETWORK" "Lcom/example/tapstone/tapstone/server/Role;"))]) d_prog_29_method_5_17 rfl rfl rfl ?_
    refine Go.aload (pc' := 21) d_prog_29_method_5_19 rfl rfl rfl ?_
    refine Go.inv (fun hO86 _ _ => ?_)
    obtain ⟨-, -, se87, te87, ke87, F__stRef_Z__com_example_tapstone_tapstone_server_Role___NETWORK___Lcom_example_tapstone_tapstone_server_Role____configNamee87, E_se87e87, F_se87_codere87, F_se87_valuee87, V_te87e87⟩ := hs_b1 hs
    replace F__stRef_Z__com_example_tapstone_tapstone_server_Role___NETWORK___Lcom_example_tapstone_tapstone_server_Role____configNamee87 := F__stRef_Z__com_example_tapstone_tapstone_server_Role___NETWORK___Lcom_example_tapstone_tapstone_server_Role____configNamee87.ext hO86.2
    replace E_se87e87 := E_se87e87.ext hO86.2
    replace F_se87_codere87 := F_se87_codere87.ext hO86.2
    replace F_se87_valuee87 := F_se87_valuee87.ext hO86.2
    replace V_te87e87 := V_te87e87.ext hO86.2
    refine Go.getF (pc' := 24) d_prog_29_method_5_21 rfl (host := "") (Or.inl (w_92 hw)) Via.refl F__stRef_Z__com_example_tapstone_tapstone_server_Role___NETWORK___Lcom_example_tapstone_tapstone_server_Role____configNamee87 ?_
    refine Go.aload_n (pc' := 25) d_prog_29_method_5_24 rfl rfl rfl ?_
    refine Go.callV (pc' := 28) (u := N_13) (z := N_13) (a := se87) d_prog_29_method_5_25 rfl (w_94 hw) (w_95 hw) (nf (w_97 hw) rfl) (w_97 hw) (w_96 hw) (by decide) E_se87e87 (argsL := [(.ref s)]) (rest := []) (Pays.of_met (W := 0) (len := 3) (m_seq hw hs se87 s te87 t ke87 kt [(110 : Int32), (101 : Int32), (116 : Int32), (119 : Int32), (111 : Int32), (114 : Int32), (107 : Int32)] us (7 : Int32) z h73 E_se87e87 F_se87_codere87 F_se87_valuee87 V_te87e87 E_s F_s_coder F_s_value V_t (rfl) (hz)) (w_98 hw) (w_2 hw) (by decide) (by decide)) rfl rfl (lenOf pd_15 rfl) rfl (Nat.le_of_eq rfl) mem0 (by decide) (by decide) ?_
    rintro _ _ _ - - ⟨rfl, rfl, rfl⟩
    change Go _ _ _ _ _ _ _ _ _ _ _ _ _ _ [] h73 1 3 28 #[.val (.ref s), .val (.ref b71), .val (.int (3 : Int32)), .val (.int (1 : Int32)), .val (.ref (stRef Z "com/example/tapstone/tapstone/server/Role" "NETWORK" "Lcom/example/tapstone/tapstone/server/Role;"))] [(.int (own_eqb [(110 : Int32), (101 : Int32), (116 : Int32), (119 : Int32), (111 : Int32), (114 : Int32), (107 : Int32)] us))]
    rcases (Classical.em ((own_eqb [(110 : Int32), (101 : Int32), (116 : Int32), (119 : Int32), (111 : Int32), (114 : Int32), (107 : Int32)] us) = (0 : Int32))).symm with hq1 | hq1
    · skip
      refine Go.ifN (pc' := 31) d_prog_29_method_5_28 rfl ((if0 _ _).trans (feq (hq1 : ¬ ((own_eqb [(110 : Int32), (101 : Int32), (116 : Int32), (119 : Int32), (111 : Int32), (114 : Int32), (107 : Int32)] us) = (0 : Int32)))).1) ?_
      refine Go.aload (pc' := 33) d_prog_29_method_5_31 rfl rfl rfl ?_
      refine Go.callS (pc' := 36) (z := N_16) d_prog_29_method_5_33 rfl (w_103 hw) (w_104 hw) (w_105 hw) (w_106 hw) (by decide) (argsL := [(.ref (stRef Z "com/example/tapstone/tapstone/server/Role" "NETWORK" "Lcom/example/tapstone/tapstone/server/Role;"))]) (rest := []) (Pays.of_met (W := 0) (len := 3) (m_oof hw hs (stRef Z "com/example/tapstone/tapstone/server/Role" "NETWORK" "Lcom/example/tapstone/tapstone/server/Role;") h73) (w_106 hw) (w_105 hw) (by decide) (by decide)) rfl rfl (lenOf pd_16 rfl) rfl (Nat.le_of_eq rfl) mem0 (by decide) (by decide) ?_
      rintro _ h89 _ K90 le91 ⟨b88, rfl, rfl, p92, p93⟩
      replace E_s := E_s.keep K90
      replace F_s_coder := F_s_coder.keep K90 nin0
      replace F_s_value := F_s_value.keep K90 nin0
      replace V_t := V_t.keep K90 nin0
      replace V_b71 := V_b71.keep K90 nin0
      replace F__stRef_Z__com_example_tapstone_tapstone_server_Role___NETWORK___Lcom_example_tapstone_tapstone_server_Role____configNamee87 := F__stRef_Z__com_example_tapstone_tapstone_server_Role___NETWORK___Lcom_example_tapstone_tapstone_server_Role____configNamee87.keep K90 nin0
      replace E_se87e87 := E_se87e87.keep K90
      replace F_se87_codere87 := F_se87_codere87.keep K90 nin0
      replace F_se87_valuee87 := F_se87_valuee87.keep K90 nin0
      replace V_te87e87 := V_te87e87.keep K90 nin0
      have E_b88 := p92
      have F_b88_value := p93
      change Go _ _ _ _ _ _ _ _ _ _ _ _ _ _ [] h89 2 4 36 #[.val (.ref s), .val (.ref b71), .val (.int (3 : Int32)), .val (.int (1 : Int32)), .val (.ref (stRef Z "com/example/tapstone/tapstone/server/Role" "NETWORK" "Lcom/example/tapstone/tapstone/server/Role;"))] [(.ref b88)]
      exact Go.retA d_prog_29_method_5_36 rfl rfl rfl (by decide) (by decide) [] sn0 ⟨b88, (.ref (stRef Z "com/example/tapstone/tapstone/server/Role" "NETWORK" "Lcom/example/tapstone/tapstone/server/Role;")), rfl, rfl, E_b88, F_b88_value, rfl, (brandV_1 (own_eqb0' hq0) ((own_eqb1 hq1).symm)).symm⟩
    · skip
      refine Go.ifY (pc' := 37) d_prog_29_method_5_28 (by decide) (by decide) ((if0 _ _).trans (teq (hq1 : (own_eqb [(110 : Int32), (101 : Int32), (116 : Int32), (119 : Int32), (111 : Int32), (114 : Int32), (107 : Int32)] us) = (0 : Int32))).1) ?_
      refine Go.iinc (pc' := 40) (Ls' := #[.val (.ref s), .val (.ref b71), .val (.int (3 : Int32)), .val (.int ((1 : Int32) + (1 : Int32))), .val (.ref (stRef Z "com/example/tapstone/tapstone/server/Role" "NETWORK" "Lcom/example/tapstone/tapstone/server/Role;"))]) d_prog_29_method_5_37 rfl ic_1 rfl rfl ?_
      rw [show ((1 : Int32) + (1 : Int32)) = (2 : Int32) from by decide]
      refine Go.goto (pc' := 9) d_prog_29_method_5_40 (by decide) (by decide) ?_
      refine Go.iload_n (pc' := 10) d_prog_29_method_5_9 rfl rfl ?_
      refine Go.iload_n (pc' := 11) d_prog_29_method_5_10 rfl rfl ?_
      refine Go.icmpN (pc' := 14) d_prog_29_method_5_11 rfl (tlt (by decide : (2 : Int32) < (3 : Int32))).2.1 ?_
      refine Go.aload_n (pc' := 15) d_prog_29_method_5_14 rfl rfl rfl ?_
      refine Go.iload_n (pc' := 16) d_prog_29_method_5_15 rfl rfl ?_
      refine Go.aaloadV (pc' := 17) (v := (.ref (stRef Z "com/example/tapstone/tapstone/server/Role" "INTEGRATOR" "Lcom/example/tapstone/tapstone/server/Role;"))) d_prog_29_method_5_16 rfl V_b71 rfl (by decide) rfl ?_
      refine Go.astore (pc' := 19) (Ls' := #[.val (.ref s), .val (.ref b71), .val (.int (3 : Int32)), .val (.int (2 : Int32)), .val (.ref (stRef Z "com/example/tapstone/tapstone/server/Role" "INTEGRATOR" "Lcom/example/tapstone/tapstone/server/Role;"))]) d_prog_29_method_5_17 rfl rfl rfl ?_
      refine Go.aload (pc' := 21) d_prog_29_method_5_19 rfl rfl rfl ?_
      refine Go.inv (fun hO94 _ _ => ?_)
      obtain ⟨-, -, se95, te95, ke95, F__stRef_Z__com_example_tapstone_tapstone_server_Role___INTEGRATOR___Lcom_example_tapstone_tapstone_server_Role____configNamee95, E_se95e95, F_se95_codere95, F_se95_valuee95, V_te95e95⟩ := hs_b2 hs
      replace F__stRef_Z__com_example_tapstone_tapstone_server_Role___INTEGRATOR___Lcom_example_tapstone_tapstone_server_Role____configNamee95 := F__stRef_Z__com_example_tapstone_tapstone_server_Role___INTEGRATOR___Lcom_example_tapstone_tapstone_server_Role____configNamee95.ext hO94.2
      replace E_se95e95 := E_se95e95.ext hO94.2
      replace F_se95_codere95 := F_se95_codere95.ext hO94.2
      replace F_se95_valuee95 := F_se95_valuee95.ext hO94.2
      replace V_te95e95 := V_te95e95.ext hO94.2
      refine Go.getF (pc' := 24) d_prog_29_method_5_21 rfl (host := "") (Or.inl (w_92 hw)) Via.refl F__stRef_Z__com_example_tapstone_tapstone_server_Role___INTEGRATOR___Lcom_example_tapstone_tapstone_server_Role____configNamee95 ?_
      refine Go.aload_n (pc' := 25) d_prog_29_method_5_24 rfl rfl rfl ?_
      refine Go.callV (pc' := 28) (u := N_13) (z := N_13) (a := se95) d_prog_29_method_5_25 rfl (w_94 hw) (w_95 hw) (nf (w_97 hw) rfl) (w_97 hw) (w_96 hw) (by decide) E_se95e95 (argsL := [(.ref s)]) (rest := []) (Pays.of_met (W := 0) (len := 3) (m_seq hw hs se95 s te95 t ke95 kt [(105 : Int32), (110 : Int32), (116 : Int32), (101 : Int32), (103 : Int32), (114 : Int32), (97 : Int32), (116 : Int32), (111 : Int32), (114 : Int32)] us (10 : Int32) z h73 E_se95e95 F_se95_codere95 F_se95_valuee95 V_te95e95 E_s F_s_coder F_s_value V_t (rfl) (hz)) (w_98 hw) (w_2 hw) (by decide) (by decide)) rfl rfl (lenOf pd_15 rfl) rfl (Nat.le_of_eq rfl) mem0 (by decide) (by decide) ?_
      rintro _ _ _ - - ⟨rfl, rfl, rfl⟩
      change Go _ _ _ _ _ _ _ _ _ _ _ _ _ _ [] h73 1 3 28 #[.val (.ref s), .val (.ref b71), .val (.int (3 : Int32)), .val (.int (2 : Int32)), .val (.ref (stRef Z "com/example/tapstone/tapstone/server/Role" "INTEGRATOR" "Lcom/example/tapstone/tapstone/server/Role;"))] [(.int (own_eqb [(105 : Int32), (110 : Int32), (116 : Int32), (101 : Int32), (103 : Int32), (114 : Int32), (97 : Int32), (116 : Int32), (111 : Int32), (114 : Int32)] us))]
      rcases (Classical.em ((own_eqb [(105 : Int32), (110 : Int32), (116 : Int32), (101 : Int32), (103 : Int32), (114 : Int32), (97 : Int32), (116 : Int32), (111 : Int32), (114 : Int32)] us) = (0 : Int32))).symm with hq2 | hq2
      · skip
        refine Go.ifN (pc' := 31) d_prog_29_method_5_28 rfl ((if0 _ _).trans (feq (hq2 : ¬ ((own_eqb [(105 : Int32), (110 : Int32), (116 : Int32), (101 : Int32), (103 : Int32), (114 : Int32), (97 : Int32), (116 : Int32), (111 : Int32), (114 : Int32)] us) = (0 : Int32)))).1) ?_
        refine Go.aload (pc' := 33) d_prog_29_method_5_31 rfl rfl rfl ?_
        refine Go.callS (pc' := 36) (z := N_16) d_prog_29_method_5_33 rfl (w_103 hw) (w_104 hw) (w_105 hw) (w_106 hw) (by decide) (argsL := [(.ref (stRef Z "com/example/tapstone/tapstone/server/Role" "INTEGRATOR" "Lcom/example/tapstone/tapstone/server/Role;"))]) (rest := []) (Pays.of_met (W := 0) (len := 3) (m_oof hw hs (stRef Z "com/example/tapstone/tapstone/server/Role" "INTEGRATOR" "Lcom/example/tapstone/tapstone/server/Role;") h73) (w_106 hw) (w_105 hw) (by decide) (by decide)) rfl rfl (lenOf pd_16 rfl) rfl (Nat.le_of_eq rfl) mem0 (by decide) (by decide) ?_
        rintro _ h97 _ K98 le99 ⟨b96, rfl, rfl, p100, p101⟩
        replace E_s := E_s.keep K98
        replace F_s_coder := F_s_coder.keep K98 nin0
        replace F_s_value := F_s_value.keep K98 nin0
        replace V_t := V_t.keep K98 nin0
        replace V_b71 := V_b71.keep K98 nin0
        replace F__stRef_Z__com_example_tapstone_tapstone_server_Role___INTEGRATOR___Lcom_example_tapstone_tapstone_server_Role____configNamee95 := F__stRef_Z__com_example_tapstone_tapstone_server_Role___INTEGRATOR___Lcom_example_tapstone_tapstone_server_Role____configNamee95.keep K98 nin0
        replace E_se95e95 := E_se95e95.keep K98
        replace F_se95_codere95 := F_se95_codere95.keep K98 nin0
        replace F_se95_valuee95 := F_se95_valuee95.keep K98 nin0
        replace V_te95e95 := V_te95e95.keep K98 nin0
        have E_b96 := p100
        have F_b96_value := p101
        change Go _ _ _ _ _ _ _ _ _ _ _ _ _ _ [] h97 2 4 36 #[.val (.ref s), .val (.ref b71), .val (.int (3 : Int32)), .val (.int (2 : Int32)), .val (.ref (stRef Z "com/example/tapstone/tapstone/server/Role" "INTEGRATOR" "Lcom/example/tapstone/tapstone/server/Role;"))] [(.ref b96)]
        exact Go.retA d_prog_29_method_5_36 rfl rfl rfl (by decide) (by decide) [] sn0 ⟨b96, (.ref (stRef Z "com/example/tapstone/tapstone/server/Role" "INTEGRATOR" "Lcom/example/tapstone/tapstone/server/Role;")), rfl, rfl, E_b96, F_b96_value, rfl, (brandV_2 (own_eqb0' hq0) (own_eqb0' hq1) ((own_eqb1 hq2).symm)).symm⟩
      · skip
        refine Go.ifY (pc' := 37) d_prog_29_method_5_28 (by decide) (by decide) ((if0 _ _).trans (teq (hq2 : (own_eqb [(105 : Int32), (110 : Int32), (116 : Int32), (101 : Int32), (103 : Int32), (114 : Int32), (97 : Int32), (116 : Int32), (111 : Int32), (114 : Int32)] us) = (0 : Int32))).1) ?_
        refine Go.iinc (pc' := 40) (Ls' := #[.val (.ref s), .val (.ref b71), .val (.int (3 : Int32)), .val (.int ((2 : Int32) + (1 : Int32))), .val (.ref (stRef Z "com/example/tapstone/tapstone/server/Role" "INTEGRATOR" "Lcom/example/tapstone/tapstone/server/Role;"))]) d_prog_29_method_5_37 rfl ic_1 rfl rfl ?_
        rw [show ((2 : Int32) + (1 : Int32)) = (3 : Int32) from by decide]
        refine Go.goto (pc' := 9) d_prog_29_method_5_40 (by decide) (by decide) ?_
        refine Go.iload_n (pc' := 10) d_prog_29_method_5_9 rfl rfl ?_
        refine Go.iload_n (pc' := 11) d_prog_29_method_5_10 rfl rfl ?_
        refine Go.icmpY (pc' := 43) d_prog_29_method_5_11 (by decide) (by decide) (flt (by decide : ¬ ((3 : Int32) < (3 : Int32)))).2.1 ?_
        refine Go.callS (pc' := 46) (z := N_17) d_prog_29_method_5_43 rfl (w_133 hw) (w_134 hw) (w_105 hw) (w_135 hw) (by decide) (argsL := []) (rest := []) (Pays.of_met (W := 0) (len := 3) (m_oem hw hs  h73) (w_135 hw) (w_105 hw) (by decide) (by decide)) rfl rfl (lenOf pd_17 rfl) rfl (Nat.le_of_eq rfl) mem0 (by decide) (by decide) ?_
        rintro _ h103 _ K104 le105 ⟨b102, rfl, rfl, p106, p107⟩
        replace E_s := E_s.keep K104
        replace F_s_coder := F_s_coder.keep K104 nin0
        replace F_s_value := F_s_value.keep K104 nin0
        replace V_t := V_t.keep K104 nin0
        replace V_b71 := V_b71.keep K104 nin0
        have E_b102 := p106
        have F_b102_value := p107
        change Go _ _ _ _ _ _ _ _ _ _ _ _ _ _ [] h103 1 3 46 #[.val (.ref s), .val (.ref b71), .val (.int (3 : Int32)), .val (.int (3 : Int32)), .val (.ref (stRef Z "com/example/tapstone/tapstone/server/Role" "INTEGRATOR" "Lcom/example/tapstone/tapstone/server/Role;"))] [(.ref b102)]
        exact Go.retA d_prog_29_method_5_46 rfl rfl rfl (by decide) (by decide) [] sn0 ⟨b102, .null, rfl, rfl, E_b102, F_b102_value, rfl, (brandV_3 (own_eqb0' hq0) (own_eqb0' hq1) (own_eqb0' hq2)).symm⟩
abbrev Q_m_law (Z : State) (p1 : Int32) (p2 : Int32) (p3 : Int32) (p4 : Int32) (p5 : Int32) (p6 : Int32) (h0 : Heap) : Option Value → Heap → List Addr → Prop := fun res h' SN => res = some (.int (1 : Int32)) ∧ SN = []
set_option maxRecDepth 65536 in
set_option maxHeartbeats 40000000 in
theorem m_law4_0 {l : Launch} {Z : State} {a0 : Array Value} {n0 : Nat} (hw : ∀ d ∈ tables_1, d.before a0 Z = true) (hs : Stat Z) (p1 : Int32) (p2 : Int32) (p3 : Int32) (p4 : Int32) (p5 : Int32) (p6 : Int32) (k : Int32) (b : Addr) (kf : Int32) (z0 : Int32) (cc : Addr) (s : Addr) (o : Addr) (h0 h : Heap) (E_o : Exa Z h o "java/util/Optional") (F_o_value : Fld Z h o "java/util/Optional" "value" "Ljava/lang/Object;" .null) :
    Go l Z EL0 n0 NR0 KN0 x code maxLocals ret room_1 h0 [] (Q_m_law Z p1 p2 p3 p4 p5 p6 h0) [] h 28 1000 319 #[.val (.int p1), .val (.int p2), .val (.int p3), .val (.int p4), .val (.int p5), .val (.int p6), .val (.int k), .val (.ref b), .val (.int kf), .val (.int z0), .val (.ref cc), .val (.ref s), .val (.ref o), .val .null] [] := by
  refine Go.aload (pc' := 321) at_319 rfl rfl rfl ?_
  refine Go.ifnonnullN (pc' := 324) at_321 rfl ?_
  refine Go.aload (pc' := 326) at_324 rfl rfl rfl ?_
  refine Go.callV (pc' := 329) (u := N_18) (z := N_18) (a := o) at_326 rfl (w_122 hw) (w_123 hw) (nf (w_125 hw) rfl) (w_125 hw) (w_124 hw) (by decide) E_o (argsL := []) (rest := []) (Pays.of_met (W := 0) (len := 3) (m_opr0 hw hs o h F_o_value) (w_126 hw) (w_105 hw) (by decide) (by decide)) rfl rfl (lenOf pd_7 rfl) rfl (Nat.le_of_eq rfl) mem0 (by decide) (by decide) ?_
  rintro _ _ _ - - ⟨rfl, rfl, rfl⟩
  change Go _ _ _ _ _ _ _ _ _ _ _ _ _ _ [] h 28 1000 329 #[.val (.int p1), .val (.int p2), .val (.int p3), .val (.int p4), .val (.int p5), .val (.int p6), .val (.int k), .val (.ref b), .val (.int kf), .val (.int z0), .val (.ref cc), .val (.ref s), .val (.ref o), .val .null] [(.int (0 : Int32))]
  refine Go.ifN (pc' := 332) at_329 rfl ((if0 _ _).trans (teq (rfl : (0 : Int32) = (0 : Int32))).2) ?_
  refine Go.iconst (pc' := 333) at_332 rfl ic_1 ?_
  refine Go.goto (pc' := 337) at_333 (by decide) (by decide) ?_
  exact Go.retS (ty := .boolean) at_337 rfl (by simp) rfl (by decide) (by decide) [] sn0 ⟨rfl, rfl⟩
set_option maxRecDepth 65536 in
set_option maxHeartbeats 40000000 in
theorem m_law4_1 {l : Launch} {Z : State} {a0 : Array Value} {n0 : Nat} (hw : ∀ d ∈ tables_1, d.before a0 Z = true) (hs : Stat Z) (p1 : Int32) (p2 : Int32) (p3 : Int32) (p4 : Int32) (p5 : Int32) (p6 : Int32) (k : Int32) (b : Addr) (kf : Int32) (z0 : Int32) (cc : Addr) (s : Addr) (o : Addr) (v : Addr) (h0 h : Heap) (E_o : Exa Z h o "java/util/Optional") (F_o_value : Fld Z h o "java/util/Optional" "value" "Ljava/lang/Object;" (.ref v)) :
    Go l Z EL0 n0 NR0 KN0 x code maxLocals ret room_1 h0 [] (Q_m_law Z p1 p2 p3 p4 p5 p6 h0) [] h 28 1000 319 #[.val (.int p1), .val (.int p2), .val (.int p3), .val (.int p4), .val (.int p5), .val (.int p6), .val (.int k), .val (.ref b), .val (.int kf), .val (.int z0), .val (.ref cc), .val (.ref s), .val (.ref o), .val (.ref v)] [] := by
  refine Go.aload (pc' := 321) at_319 rfl rfl rfl ?_
  refine Go.ifnonnullY (pc' := 338) at_321 (by decide) (by decide) ?_
  refine Go.aload (pc' := 340) at_338 rfl rfl rfl ?_
  refine Go.callV (pc' := 343) (u := N_18) (z := N_18) (a := o) at_340 rfl (w_122 hw) (w_123 hw) (nf (w_125 hw) rfl) (w_125 hw) (w_124 hw) (by decide) E_o (argsL := []) (rest := []) (Pays.of_met (W := 0) (len := 3) (m_opr1 hw hs o v h F_o_value) (w_126 hw) (w_105 hw) (by decide) (by decide)) rfl rfl (lenOf pd_7 rfl) rfl (Nat.le_of_eq rfl) mem0 (by decide) (by decide) ?_
  rintro _ _ _ - - ⟨rfl, rfl, rfl⟩
  change Go _ _ _ _ _ _ _ _ _ _ _ _ _ _ [] h 28 1000 343 #[.val (.int p1), .val (.int p2), .val (.int p3), .val (.int p4), .val (.int p5), .val (.int p6), .val (.int k), .val (.ref b), .val (.int kf), .val (.int z0), .val (.ref cc), .val (.ref s), .val (.ref o), .val (.ref v)] [(.int (1 : Int32))]
  refine Go.ifN (pc' := 346) at_343 rfl ((if0 _ _).trans (feq (by decide : ¬ ((1 : Int32) = (0 : Int32)))).1) ?_
  refine Go.aload (pc' := 348) at_346 rfl rfl rfl ?_
  refine Go.callV (pc' := 351) (u := N_19) (z := N_19) (a := o) at_348 rfl (w_127 hw) (w_128 hw) (nf (w_130 hw) rfl) (w_130 hw) (w_129 hw) (by decide) E_o (argsL := []) (rest := []) (Pays.of_met (W := 0) (len := 3) (m_oget hw hs o v h F_o_value) (w_131 hw) (w_105 hw) (by decide) (by decide)) rfl rfl (lenOf pd_18 rfl) rfl (Nat.le_of_eq rfl) mem0 (by decide) (by decide) ?_
  rintro _ _ _ - - ⟨rfl, rfl, rfl⟩
  change Go _ _ _ _ _ _ _ _ _ _ _ _ _ _ [] h 28 1000 351 #[.val (.int p1), .val (.int p2), .val (.int p3), .val (.int p4), .val (.int p5), .val (.int p6), .val (.int k), .val (.ref b), .val (.int kf), .val (.int z0), .val (.ref cc), .val (.ref s), .val (.ref o), .val (.ref v)] [(.ref v)]
  refine Go.aload (pc' := 353) at_351 rfl rfl rfl ?_
  refine Go.acmp (pc' := 356) (same := true) at_353 rfl rfl (decide_eq_true rfl) (by decide) (by decide) ?_
  refine Go.iconst (pc' := 357) at_356 rfl ic_1 ?_
  refine Go.goto (pc' := 361) at_357 (by decide) (by decide) ?_
  exact Go.retS (ty := .boolean) at_361 rfl (by simp) rfl (by decide) (by decide) [] sn0 ⟨rfl, rfl⟩
set_option maxRecDepth 65536 in
set_option maxHeartbeats 40000000 in
theorem m_law3_0 {l : Launch} {Z : State} {a0 : Array Value} {n0 : Nat} (hw : ∀ d ∈ tables_1, d.before a0 Z = true) (hs : Stat Z) (p1 : Int32) (p2 : Int32) (p3 : Int32) (p4 : Int32) (p5 : Int32) (p6 : Int32) (k : Int32) (b : Addr) (kf : Int32) (z0 : Int32) (cc : Addr) (s : Addr) (t : Addr) (kt : ClassId) (us : List Int32) (z : Int32) (h0 h : Heap) (E_s : Exa Z h s "java/lang/String") (F_s_coder : Fld Z h s "java/lang/String" "coder" "B" (.int (0 : Int32))) (F_s_value : Fld Z h s "java/lang/String" "value" "[B" (.ref t)) (V_t : Arv Z h t kt .byte z (us.map Value.int) (.int (0 : Int32))) (hz : z.toNatClampNeg = us.length) :
    Go l Z EL0 n0 NR0 KN0 x code maxLocals ret room_1 h0 [] (Q_m_law Z p1 p2 p3 p4 p5 p6 h0) [] h 16 500 259 #[.val (.int p1), .val (.int p2), .val (.int p3), .val (.int p4), .val (.int p5), .val (.int p6), .val (.int k), .val (.ref b), .val (.int kf), .val (.int z0), .val (.ref cc), .unset, .unset, .unset] [(.ref s)] := by
  refine Go.astore (pc' := 261) (Ls' := #[.val (.int p1), .val (.int p2), .val (.int p3), .val (.int p4), .val (.int p5), .val (.int p6), .val (.int k), .val (.ref b), .val (.int kf), .val (.int z0), .val (.ref cc), .val (.ref s), .unset, .unset]) at_259 rfl rfl rfl ?_
  refine Go.aload (pc' := 263) at_261 rfl rfl rfl ?_
  refine Go.callS (pc' := 266) (z := N_22) at_263 rfl (w_70 hw) (w_71 hw) (w_72 hw) (w_73 hw) (by decide) (argsL := [(.ref s)]) (rest := []) (Pays.of_met (W := 0) (len := 3) (m_ofc hw hs s t kt us z h E_s F_s_coder F_s_value V_t (hz)) (w_73 hw) (w_72 hw) (by decide) (by decide)) rfl rfl (lenOf pd_19 rfl) rfl (Nat.le_of_eq rfl) mem0 (by decide) (by decide) ?_
  rintro _ h110 _ K111 le112 ⟨b108, v109, rfl, rfl, p113, p114, p115, p116⟩
  replace E_s := E_s.keep K111
  replace F_s_coder := F_s_coder.keep K111 nin0
  replace F_s_value := F_s_value.keep K111 nin0
  replace V_t := V_t.keep K111 nin0
  have E_b108 := p113
  have F_b108_value := p114
  change Go _ _ _ _ _ _ _ _ _ _ _ _ _ _ [] h110 18 504 266 #[.val (.int p1), .val (.int p2), .val (.int p3), .val (.int p4), .val (.int p5), .val (.int p6), .val (.int k), .val (.ref b), .val (.int kf), .val (.int z0), .val (.ref cc), .val (.ref s), .unset, .unset] [(.ref b108)]
  refine Go.astore (pc' := 268) (Ls' := #[.val (.int p1), .val (.int p2), .val (.int p3), .val (.int p4), .val (.int p5), .val (.int p6), .val (.int k), .val (.ref b), .val (.int kf), .val (.int z0), .val (.ref cc), .val (.ref s), .val (.ref b108), .unset]) at_266 rfl rfl rfl ?_
  refine Go.aload (pc' := 270) at_268 rfl rfl rfl ?_
  refine Go.ldcS (pc' := 272) (nn := 36) (z := 9) (vs := [(.int (114 : Int32)), (.int (101 : Int32)), (.int (113 : Int32)), (.int (117 : Int32)), (.int (101 : Int32)), (.int (115 : Int32)), (.int (116 : Int32)), (.int (111 : Int32)), (.int (114 : Int32))]) rfl at_270 rfl (w_1 hw) (sA hw) (by decide) lit_1 (by decide) (by decide) (by decide) (by decide) (by decide) (by decide) ?_
  intro h117 s118 t119 q120 x121 E_s118 F_s118_coder F_s118_value V_t119 ne122
  replace E_s := E_s.ext x121
  replace F_s_coder := F_s_coder.ext x121
  replace F_s_value := F_s_value.ext x121
  replace V_t := V_t.ext x121
  replace E_b108 := E_b108.ext x121
  replace F_b108_value := F_b108_value.ext x121
  change Go _ _ _ _ _ _ _ _ _ _ _ _ _ _ [] h117 20 544 272 #[.val (.int p1), .val (.int p2), .val (.int p3), .val (.int p4), .val (.int p5), .val (.int p6), .val (.int k), .val (.ref b), .val (.int kf), .val (.int z0), .val (.ref cc), .val (.ref s), .val (.ref b108), .unset] [(.ref s118), (.ref s)]
  replace V_t119 : Arv Z h117 t119 q120 .byte (9 : Int32) ([(114 : Int32), (101 : Int32), (113 : Int32), (117 : Int32), (101 : Int32), (115 : Int32), (116 : Int32), (111 : Int32), (114 : Int32)].map Value.int) (.int (0 : Int32)) := V_t119
  refine Go.callV (pc' := 275) (u := N_13) (z := N_13) (a := s) at_272 rfl (w_120 hw) (w_95 hw) (nf (w_97 hw) rfl) (w_97 hw) (w_96 hw) (by decide) E_s (argsL := [(.ref s118)]) (rest := []) (Pays.of_met (W := 0) (len := 3) (m_seq hw hs s s118 t t119 kt q120 us [(114 : Int32), (101 : Int32), (113 : Int32), (117 : Int32), (101 : Int32), (115 : Int32), (116 : Int32), (111 : Int32), (114 : Int32)] z (9 : Int32) h117 E_s F_s_coder F_s_value V_t E_s118 F_s118_coder F_s118_value V_t119 (hz) (rfl)) (w_98 hw) (w_2 hw) (by decide) (by decide)) rfl rfl (lenOf pd_15 rfl) rfl (Nat.le_of_eq rfl) mem0 (by decide) (by decide) ?_
  rintro _ _ _ - - ⟨rfl, rfl, rfl⟩
  change Go _ _ _ _ _ _ _ _ _ _ _ _ _ _ [] h117 20 544 275 #[.val (.int p1), .val (.int p2), .val (.int p3), .val (.int p4), .val (.int p5), .val (.int p6), .val (.int k), .val (.ref b), .val (.int kf), .val (.int z0), .val (.ref cc), .val (.ref s), .val (.ref b108), .unset] [(.int (own_eqb us [(114 : Int32), (101 : Int32), (113 : Int32), (117 : Int32), (101 : Int32), (115 : Int32), (116 : Int32), (111 : Int32), (114 : Int32)]))]
  rcases (Classical.em ((own_eqb us [(114 : Int32), (101 : Int32), (113 : Int32), (117 : Int32), (101 : Int32), (115 : Int32), (116 : Int32), (111 : Int32), (114 : Int32)]) = (0 : Int32))).symm with hq0 | hq0
  · skip
    refine Go.ifN (pc' := 278) at_275 rfl ((if0 _ _).trans (feq (hq0 : ¬ ((own_eqb us [(114 : Int32), (101 : Int32), (113 : Int32), (117 : Int32), (101 : Int32), (115 : Int32), (116 : Int32), (111 : Int32), (114 : Int32)]) = (0 : Int32)))).1) ?_
    obtain ⟨S_b, -⟩ := hs_b0 hs
    refine Go.getS (pc' := 281) at_278 rfl (host := "") (Or.inl (w_121 hw)) Via.refl S_b ?_
    refine Go.goto (pc' := 317) at_281 (by decide) (by decide) ?_
    refine Go.astore (pc' := 319) (Ls' := #[.val (.int p1), .val (.int p2), .val (.int p3), .val (.int p4), .val (.int p5), .val (.int p6), .val (.int k), .val (.ref b), .val (.int kf), .val (.int z0), .val (.ref cc), .val (.ref s), .val (.ref b108), .val (.ref (stRef Z "com/example/tapstone/tapstone/server/Role" "REQUESTOR" "Lcom/example/tapstone/tapstone/server/Role;"))]) at_317 rfl rfl rfl ?_
    rw [p116] at F_b108_value
    rw [(brandV_0  (own_eqb1 hq0))] at F_b108_value
    exact Go.more (k' := 28) (n' := 1000) (by decide) (by decide) (Go.fewer mem0 (m_law4_1 hw hs p1 p2 p3 p4 p5 p6 k b kf z0 cc s b108 (stRef Z "com/example/tapstone/tapstone/server/Role" "REQUESTOR" "Lcom/example/tapstone/tapstone/server/Role;") h0 h117 E_b108 F_b108_value))
  · skip
    refine Go.ifY (pc' := 284) at_275 (by decide) (by decide) ((if0 _ _).trans (teq (hq0 : (own_eqb us [(114 : Int32), (101 : Int32), (113 : Int32), (117 : Int32), (101 : Int32), (115 : Int32), (116 : Int32), (111 : Int32), (114 : Int32)]) = (0 : Int32))).1) ?_
    refine Go.aload (pc' := 286) at_284 rfl rfl rfl ?_
    refine Go.ldcS (pc' := 288) (nn := 28) (z := 7) (vs := [(.int (110 : Int32)), (.int (101 : Int32)), (.int (116 : Int32)), (.int (119 : Int32)), (.int (111 : Int32)), (.int (114 : Int32)), (.int (107 : Int32))]) rfl at_286 rfl (w_132 hw) (sA hw) (by decide) lit_2 (by decide) (by decide) (by decide) (by decide) (by decide) (by decide) ?_
    intro h123 s124 t125 q126 x127 E_s124 F_s124_coder F_s124_value V_t125 ne128
    replace E_s := E_s.ext x127
    replace F_s_coder := F_s_coder.ext x127
    replace F_s_value := F_s_value.ext x127
    replace V_t := V_t.ext x127
    replace E_b108 := E_b108.ext x127
    replace F_b108_value := F_b108_value.ext x127
    replace E_s118 := E_s118.ext x127
    replace F_s118_coder := F_s118_coder.ext x127
    replace F_s118_value := F_s118_value.ext x127
    replace V_t119 := V_t119.ext x127
    change Go _ _ _ _ _ _ _ _ _ _ _ _ _ _ [] h123 22 576 288 #[.val (.int p1), .val (.int p2), .val (.int p3), .val (.int p4), .val (.int p5), .val (.int p6), .val (.int k), .val (.ref b), .val (.int kf), .val (.int z0), .val (.ref cc), .val (.ref s), .val (.ref b108), .unset] [(.ref s124), (.ref s)]
    replace V_t125 : Arv Z h123 t125 q126 .byte (7 : Int32) ([(110 : Int32), (101 : Int32), (116 : Int32), (119 : Int32), (111 : Int32), (114 : Int32), (107 : Int32)].map Value.int) (.int (0 : Int32)) := V_t125
    refine Go.callV (pc' := 291) (u := N_13) (z := N_13) (a := s) at_288 rfl (w_120 hw) (w_95 hw) (nf (w_97 hw) rfl) (w_97 hw) (w_96 hw) (by decide) E_s (argsL := [(.ref s124)]) (rest := []) (Pays.of_met (W := 0) (len := 3) (m_seq hw hs s s124 t t125 kt q126 us [(110 : Int32), (101 : Int32), (116 : Int32), (119 : Int32), (111 : Int32), (114 : Int32), (107 : Int32)] z (7 : Int32) h123 E_s F_s_coder F_s_value V_t E_s124 F_s124_coder F_s124_value V_t125 (hz) (rfl)) (w_98 hw) (w_2 hw) (by decide) (by decide)) rfl rfl (lenOf pd_15 rfl) rfl (Nat.le_of_eq rfl) mem0 (by decide) (by decide) ?_
    rintro _ _ _ - - ⟨rfl, rfl, rfl⟩
    change Go _ _ _ _ _ _ _ _ _ _ _ _ _ _ [] h123 22 576 291 #[.val (.int p1), .val (.int p2), .val (.int p3), .val (.int p4), .val (.int p5), .val (.int p6), .val (.int k), .val (.ref b), .val (.int kf), .val (.int z0), .val (.ref cc), .val (.ref s), .val (.ref b108), .unset] [(.int (own_eqb us [(110 : Int32), (101 : Int32), (116 : Int32), (119 : Int32), (111 : Int32), (114 : Int32), (107 : Int32)]))]
    rcases (Classical.em ((own_eqb us [(110 : Int32), (101 : Int32), (116 : Int32), (119 : Int32), (111 : Int32), (114 : Int32), (107 : Int32)]) = (0 : Int32))).symm with hq1 | hq1
    · skip
      refine Go.ifN (pc' := 294) at_291 rfl ((if0 _ _).trans (feq (hq1 : ¬ ((own_eqb us [(110 : Int32), (101 : Int32), (116 : Int32), (119 : Int32), (111 : Int32), (114 : Int32), (107 : Int32)]) = (0 : Int32)))).1) ?_
      obtain ⟨S_b, -⟩ := hs_b1 hs
      refine Go.getS (pc' := 297) at_294 rfl (host := "") (Or.inl (w_139 hw)) Via.refl S_b ?_
      refine Go.goto (pc' := 317) at_297 (by decide) (by decide) ?_
      refine Go.astore (pc' := 319) (Ls' := #[.val (.int p1), .val (.int p2), .val (.int p3), .val (.int p4), .val (.int p5), .val (.int p6), .val (.int k), .val (.ref b), .val (.int kf), .val (.int z0), .val (.ref cc), .val (.ref s), .val (.ref b108), .val (.ref (stRef Z "com/example/tapstone/tapstone/server/Role" "NETWORK" "Lcom/example/tapstone/tapstone/server/Role;"))]) at_317 rfl rfl rfl ?_
      rw [p116] at F_b108_value
      rw [(brandV_1 (fun e => absurd ((own_eqb1 hq1).symm.trans e) (by decide)) (own_eqb1 hq1))] at F_b108_value
      exact Go.more (k' := 28) (n' := 1000) (by decide) (by decide) (Go.fewer mem0 (m_law4_1 hw hs p1 p2 p3 p4 p5 p6 k b kf z0 cc s b108 (stRef Z "com/example/tapstone/tapstone/server/Role" "NETWORK" "Lcom/example/tapstone/tapstone/server/Role;") h0 h123 E_b108 F_b108_value))
    · skip
      refine Go.ifY (pc' := 300) at_291 (by decide) (by decide) ((if0 _ _).trans (teq (hq1 : (own_eqb us [(110 : Int32), (101 : Int32), (116 : Int32), (119 : Int32), (111 : Int32), (114 : Int32), (107 : Int32)]) = (0 : Int32))).1) ?_
      refine Go.aload (pc' := 302) at_300 rfl rfl rfl ?_
      refine Go.ldcS (pc' := 304) (nn := 40) (z := 10) (vs := [(.int (105 : Int32)), (.int (110 : Int32)), (.int (116 : Int32)), (.int (101 : Int32)), (.int (103 : Int32)), (.int (114 : Int32)), (.int (97 : Int32)), (.int (116 : Int32)), (.int (111 : Int32)), (.int (114 : Int32))]) rfl at_302 rfl (w_137 hw) (sA hw) (by decide) lit_3 (by decide) (by decide) (by decide) (by decide) (by decide) (by decide) ?_
      intro h129 s130 t131 q132 x133 E_s130 F_s130_coder F_s130_value V_t131 ne134
      replace E_s := E_s.ext x133
      replace F_s_coder := F_s_coder.ext x133
      replace F_s_value := F_s_value.ext x133
      replace V_t := V_t.ext x133
      replace E_b108 := E_b108.ext x133
      replace F_b108_value := F_b108_value.ext x133
      replace E_s118 := E_s118.ext x133
      replace F_s118_coder := F_s118_coder.ext x133
      replace F_s118_value := F_s118_value.ext x133
      replace V_t119 := V_t119.ext x133
      replace E_s124 := E_s124.ext x133
      replace F_s124_coder := F_s124_coder.ext x133
      replace F_s124_value := F_s124_value.ext x133
      replace V_t125 := V_t125.ext x133
      change Go _ _ _ _ _ _ _ _ _ _ _ _ _ _ [] h129 24 620 304 #[.val (.int p1), .val (.int p2), .val (.int p3), .val (.int p4), .val (.int p5), .val (.int p6), .val (.int k), .val (.ref b), .val (.int kf), .val (.int z0), .val (.ref cc), .val (.ref s), .val (.ref b108), .unset] [(.ref s130), (.ref s)]
      replace V_t131 : Arv Z h129 t131 q132 .byte (10 : Int32) ([(105 : Int32), (110 : Int32), (116 : Int32), (101 : Int32), (103 : Int32), (114 : Int32), (97 : Int32), (116 : Int32), (111 : Int32), (114 : Int32)].map Value.int) (.int (0 : Int32)) := V_t131
      refine Go.callV (pc' := 307) (u := N_13) (z := N_13) (a := s) at_304 rfl (w_120 hw) (w_95 hw) (nf (w_97 hw) rfl) (w_97 hw) (w_96 hw) (by decide) E_s (argsL := [(.ref s130)]) (rest := []) (Pays.of_met (W := 0) (len := 3) (m_seq hw hs s s130 t t131 kt q132 us [(105 : Int32), (110 : Int32), (116 : Int32), (101 : Int32), (103 : Int32), (114 : Int32), (97 : Int32), (116 : Int32), (111 : Int32), (114 : Int32)] z (10 : Int32) h129 E_s F_s_coder F_s_value V_t E_s130 F_s130_coder F_s130_value V_t131 (hz) (rfl)) (w_98 hw) (w_2 hw) (by decide) (by decide)) rfl rfl (lenOf pd_15 rfl) rfl (Nat.le_of_eq rfl) mem0 (by decide) (by decide) ?_
      rintro _ _ _ - - ⟨rfl, rfl, rfl⟩
      change Go _ _ _ _ _ _ _ _ _ _ _ _ _ _ [] h129 24 620 307 #[.val (.int p1), .val (.int p2), .val (.int p3), .val (.int p4), .val (.int p5), .val (.int p6), .val (.int k), .val (.ref b), .val (.int kf), .val (.int z0), .val (.ref cc), .val (.ref s), .val (.ref b108), .unset] [(.int (own_eqb us [(105 : Int32), (110 : Int32), (116 : Int32), (101 : Int32), (103 : Int32), (114 : Int32), (97 : Int32), (116 : Int32), (111 : Int32), (114 : Int32)]))]
      rcases (Classical.em ((own_eqb us [(105 : Int32), (110 : Int32), (116 : Int32), (101 : Int32), (103 : Int32), (114 : Int32), (97 : Int32), (116 : Int32), (111 : Int32), (114 : Int32)]) = (0 : Int32))).symm with hq2 | hq2
      · skip
        refine Go.ifN (pc' := 310) at_307 rfl ((if0 _ _).trans (feq (hq2 : ¬ ((own_eqb us [(105 : Int32), (110 : Int32), (116 : Int32), (101 : Int32), (103 : Int32), (114 : Int32), (97 : Int32), (116 : Int32), (111 : Int32), (114 : Int32)]) = (0 : Int32)))).1) ?_
        obtain ⟨S_b, -⟩ := hs_b2 hs
        refine Go.getS (pc' := 313) at_310 rfl (host := "") (Or.inl (w_140 hw)) Via.refl S_b ?_
        refine Go.goto (pc' := 317) at_313 (by decide) (by decide) ?_
        refine Go.astore (pc' := 319) (Ls' := #[.val (.int p1), .val (.int p2), .val (.int p3), .val (.int p4), .val (.int p5), .val (.int p6), .val (.int k), .val (.ref b), .val (.int kf), .val (.int z0), .val (.ref cc), .val (.ref s), .val (.ref b108), .val (.ref (stRef Z "com/example/tapstone/tapstone/server/Role" "INTEGRATOR" "Lcom/example/tapstone/tapstone/server/Role;"))]) at_317 rfl rfl rfl ?_
        rw [p116] at F_b108_value
        rw [(brandV_2 (fun e => absurd ((own_eqb1 hq2).symm.trans e) (by decide)) (fun e => absurd ((own_eqb1 hq2).symm.trans e) (by decide)) (own_eqb1 hq2))] at F_b108_value
        exact Go.more (k' := 28) (n' := 1000) (by decide) (by decide) (Go.fewer mem0 (m_law4_1 hw hs p1 p2 p3 p4 p5 p6 k b kf z0 cc s b108 (stRef Z "com/example/tapstone/tapstone/server/Role" "INTEGRATOR" "Lcom/example/tapstone/tapstone/server/Role;") h0 h129 E_b108 F_b108_value))
      · skip
        refine Go.ifY (pc' := 316) at_307 (by decide) (by decide) ((if0 _ _).trans (teq (hq2 : (own_eqb us [(105 : Int32), (110 : Int32), (116 : Int32), (101 : Int32), (103 : Int32), (114 : Int32), (97 : Int32), (116 : Int32), (111 : Int32), (114 : Int32)]) = (0 : Int32))).1) ?_
        refine Go.aconst_null (pc' := 317) at_316 rfl ?_
        refine Go.astore (pc' := 319) (Ls' := #[.val (.int p1), .val (.int p2), .val (.int p3), .val (.int p4), .val (.int p5), .val (.int p6), .val (.int k), .val (.ref b), .val (.int kf), .val (.int z0), .val (.ref cc), .val (.ref s), .val (.ref b108), .val .null]) at_317 rfl rfl rfl ?_
        rw [p116] at F_b108_value
        rw [(brandV_3 (own_eqb0 hq0) (own_eqb0 hq1) (own_eqb0 hq2))] at F_b108_value
        exact Go.more (k' := 28) (n' := 1000) (by decide) (by decide) (Go.fewer mem0 (m_law4_0 hw hs p1 p2 p3 p4 p5 p6 k b kf z0 cc s b108 h0 h129 E_b108 F_b108_value))
set_option maxRecDepth 65536 in
set_option maxHeartbeats 40000000 in
theorem m_law2_0 {l : Launch} {Z : State} {a0 : Array Value} {n0 : Nat} (hw : ∀ d ∈ tables_1, d.before a0 Z = true) (hs : Stat Z) (p1 : Int32) (p2 : Int32) (p3 : Int32) (p4 : Int32) (p5 : Int32) (p6 : Int32) (k : Int32) (b : Addr) (kf : Int32) (z0 : Int32) (cc : Addr) (kc : ClassId) (cs : List Int32) (h0 h : Heap) (V_cc : Arv Z h cc kc .char z0 (cs.map Value.int) (.int (0 : Int32))) (zb1 : ¬ z0 < 0) (zb2 : z0.toNatClampNeg ≤ 11) (hzc : z0.toNatClampNeg = cs.length) (hcs : ∀ x ∈ cs, ¬ x < 0 ∧ ¬ 255 < x) :
    Go l Z EL0 n0 NR0 KN0 x code maxLocals ret room_1 h0 [] (Q_m_law Z p1 p2 p3 p4 p5 p6 h0) [cc] h 8 250 250 #[.val (.int p1), .val (.int p2), .val (.int p3), .val (.int p4), .val (.int p5), .val (.int p6), .val (.int k), .val (.ref b), .val (.int kf), .val (.int z0), .val (.ref cc), .unset, .unset, .unset] [] := by
  refine Go.newO (pc' := 253) at_250 rfl (w_49 hw) (w_3 hw) (w_2 hw) (by decide) (by decide) ?_
  intro h135 b136 g137 ge_b136 x138 E_b136 D_b136 U_b136
  have o_cc_b136 : cc ≠ b136 := Nat.ne_of_lt (Nat.lt_of_lt_of_le V_cc.lt (Nat.le_of_eq g137))
  replace V_cc := V_cc.ext x138
  have F_b136_value : Fld Z h135 b136 "java/lang/String" "value" "[B" .null := D_b136 (Or.inr (w_5 hw)) (ty := (.array .byte)) (by decide)
  have F_b136_coder : Fld Z h135 b136 "java/lang/String" "coder" "B" (.int (0 : Int32)) := D_b136 (Or.inr (w_6 hw)) (ty := .byte) (by decide)
  change Go _ _ _ _ _ _ _ _ _ _ _ _ _ _ [b136, cc] h135 9 254 253 #[.val (.int p1), .val (.int p2), .val (.int p3), .val (.int p4), .val (.int p5), .val (.int p6), .val (.int k), .val (.ref b), .val (.int kf), .val (.int z0), .val (.ref cc), .unset, .unset, .unset] [(.ref b136)]
  refine Go.dup (pc' := 254) at_253 rfl rfl ?_
  refine Go.aload (pc' := 256) at_254 rfl rfl rfl ?_
  by_cases hcn : cs = []
  · subst hcn
    have z00 : z0 = 0 := own_clamp_inj zb1 (by decide) hzc
    subst z00
    replace V_cc : Arv Z h135 cc kc .char (0 : Int32) [] (.int (0 : Int32)) := V_cc
    refine Go.callI (pc' := 259) (z := N_4) (a := b136) at_256 rfl rfl (w_50 hw) (w_51 hw) (w_52 hw) (by decide) (argsL := [(.ref cc)]) (rest := [(.ref b136)]) (Pays.of_met (W := 1) (len := 3) (m_stre hw hs b136 cc kc [] h135 E_b136 F_b136_coder F_b136_value V_cc o_cc_b136) (w_52 hw) (w_2 hw) (by decide) (by decide)) rfl rfl (lenOf pd_20 rfl) rfl (Nat.le_of_eq rfl) (memS (List.mem_of_getElem? (i := 0) rfl) mem0) (by decide) (by decide) ?_
    rintro _ h141 _ K142 le143 ⟨b139, q140, rfl, rfl, p144, p145, p146, p147⟩
    replace V_cc := V_cc.keep K142 (ninS o_cc_b136 nin0)
    replace E_b136 := E_b136.keep K142
    have F_b136_coder := p145
    have F_b136_value := p146
    have V_b139 := p147
    change Go _ _ _ _ _ _ _ _ _ _ _ _ _ _ [b136, cc] h141 13 262 259 #[.val (.int p1), .val (.int p2), .val (.int p3), .val (.int p4), .val (.int p5), .val (.int p6), .val (.int k), .val (.ref b), .val (.int kf), .val (.int (0 : Int32)), .val (.ref cc), .unset, .unset, .unset] [(.ref b136)]
    replace V_b139 : Arv Z h141 b139 q140 .byte (0 : Int32) ([].map Value.int) (.int (0 : Int32)) := V_b139
    exact Go.more (k' := 16) (n' := 500) (by decide) (by decide) (Go.fewer mem0 (m_law3_0 hw hs p1 p2 p3 p4 p5 p6 k b kf (0 : Int32) cc b136 b139 q140 [] (0 : Int32) h0 h141 E_b136 F_b136_coder F_b136_value V_b139 (rfl)))
  · skip
    refine Go.callI (pc' := 259) (z := N_4) (a := b136) at_256 rfl rfl (w_50 hw) (w_51 hw) (w_52 hw) (by decide) (argsL := [(.ref cc)]) (rest := [(.ref b136)]) (Pays.of_met (W := 1) (len := 3) (m_str hw hs b136 cc kc cs z0 h135 E_b136 F_b136_coder F_b136_value V_cc (hzc) (hcs) (hcn) (zb2) o_cc_b136) (w_52 hw) (w_2 hw) (by decide) (by decide)) rfl rfl (lenOf pd_20 rfl) rfl (Nat.le_of_eq rfl) (memS (List.mem_of_getElem? (i := 0) rfl) mem0) (by decide) (by decide) ?_
    rintro _ h150 _ K151 le152 ⟨b148, q149, rfl, rfl, p153, p154, p155, p156, p157⟩
    have o_cc_b148 : cc ≠ b148 := Nat.ne_of_lt (Nat.lt_of_lt_of_le V_cc.lt p157)
    have o_b136_b148 : b136 ≠ b148 := Nat.ne_of_lt (Nat.lt_of_lt_of_le E_b136.lt p157)
    have ge_b148 := Nat.le_trans le152 p157
    replace V_cc := V_cc.keep K151 (ninS o_cc_b136 nin0)
    replace E_b136 := E_b136.keep K151
    have F_b136_coder := p154
    have F_b136_value := p155
    have V_b148 := p156
    change Go _ _ _ _ _ _ _ _ _ _ _ _ _ _ [b136, cc] h150 10 265 259 #[.val (.int p1), .val (.int p2), .val (.int p3), .val (.int p4), .val (.int p5), .val (.int p6), .val (.int k), .val (.ref b), .val (.int kf), .val (.int z0), .val (.ref cc), .unset, .unset, .unset] [(.ref b136)]
    rw [own_low_map] at V_b148
    exact Go.more (k' := 16) (n' := 500) (by decide) (by decide) (Go.fewer mem0 (m_law3_0 hw hs p1 p2 p3 p4 p5 p6 k b kf z0 cc b136 b148 q149 (cs.map (fun c => c.toInt8.toInt32)) z0 h0 h150 E_b136 F_b136_coder F_b136_value V_b148 (by rw [List.length_map]; exact hzc)))
set_option maxRecDepth 65536 in
set_option maxHeartbeats 40000000 in
theorem m_law3_1 {l : Launch} {Z : State} {a0 : Array Value} {n0 : Nat} (hw : ∀ d ∈ tables_1, d.before a0 Z = true) (hs : Stat Z) (p1 : Int32) (p2 : Int32) (p3 : Int32) (p4 : Int32) (p5 : Int32) (p6 : Int32) (k : Int32) (b : Addr) (kf : Int32) (z0 : Int32) (cc : Addr) (x11 : Int32) (s : Addr) (t : Addr) (kt : ClassId) (us : List Int32) (z : Int32) (h0 h : Heap) (E_s : Exa Z h s "java/lang/String") (F_s_coder : Fld Z h s "java/lang/String" "coder" "B" (.int (0 : Int32))) (F_s_value : Fld Z h s "java/lang/String" "value" "[B" (.ref t)) (V_t : Arv Z h t kt .byte z (us.map Value.int) (.int (0 : Int32))) (hz : z.toNatClampNeg = us.length) :
    Go l Z EL0 n0 NR0 KN0 x code maxLocals ret room_1 h0 [] (Q_m_law Z p1 p2 p3 p4 p5 p6 h0) [] h 16 500 259 #[.val (.int p1), .val (.int p2), .val (.int p3), .val (.int p4), .val (.int p5), .val (.int p6), .val (.int k), .val (.ref b), .val (.int kf), .val (.int z0), .val (.ref cc), .val (.int x11), .unset, .unset] [(.ref s)] := by
  refine Go.astore (pc' := 261) (Ls' := #[.val (.int p1), .val (.int p2), .val (.int p3), .val (.int p4), .val (.int p5), .val (.int p6), .val (.int k), .val (.ref b), .val (.int kf), .val (.int z0), .val (.ref cc), .val (.ref s), .unset, .unset]) at_259 rfl rfl rfl ?_
  refine Go.aload (pc' := 263) at_261 rfl rfl rfl ?_
  refine Go.callS (pc' := 266) (z := N_22) at_263 rfl (w_70 hw) (w_71 hw) (w_72 hw) (w_73 hw) (by decide) (argsL := [(.ref s)]) (rest := []) (Pays.of_met (W := 0) (len := 3) (m_ofc hw hs s t kt us z h E_s F_s_coder F_s_value V_t (hz)) (w_73 hw) (w_72 hw) (by decide) (by decide)) rfl rfl (lenOf pd_19 rfl) rfl (Nat.le_of_eq rfl) mem0 (by decide) (by decide) ?_
  rintro _ h160 _ K161 le162 ⟨b158, v159, rfl, rfl, p163, p164, p165, p166⟩
  replace E_s := E_s.keep K161
  replace F_s_coder := F_s_coder.keep K161 nin0
  replace F_s_value := F_s_value.keep K161 nin0
  replace V_t := V_t.keep K161 nin0
  have E_b158 := p163
  have F_b158_value := p164
  change Go _ _ _ _ _ _ _ _ _ _ _ _ _ _ [] h160 18 504 266 #[.val (.int p1), .val (.int p2), .val (.int p3), .val (.int p4), .val (.int p5), .val (.int p6), .val (.int k), .val (.ref b), .val (.int kf), .val (.int z0), .val (.ref cc), .val (.ref s), .unset, .unset] [(.ref b158)]
  refine Go.astore (pc' := 268) (Ls' := #[.val (.int p1), .val (.int p2), .val (.int p3), .val (.int p4), .val (.int p5), .val (.int p6), .val (.int k), .val (.ref b), .val (.int kf), .val (.int z0), .val (.ref cc), .val (.ref s), .val (.ref b158), .unset]) at_266 rfl rfl rfl ?_
  refine Go.aload (pc' := 270) at_268 rfl rfl rfl ?_
  refine Go.ldcS (pc' := 272) (nn := 36) (z := 9) (vs := [(.int (114 : Int32)), (.int (101 : Int32)), (.int (113 : Int32)), (.int (117 : Int32)), (.int (101 : Int32)), (.int (115 : Int32)), (.int (116 : Int32)), (.int (111 : Int32)), (.int (114 : Int32))]) rfl at_270 rfl (w_1 hw) (sA hw) (by decide) lit_1 (by decide) (by decide) (by decide) (by decide) (by decide) (by decide) ?_
  intro h167 s168 t169 q170 x171 E_s168 F_s168_coder F_s168_value V_t169 ne172
  replace E_s := E_s.ext x171
  replace F_s_coder := F_s_coder.ext x171
  replace F_s_value := F_s_value.ext x171
  replace V_t := V_t.ext x171
  replace E_b158 := E_b158.ext x171
  replace F_b158_value := F_b158_value.ext x171
  change Go _ _ _ _ _ _ _ _ _ _ _ _ _ _ [] h167 20 544 272 #[.val (.int p1), .val (.int p2), .val (.int p3), .val (.int p4), .val (.int p5), .val (.int p6), .val (.int k), .val (.ref b), .val (.int kf), .val (.int z0), .val (.ref cc), .val (.ref s), .val (.ref b158), .unset] [(.ref s168), (.ref s)]
  replace V_t169 : Arv Z h167 t169 q170 .byte (9 : Int32) ([(114 : Int32), (101 : Int32), (113 : Int32), (117 : Int32), (101 : Int32), (115 : Int32), (116 : Int32), (111 : Int32), (114 : Int32)].map Value.int) (.int (0 : Int32)) := V_t169
  refine Go.callV (pc' := 275) (u := N_13) (z := N_13) (a := s) at_272 rfl (w_120 hw) (w_95 hw) (nf (w_97 hw) rfl) (w_97 hw) (w_96 hw) (by decide) E_s (argsL := [(.ref s168)]) (rest := []) (Pays.of_met (W := 0) (len := 3) (m_seq hw hs s s168 t t169 kt q170 us [(114 : Int32), (101 : Int32), (113 : Int32), (117 : Int32), (101 : Int32), (115 : Int32), (116 : Int32), (111 : Int32), (114 : Int32)] z (9 : Int32) h167 E_s F_s_coder F_s_value V_t E_s168 F_s168_coder F_s168_value V_t169 (hz) (rfl)) (w_98 hw) (w_2 hw) (by decide) (by decide)) rfl rfl (lenOf pd_15 rfl) rfl (Nat.le_of_eq rfl) mem0 (by decide) (by decide) ?_
  rintro _ _ _ - - ⟨rfl, rfl, rfl⟩
  change Go _ _ _ _ _ _ _ _ _ _ _ _ _ _ [] h167 20 544 275 #[.val (.int p1), .val (.int p2), .val (.int p3), .val (.int p4), .val (.int p5), .val (.int p6), .val (.int k), .val (.ref b), .val (.int kf), .val (.int z0), .val (.ref cc), .val (.ref s), .val (.ref b158), .unset] [(.int (own_eqb us [(114 : Int32), (101 : Int32), (113 : Int32), (117 : Int32), (101 : Int32), (115 : Int32), (116 : Int32), (111 : Int32), (114 : Int32)]))]
  rcases (Classical.em ((own_eqb us [(114 : Int32), (101 : Int32), (113 : Int32), (117 : Int32), (101 : Int32), (115 : Int32), (116 : Int32), (111 : Int32), (114 : Int32)]) = (0 : Int32))).symm with hq0 | hq0
  · skip
    refine Go.ifN (pc' := 278) at_275 rfl ((if0 _ _).trans (feq (hq0 : ¬ ((own_eqb us [(114 : Int32), (101 : Int32), (113 : Int32), (117 : Int32), (101 : Int32), (115 : Int32), (116 : Int32), (111 : Int32), (114 : Int32)]) = (0 : Int32)))).1) ?_
    obtain ⟨S_b, -⟩ := hs_b0 hs
    refine Go.getS (pc' := 281) at_278 rfl (host := "") (Or.inl (w_121 hw)) Via.refl S_b ?_
    refine Go.goto (pc' := 317) at_281 (by decide) (by decide) ?_
    refine Go.astore (pc' := 319) (Ls' := #[.val (.int p1), .val (.int p2), .val (.int p3), .val (.int p4), .val (.int p5), .val (.int p6), .val (.int k), .val (.ref b), .val (.int kf), .val (.int z0), .val (.ref cc), .val (.ref s), .val (.ref b158), .val (.ref (stRef Z "com/example/tapstone/tapstone/server/Role" "REQUESTOR" "Lcom/example/tapstone/tapstone/server/Role;"))]) at_317 rfl rfl rfl ?_
    rw [p166] at F_b158_value
    rw [(brandV_0  (own_eqb1 hq0))] at F_b158_value
    exact Go.more (k' := 28) (n' := 1000) (by decide) (by decide) (Go.fewer mem0 (m_law4_1 hw hs p1 p2 p3 p4 p5 p6 k b kf z0 cc s b158 (stRef Z "com/example/tapstone/tapstone/server/Role" "REQUESTOR" "Lcom/example/tapstone/tapstone/server/Role;") h0 h167 E_b158 F_b158_value))
  · skip
    refine Go.ifY (pc' := 284) at_275 (by decide) (by decide) ((if0 _ _).trans (teq (hq0 : (own_eqb us [(114 : Int32), (101 : Int32), (113 : Int32), (117 : Int32), (101 : Int32), (115 : Int32), (116 : Int32), (111 : Int32), (114 : Int32)]) = (0 : Int32))).1) ?_
    refine Go.aload (pc' := 286) at_284 rfl rfl rfl ?_
    refine Go.ldcS (pc' := 288) (nn := 28) (z := 7) (vs := [(.int (110 : Int32)), (.int (101 : Int32)), (.int (116 : Int32)), (.int (119 : Int32)), (.int (111 : Int32)), (.int (114 : Int32)), (.int (107 : Int32))]) rfl at_286 rfl (w_132 hw) (sA hw) (by decide) lit_2 (by decide) (by decide) (by decide) (by decide) (by decide) (by decide) ?_
    intro h173 s174 t175 q176 x177 E_s174 F_s174_coder F_s174_value V_t175 ne178
    replace E_s := E_s.ext x177
    replace F_s_coder := F_s_coder.ext x177
    replace F_s_value := F_s_value.ext x177
    replace V_t := V_t.ext x177
    replace E_b158 := E_b158.ext x177
    replace F_b158_value := F_b158_value.ext x177
    replace E_s168 := E_s168.ext x177
    replace F_s168_coder := F_s168_coder.ext x177
    replace F_s168_value := F_s168_value.ext x177
    replace V_t169 := V_t169.ext x177
    change Go _ _ _ _ _ _ _ _ _ _ _ _ _ _ [] h173 22 576 288 #[.val (.int p1), .val (.int p2), .val (.int p3), .val (.int p4), .val (.int p5), .val (.int p6), .val (.int k), .val (.ref b), .val (.int kf), .val (.int z0), .val (.ref cc), .val (.ref s), .val (.ref b158), .unset] [(.ref s174), (.ref s)]
    replace V_t175 : Arv Z h173 t175 q176 .byte (7 : Int32) ([(110 : Int32), (101 : Int32), (116 : Int32), (119 : Int32), (111 : Int32), (114 : Int32), (107 : Int32)].map Value.int) (.int (0 : Int32)) := V_t175
    refine Go.callV (pc' := 291) (u := N_13) (z := N_13) (a := s) at_288 rfl (w_120 hw) (w_95 hw) (nf (w_97 hw) rfl) (w_97 hw) (w_96 hw) (by decide) E_s (argsL := [(.ref s174)]) (rest := []) (Pays.of_met (W := 0) (len := 3) (m_seq hw hs s s174 t t175 kt q176 us [(110 : Int32), (101 : Int32), (116 : Int32), (119 : Int32), (111 : Int32), (114 : Int32), (107 : Int32)] z (7 : Int32) h173 E_s F_s_coder F_s_value V_t E_s174 F_s174_coder F_s174_value V_t175 (hz) (rfl)) (w_98 hw) (w_2 hw) (by decide) (by decide)) rfl rfl (lenOf pd_15 rfl) rfl (Nat.le_of_eq rfl) mem0 (by decide) (by decide) ?_
    rintro _ _ _ - - ⟨rfl, rfl, rfl⟩
    change Go _ _ _ _ _ _ _ _ _ _ _ _ _ _ [] h173 22 576 291 #[.val (.int p1), .val (.int p2), .val (.int p3), .val (.int p4), .val (.int p5), .val (.int p6), .val (.int k), .val (.ref b), .val (.int kf), .val (.int z0), .val (.ref cc), .val (.ref s), .val (.ref b158), .unset] [(.int (own_eqb us [(110 : Int32), (101 : Int32), (116 : Int32), (119 : Int32), (111 : Int32), (114 : Int32), (107 : Int32)]))]
    rcases (Classical.em ((own_eqb us [(110 : Int32), (101 : Int32), (116 : Int32), (119 : Int32), (111 : Int32), (114 : Int32), (107 : Int32)]) = (0 : Int32))).symm with hq1 | hq1
    · skip
      refine Go.ifN (pc' := 294) at_291 rfl ((if0 _ _).trans (feq (hq1 : ¬ ((own_eqb us [(110 : Int32), (101 : Int32), (116 : Int32), (119 : Int32), (111 : Int32), (114 : Int32), (107 : Int32)]) = (0 : Int32)))).1) ?_
      obtain ⟨S_b, -⟩ := hs_b1 hs
      refine Go.getS (pc' := 297) at_294 rfl (host := "") (Or.inl (w_139 hw)) Via.refl S_b ?_
      refine Go.goto (pc' := 317) at_297 (by decide) (by decide) ?_
      refine Go.astore (pc' := 319) (Ls' := #[.val (.int p1), .val (.int p2), .val (.int p3), .val (.int p4), .val (.int p5), .val (.int p6), .val (.int k), .val (.ref b), .val (.int kf), .val (.int z0), .val (.ref cc), .val (.ref s), .val (.ref b158), .val (.ref (stRef Z "com/example/tapstone/tapstone/server/Role" "NETWORK" "Lcom/example/tapstone/tapstone/server/Role;"))]) at_317 rfl rfl rfl ?_
      rw [p166] at F_b158_value
      rw [(brandV_1 (fun e => absurd ((own_eqb1 hq1).symm.trans e) (by decide)) (own_eqb1 hq1))] at F_b158_value
      exact Go.more (k' := 28) (n' := 1000) (by decide) (by decide) (Go.fewer mem0 (m_law4_1 hw hs p1 p2 p3 p4 p5 p6 k b kf z0 cc s b158 (stRef Z "com/example/tapstone/tapstone/server/Role" "NETWORK" "Lcom/example/tapstone/tapstone/server/Role;") h0 h173 E_b158 F_b158_value))
    · skip
      refine Go.ifY (pc' := 300) at_291 (by decide) (by decide) ((if0 _ _).trans (teq (hq1 : (own_eqb us [(110 : Int32), (101 : Int32), (116 : Int32), (119 : Int32), (111 : Int32), (114 : Int32), (107 : Int32)]) = (0 : Int32))).1) ?_
      refine Go.aload (pc' := 302) at_300 rfl rfl rfl ?_
      refine Go.ldcS (pc' := 304) (nn := 40) (z := 10) (vs := [(.int (105 : Int32)), (.int (110 : Int32)), (.int (116 : Int32)), (.int (101 : Int32)), (.int (103 : Int32)), (.int (114 : Int32)), (.int (97 : Int32)), (.int (116 : Int32)), (.int (111 : Int32)), (.int (114 : Int32))]) rfl at_302 rfl (w_137 hw) (sA hw) (by decide) lit_3 (by decide) (by decide) (by decide) (by decide) (by decide) (by decide) ?_
      intro h179 s180 t181 q182 x183 E_s180 F_s180_coder F_s180_value V_t181 ne184
      replace E_s := E_s.ext x183
      replace F_s_coder := F_s_coder.ext x183
      replace F_s_value := F_s_value.ext x183
      replace V_t := V_t.ext x183
      replace E_b158 := E_b158.ext x183
      replace F_b158_value := F_b158_value.ext x183
      replace E_s168 := E_s168.ext x183
      replace F_s168_coder := F_s168_coder.ext x183
      replace F_s168_value := F_s168_value.ext x183
      replace V_t169 := V_t169.ext x183
      replace E_s174 := E_s174.ext x183
      replace F_s174_coder := F_s174_coder.ext x183
      replace F_s174_value := F_s174_value.ext x183
      replace V_t175 := V_t175.ext x183
      change Go _ _ _ _ _ _ _ _ _ _ _ _ _ _ [] h179 24 620 304 #[.val (.int p1), .val (.int p2), .val (.int p3), .val (.int p4), .val (.int p5), .val (.int p6), .val (.int k), .val (.ref b), .val (.int kf), .val (.int z0), .val (.ref cc), .val (.ref s), .val (.ref b158), .unset] [(.ref s180), (.ref s)]
      replace V_t181 : Arv Z h179 t181 q182 .byte (10 : Int32) ([(105 : Int32), (110 : Int32), (116 : Int32), (101 : Int32), (103 : Int32), (114 : Int32), (97 : Int32), (116 : Int32), (111 : Int32), (114 : Int32)].map Value.int) (.int (0 : Int32)) := V_t181
      refine Go.callV (pc' := 307) (u := N_13) (z := N_13) (a := s) at_304 rfl (w_120 hw) (w_95 hw) (nf (w_97 hw) rfl) (w_97 hw) (w_96 hw) (by decide) E_s (argsL := [(.ref s180)]) (rest := []) (Pays.of_met (W := 0) (len := 3) (m_seq hw hs s s180 t t181 kt q182 us [(105 : Int32), (110 : Int32), (116 : Int32), (101 : Int32), (103 : Int32), (114 : Int32), (97 : Int32), (116 : Int32), (111 : Int32), (114 : Int32)] z (10 : Int32) h179 E_s F_s_coder F_s_value V_t E_s180 F_s180_coder F_s180_value V_t181 (hz) (rfl)) (w_98 hw) (w_2 hw) (by decide) (by decide)) rfl rfl (lenOf pd_15 rfl) rfl (Nat.le_of_eq rfl) mem0 (by decide) (by decide) ?_
      rintro _ _ _ - - ⟨rfl, rfl, rfl⟩
      change Go _ _ _ _ _ _ _ _ _ _ _ _ _ _ [] h179 24 620 307 #[.val (.int p1), .val (.int p2), .val (.int p3), .val (.int p4), .val (.int p5), .val (.int p6), .val (.int k), .val (.ref b), .val (.int kf), .val (.int z0), .val (.ref cc), .val (.ref s), .val (.ref b158), .unset] [(.int (own_eqb us [(105 : Int32), (110 : Int32), (116 : Int32), (101 : Int32), (103 : Int32), (114 : Int32), (97 : Int32), (116 : Int32), (111 : Int32), (114 : Int32)]))]
      rcases (Classical.em ((own_eqb us [(105 : Int32), (110 : Int32), (116 : Int32), (101 : Int32), (103 : Int32), (114 : Int32), (97 : Int32), (116 : Int32), (111 : Int32), (114 : Int32)]) = (0 : Int32))).symm with hq2 | hq2
      · skip
        refine Go.ifN (pc' := 310) at_307 rfl ((if0 _ _).trans (feq (hq2 : ¬ ((own_eqb us [(105 : Int32), (110 : Int32), (116 : Int32), (101 : Int32), (103 : Int32), (114 : Int32), (97 : Int32), (116 : Int32), (111 : Int32), (114 : Int32)]) = (0 : Int32)))).1) ?_
        obtain ⟨S_b, -⟩ := hs_b2 hs
        refine Go.getS (pc' := 313) at_310 rfl (host := "") (Or.inl (w_140 hw)) Via.refl S_b ?_
        refine Go.goto (pc' := 317) at_313 (by decide) (by decide) ?_
        refine Go.astore (pc' := 319) (Ls' := #[.val (.int p1), .val (.int p2), .val (.int p3), .val (.int p4), .val (.int p5), .val (.int p6), .val (.int k), .val (.ref b), .val (.int kf), .val (.int z0), .val (.ref cc), .val (.ref s), .val (.ref b158), .val (.ref (stRef Z "com/example/tapstone/tapstone/server/Role" "INTEGRATOR" "Lcom/example/tapstone/tapstone/server/Role;"))]) at_317 rfl rfl rfl ?_
        rw [p166] at F_b158_value
        rw [(brandV_2 (fun e => absurd ((own_eqb1 hq2).symm.trans e) (by decide)) (fun e => absurd ((own_eqb1 hq2).symm.trans e) (by decide)) (own_eqb1 hq2))] at F_b158_value
        exact Go.more (k' := 28) (n' := 1000) (by decide) (by decide) (Go.fewer mem0 (m_law4_1 hw hs p1 p2 p3 p4 p5 p6 k b kf z0 cc s b158 (stRef Z "com/example/tapstone/tapstone/server/Role" "INTEGRATOR" "Lcom/example/tapstone/tapstone/server/Role;") h0 h179 E_b158 F_b158_value))
      · skip
        refine Go.ifY (pc' := 316) at_307 (by decide) (by decide) ((if0 _ _).trans (teq (hq2 : (own_eqb us [(105 : Int32), (110 : Int32), (116 : Int32), (101 : Int32), (103 : Int32), (114 : Int32), (97 : Int32), (116 : Int32), (111 : Int32), (114 : Int32)]) = (0 : Int32))).1) ?_
        refine Go.aconst_null (pc' := 317) at_316 rfl ?_
        refine Go.astore (pc' := 319) (Ls' := #[.val (.int p1), .val (.int p2), .val (.int p3), .val (.int p4), .val (.int p5), .val (.int p6), .val (.int k), .val (.ref b), .val (.int kf), .val (.int z0), .val (.ref cc), .val (.ref s), .val (.ref b158), .val .null]) at_317 rfl rfl rfl ?_
        rw [p166] at F_b158_value
        rw [(brandV_3 (own_eqb0 hq0) (own_eqb0 hq1) (own_eqb0 hq2))] at F_b158_value
        exact Go.more (k' := 28) (n' := 1000) (by decide) (by decide) (Go.fewer mem0 (m_law4_0 hw hs p1 p2 p3 p4 p5 p6 k b kf z0 cc s b158 h0 h179 E_b158 F_b158_value))
set_option maxRecDepth 65536 in
set_option maxHeartbeats 40000000 in
theorem m_law2_1 {l : Launch} {Z : State} {a0 : Array Value} {n0 : Nat} (hw : ∀ d ∈ tables_1, d.before a0 Z = true) (hs : Stat Z) (p1 : Int32) (p2 : Int32) (p3 : Int32) (p4 : Int32) (p5 : Int32) (p6 : Int32) (k : Int32) (b : Addr) (kf : Int32) (z0 : Int32) (cc : Addr) (x11 : Int32) (kc : ClassId) (cs : List Int32) (h0 h : Heap) (V_cc : Arv Z h cc kc .char z0 (cs.map Value.int) (.int (0 : Int32))) (zb1 : ¬ z0 < 0) (zb2 : z0.toNatClampNeg ≤ 11) (hzc : z0.toNatClampNeg = cs.length) (hcs : ∀ x ∈ cs, ¬ x < 0 ∧ ¬ 255 < x) :
    Go l Z EL0 n0 NR0 KN0 x code maxLocals ret room_1 h0 [] (Q_m_law Z p1 p2 p3 p4 p5 p6 h0) [cc] h 8 250 250 #[.val (.int p1), .val (.int p2), .val (.int p3), .val (.int p4), .val (.int p5), .val (.int p6), .val (.int k), .val (.ref b), .val (.int kf), .val (.int z0), .val (.ref cc), .val (.int x11), .unset, .unset] [] := by
  refine Go.newO (pc' := 253) at_250 rfl (w_49 hw) (w_3 hw) (w_2 hw) (by decide) (by decide) ?_
  intro h185 b186 g187 ge_b186 x188 E_b186 D_b186 U_b186
  have o_cc_b186 : cc ≠ b186 := Nat.ne_of_lt (Nat.lt_of_lt_of_le V_cc.lt (Nat.le_of_eq g187))
  replace V_cc := V_cc.ext x188
  have F_b186_value : Fld Z h185 b186 "java/lang/String" "value" "[B" .null := D_b186 (Or.inr (w_5 hw)) (ty := (.array .byte)) (by decide)
  have F_b186_coder : Fld Z h185 b186 "java/lang/String" "coder" "B" (.int (0 : Int32)) := D_b186 (Or.inr (w_6 hw)) (ty := .byte) (by decide)
  change Go _ _ _ _ _ _ _ _ _ _ _ _ _ _ [b186, cc] h185 9 254 253 #[.val (.int p1), .val (.int p2), .val (.int p3), .val (.int p4), .val (.int p5), .val (.int p6), .val (.int k), .val (.ref b), .val (.int kf), .val (.int z0), .val (.ref cc), .val (.int x11), .unset, .unset] [(.ref b186)]
  refine Go.dup (pc' := 254) at_253 rfl rfl ?_
  refine Go.aload (pc' := 256) at_254 rfl rfl rfl ?_
  by_cases hcn : cs = []
  · subst hcn
    have z00 : z0 = 0 := own_clamp_inj zb1 (by decide) hzc
    subst z00
    replace V_cc : Arv Z h185 cc kc .char (0 : Int32) [] (.int (0 : Int32)) := V_cc
    refine Go.callI (pc' := 259) (z := N_4) (a := b186) at_256 rfl rfl (w_50 hw) (w_51 hw) (w_52 hw) (by decide) (argsL := [(.ref cc)]) (rest := [(.ref b186)]) (Pays.of_met (W := 1) (len := 3) (m_stre hw hs b186 cc kc [] h185 E_b186 F_b186_coder F_b186_value V_cc o_cc_b186) (w_52 hw) (w_2 hw) (by decide) (by decide)) rfl rfl (lenOf pd_20 rfl) rfl (Nat.le_of_eq rfl) (memS (List.mem_of_getElem? (i := 0) rfl) mem0) (by decide) (by decide) ?_
    rintro _ h191 _ K192 le193 ⟨b189, q190, rfl, rfl, p194, p195, p196, p197⟩
    replace V_cc := V_cc.keep K192 (ninS o_cc_b186 nin0)
    replace E_b186 := E_b186.keep K192
    have F_b186_coder := p195
    have F_b186_value := p196
    have V_b189 := p197
    change Go _ _ _ _ _ _ _ _ _ _ _ _ _ _ [b186, cc] h191 13 262 259 #[.val (.int p1), .val (.int p2), .val (.int p3), .val (.int p4), .val (.int p5), .val (.int p6), .val (.int k), .val (.ref b), .val (.int kf), .val (.int (0 : Int32)), .val (.ref cc), .val (.int x11), .unset, .unset] [(.ref b186)]
    replace V_b189 : Arv Z h191 b189 q190 .byte (0 : Int32) ([].map Value.int) (.int (0 : Int32)) := V_b189
    exact Go.more (k' := 16) (n' := 500) (by decide) (by decide) (Go.fewer mem0 (m_law3_1 hw hs p1 p2 p3 p4 p5 p6 k b kf (0 : Int32) cc x11 b186 b189 q190 [] (0 : Int32) h0 h191 E_b186 F_b186_coder F_b186_value V_b189 (rfl)))
  · skip
    refine Go.callI (pc' := 259) (z := N_4) (a := b186) at_256 rfl rfl (w_50 hw) (w_51 hw) (w_52 hw) (by decide) (argsL := [(.ref cc)]) (rest := [(.ref b186)]) (Pays.of_met (W := 1) (len := 3) (m_str hw hs b186 cc kc cs z0 h185 E_b186 F_b186_coder F_b186_value V_cc (hzc) (hcs) (hcn) (zb2) o_cc_b186) (w_52 hw) (w_2 hw) (by decide) (by decide)) rfl rfl (lenOf pd_20 rfl) rfl (Nat.le_of_eq rfl) (memS (List.mem_of_getElem? (i := 0) rfl) mem0) (by decide) (by decide) ?_
    rintro _ h200 _ K201 le202 ⟨b198, q199, rfl, rfl, p203, p204, p205, p206, p207⟩
    have o_cc_b198 : cc ≠ b198 := Nat.ne_of_lt (Nat.lt_of_lt_of_le V_cc.lt p207)
    have o_b186_b198 : b186 ≠ b198 := Nat.ne_of_lt (Nat.lt_of_lt_of_le E_b186.lt p207)
    have ge_b198 := Nat.le_trans le202 p207
    replace V_cc := V_cc.keep K201 (ninS o_cc_b186 nin0)
    replace E_b186 := E_b186.keep K201
    have F_b186_coder := p204
    have F_b186_value := p205
    have V_b198 := p206
    change Go _ _ _ _ _ _ _ _ _ _ _ _ _ _ [b186, cc] h200 10 265 259 #[.val (.int p1), .val (.int p2), .val (.int p3), .val (.int p4), .val (.int p5), .val (.int p6), .val (.int k), .val (.ref b), .val (.int kf), .val (.int z0), .val (.ref cc), .val (.int x11), .unset, .unset] [(.ref b186)]
    rw [own_low_map] at V_b198
    exact Go.more (k' := 16) (n' := 500) (by decide) (by decide) (Go.fewer mem0 (m_law3_1 hw hs p1 p2 p3 p4 p5 p6 k b kf z0 cc x11 b186 b198 q199 (cs.map (fun c => c.toInt8.toInt32)) z0 h0 h200 E_b186 F_b186_coder F_b186_value V_b198 (by rw [List.length_map]; exact hzc)))
set_option maxRecDepth 65536 in
set_option maxHeartbeats 40000000 in
theorem m_law1 {l : Launch} {Z : State} {a0 : Array Value} {n0 : Nat} (hw : ∀ d ∈ tables_1, d.before a0 Z = true) (hs : Stat Z) (p1 : Int32) (p2 : Int32) (p3 : Int32) (p4 : Int32) (p5 : Int32) (p6 : Int32) (k : Int32) (b : Addr) (kf : Int32) (z0 : Int32) (t : Addr) (kt : ClassId) (z2 : Int32) (us : List Int32) (h0 h : Heap) (E_b : Exa Z h b "java/lang/String") (F_b_coder : Fld Z h b "java/lang/String" "coder" "B" (.int (0 : Int32))) (F_b_value : Fld Z h b "java/lang/String" "value" "[B" (.ref t)) (V_t : Arv Z h t kt .byte z2 (us.map Value.int) (.int (0 : Int32))) (zb1 : ¬ z0 < 0) (zb2 : z0.toNatClampNeg ≤ 11) :
    Go l Z EL0 n0 NR0 KN0 x code maxLocals ret room_1 h0 [] (Q_m_law Z p1 p2 p3 p4 p5 p6 h0) [] h 4 150 87 #[.val (.int p1), .val (.int p2), .val (.int p3), .val (.int p4), .val (.int p5), .val (.int p6), .val (.int k), .val (.ref b), .val (.int kf), .val (.int z0), .unset, .unset, .unset, .unset] [] := by
  refine Go.iload (pc' := 89) at_87 rfl rfl ?_
  refine Go.newP (pc' := 91) (cap := 11) (ad := "[C") at_89 rfl (w_22 hw) (by decide) zb1 zb2 (by decide) (by decide) (by decide) ?_
  intro h208 b209 g210 ge_b209 q212 x211 V_b209 E_b209
  have o_b_b209 : b ≠ b209 := Nat.ne_of_lt (Nat.lt_of_lt_of_le E_b.lt (Nat.le_of_eq g210))
  have o_t_b209 : t ≠ b209 := Nat.ne_of_lt (Nat.lt_of_lt_of_le V_t.lt (Nat.le_of_eq g210))
  replace E_b := E_b.ext x211
  replace F_b_coder := F_b_coder.ext x211
  replace F_b_value := F_b_value.ext x211
  replace V_t := V_t.ext x211
  replace V_b209 : Arv Z h208 b209 q212 .char z0 [] (.int (0 : Int32)) := V_b209
  change Go _ _ _ _ _ _ _ _ _ _ _ _ _ _ [b209] h208 5 161 91 #[.val (.int p1), .val (.int p2), .val (.int p3), .val (.int p4), .val (.int p5), .val (.int p6), .val (.int k), .val (.ref b), .val (.int kf), .val (.int z0), .unset, .unset, .unset, .unset] [(.ref b209)]
  replace V_b209 : Arv Z h208 b209 q212 .char z0 ((List.replicate z0.toNatClampNeg (0 : Int32)).map Value.int) (.int (0 : Int32)) := V_b209.pad (own_pad0 _)
  refine Go.astore (pc' := 93) (Ls' := #[.val (.int p1), .val (.int p2), .val (.int p3), .val (.int p4), .val (.int p5), .val (.int p6), .val (.int k), .val (.ref b), .val (.int kf), .val (.int z0), .val (.ref b209), .unset, .unset, .unset]) at_91 rfl rfl rfl ?_
  refine Go.aload (pc' := 95) at_93 rfl rfl rfl ?_
  refine Go.iconst (pc' := 96) at_95 rfl ic_0 ?_
  refine Go.aload (pc' := 98) at_96 rfl rfl rfl ?_
  refine Go.iload (pc' := 100) at_98 rfl rfl ?_
  refine Go.callS (pc' := 103) (z := N_21) at_100 rfl (w_23 hw) (w_24 hw) (w_25 hw) (w_26 hw) (by decide) (argsL := [(.ref b209), (.int (0 : Int32)), (.ref b), (.int p5)]) (rest := []) (Pays.of_met (W := 0) (len := 3) (m_put hw hs b209 b t q212 kt (List.replicate z0.toNatClampNeg (0 : Int32)) us z0 z2 (0 : Int32) p5 h208 V_b209 E_b F_b_coder F_b_value V_t (List.length_replicate.symm) (fun x hx => by rw [List.eq_of_mem_replicate hx]; decide) (by decide)) (w_26 hw) (w_25 hw) (by decide) (by decide)) rfl rfl (lenOf pd_21 rfl) rfl (Nat.le_of_eq rfl) (memS (List.mem_of_getElem? (i := 0) rfl) mem0) (by decide) (by decide) ?_
  rintro _ h214 _ K215 le216 ⟨v213, rfl, rfl, p217, p218, p219⟩
  replace E_b := E_b.keep K215
  replace F_b_coder := F_b_coder.keep K215 (ninS o_b_b209 nin0)
  replace F_b_value := F_b_value.keep K215 (ninS o_b_b209 nin0)
  replace V_t := V_t.keep K215 (ninS o_t_b209 nin0)
  replace E_b209 := E_b209.keep K215
  have V_b209 := p217
  change Go _ _ _ _ _ _ _ _ _ _ _ _ _ _ [b209] h214 5 161 103 #[.val (.int p1), .val (.int p2), .val (.int p3), .val (.int p4), .val (.int p5), .val (.int p6), .val (.int k), .val (.ref b), .val (.int kf), .val (.int z0), .val (.ref b209), .unset, .unset, .unset] []
  refine Go.aload (pc' := 105) at_103 rfl rfl rfl ?_
  refine Go.iconst (pc' := 106) at_105 rfl ic_1 ?_
  refine Go.aload (pc' := 108) at_106 rfl rfl rfl ?_
  refine Go.iload (pc' := 110) at_108 rfl rfl ?_
  refine Go.callS (pc' := 113) (z := N_21) at_110 rfl (w_23 hw) (w_24 hw) (w_25 hw) (w_26 hw) (by decide) (argsL := [(.ref b209), (.int (1 : Int32)), (.ref b), (.int p5)]) (rest := []) (Pays.of_met (W := 0) (len := 3) (m_put hw hs b209 b t q212 kt v213 us z0 z2 (1 : Int32) p5 h214 V_b209 E_b F_b_coder F_b_value V_t (p218) (p219) (by decide)) (w_26 hw) (w_25 hw) (by decide) (by decide)) rfl rfl (lenOf pd_21 rfl) rfl (Nat.le_of_eq rfl) (memS (List.mem_of_getElem? (i := 0) rfl) mem0) (by decide) (by decide) ?_
  rintro _ h221 _ K222 le223 ⟨v220, rfl, rfl, p224, p225, p226⟩
  replace E_b := E_b.keep K222
  replace F_b_coder := F_b_coder.keep K222 (ninS o_b_b209 nin0)
  replace F_b_value := F_b_value.keep K222 (ninS o_b_b209 nin0)
  replace V_t := V_t.keep K222 (ninS o_t_b209 nin0)
  replace E_b209 := E_b209.keep K222
  have V_b209 := p224
  change Go _ _ _ _ _ _ _ _ _ _ _ _ _ _ [b209] h221 5 161 113 #[.val (.int p1), .val (.int p2), .val (.int p3), .val (.int p4), .val (.int p5), .val (.int p6), .val (.int k), .val (.ref b), .val (.int kf), .val (.int z0), .val (.ref b209), .unset, .unset, .unset] []
  refine Go.aload (pc' := 115) at_113 rfl rfl rfl ?_
  refine Go.iconst (pc' := 116) at_115 rfl ic_2 ?_
  refine Go.aload (pc' := 118) at_116 rfl rfl rfl ?_
  refine Go.iload (pc' := 120) at_118 rfl rfl ?_
  refine Go.callS (pc' := 123) (z := N_21) at_120 rfl (w_23 hw) (w_24 hw) (w_25 hw) (w_26 hw) (by decide) (argsL := [(.ref b209), (.int (2 : Int32)), (.ref b), (.int p5)]) (rest := []) (Pays.of_met (W := 0) (len := 3) (m_put hw hs b209 b t q212 kt v220 us z0 z2 (2 : Int32) p5 h221 V_b209 E_b F_b_coder F_b_value V_t (p225) (p226) (by decide)) (w_26 hw) (w_25 hw) (by decide) (by decide)) rfl rfl (lenOf pd_21 rfl) rfl (Nat.le_of_eq rfl) (memS (List.mem_of_getElem? (i := 0) rfl) mem0) (by decide) (by decide) ?_
  rintro _ h228 _ K229 le230 ⟨v227, rfl, rfl, p231, p232, p233⟩
  replace E_b := E_b.keep K229
  replace F_b_coder := F_b_coder.keep K229 (ninS o_b_b209 nin0)
  replace F_b_value := F_b_value.keep K229 (ninS o_b_b209 nin0)
  replace V_t := V_t.keep K229 (ninS o_t_b209 nin0)
  replace E_b209 := E_b209.keep K229
  have V_b209 := p231
  change Go _ _ _ _ _ _ _ _ _ _ _ _ _ _ [b209] h228 5 161 123 #[.val (.int p1), .val (.int p2), .val (.int p3), .val (.int p4), .val (.int p5), .val (.int p6), .val (.int k), .val (.ref b), .val (.int kf), .val (.int z0), .val (.ref b209), .unset, .unset, .unset] []
  refine Go.aload (pc' := 125) at_123 rfl rfl rfl ?_
  refine Go.iconst (pc' := 126) at_125 rfl ic_3 ?_
  refine Go.aload (pc' := 128) at_126 rfl rfl rfl ?_
  refine Go.iload (pc' := 130) at_128 rfl rfl ?_
  refine Go.callS (pc' := 133) (z := N_21) at_130 rfl (w_23 hw) (w_24 hw) (w_25 hw) (w_26 hw) (by decide) (argsL := [(.ref b209), (.int (3 : Int32)), (.ref b), (.int p5)]) (rest := []) (Pays.of_met (W := 0) (len := 3) (m_put hw hs b209 b t q212 kt v227 us z0 z2 (3 : Int32) p5 h228 V_b209 E_b F_b_coder F_b_value V_t (p232) (p233) (by decide)) (w_26 hw) (w_25 hw) (by decide) (by decide)) rfl rfl (lenOf pd_21 rfl) rfl (Nat.le_of_eq rfl) (memS (List.mem_of_getElem? (i := 0) rfl) mem0) (by decide) (by decide) ?_
  rintro _ h235 _ K236 le237 ⟨v234, rfl, rfl, p238, p239, p240⟩
  replace E_b := E_b.keep K236
  replace F_b_coder := F_b_coder.keep K236 (ninS o_b_b209 nin0)
  replace F_b_value := F_b_value.keep K236 (ninS o_b_b209 nin0)
  replace V_t := V_t.keep K236 (ninS o_t_b209 nin0)
  replace E_b209 := E_b209.keep K236
  have V_b209 := p238
  change Go _ _ _ _ _ _ _ _ _ _ _ _ _ _ [b209] h235 5 161 133 #[.val (.int p1), .val (.int p2), .val (.int p3), .val (.int p4), .val (.int p5), .val (.int p6), .val (.int k), .val (.ref b), .val (.int kf), .val (.int z0), .val (.ref b209), .unset, .unset, .unset] []
  refine Go.aload (pc' := 135) at_133 rfl rfl rfl ?_
  refine Go.iconst (pc' := 136) at_135 rfl ic_4 ?_
  refine Go.aload (pc' := 138) at_136 rfl rfl rfl ?_
  refine Go.iload (pc' := 140) at_138 rfl rfl ?_
  refine Go.callS (pc' := 143) (z := N_21) at_140 rfl (w_23 hw) (w_24 hw) (w_25 hw) (w_26 hw) (by decide) (argsL := [(.ref b209), (.int (4 : Int32)), (.ref b), (.int p6)]) (rest := []) (Pays.of_met (W := 0) (len := 3) (m_put hw hs b209 b t q212 kt v234 us z0 z2 (4 : Int32) p6 h235 V_b209 E_b F_b_coder F_b_value V_t (p239) (p240) (by decide)) (w_26 hw) (w_25 hw) (by decide) (by decide)) rfl rfl (lenOf pd_21 rfl) rfl (Nat.le_of_eq rfl) (memS (List.mem_of_getElem? (i := 0) rfl) mem0) (by decide) (by decide) ?_
  rintro _ h242 _ K243 le244 ⟨v241, rfl, rfl, p245, p246, p247⟩
  replace E_b := E_b.keep K243
  replace F_b_coder := F_b_coder.keep K243 (ninS o_b_b209 nin0)
  replace F_b_value := F_b_value.keep K243 (ninS o_b_b209 nin0)
  replace V_t := V_t.keep K243 (ninS o_t_b209 nin0)
  replace E_b209 := E_b209.keep K243
  have V_b209 := p245
  change Go _ _ _ _ _ _ _ _ _ _ _ _ _ _ [b209] h242 5 161 143 #[.val (.int p1), .val (.int p2), .val (.int p3), .val (.int p4), .val (.int p5), .val (.int p6), .val (.int k), .val (.ref b), .val (.int kf), .val (.int z0), .val (.ref b209), .unset, .unset, .unset] []
  refine Go.aload (pc' := 145) at_143 rfl rfl rfl ?_
  refine Go.iconst (pc' := 146) at_145 rfl ic_5 ?_
  refine Go.aload (pc' := 148) at_146 rfl rfl rfl ?_
  refine Go.iload (pc' := 150) at_148 rfl rfl ?_
  refine Go.callS (pc' := 153) (z := N_21) at_150 rfl (w_23 hw) (w_24 hw) (w_25 hw) (w_26 hw) (by decide) (argsL := [(.ref b209), (.int (5 : Int32)), (.ref b), (.int p6)]) (rest := []) (Pays.of_met (W := 0) (len := 3) (m_put hw hs b209 b t q212 kt v241 us z0 z2 (5 : Int32) p6 h242 V_b209 E_b F_b_coder F_b_value V_t (p246) (p247) (by decide)) (w_26 hw) (w_25 hw) (by decide) (by decide)) rfl rfl (lenOf pd_21 rfl) rfl (Nat.le_of_eq rfl) (memS (List.mem_of_getElem? (i := 0) rfl) mem0) (by decide) (by decide) ?_
  rintro _ h249 _ K250 le251 ⟨v248, rfl, rfl, p252, p253, p254⟩
  replace E_b := E_b.keep K250
  replace F_b_coder := F_b_coder.keep K250 (ninS o_b_b209 nin0)
  replace F_b_value := F_b_value.keep K250 (ninS o_b_b209 nin0)
  replace V_t := V_t.keep K250 (ninS o_t_b209 nin0)
  replace E_b209 := E_b209.keep K250
  have V_b209 := p252
  change Go _ _ _ _ _ _ _ _ _ _ _ _ _ _ [b209] h249 5 161 153 #[.val (.int p1), .val (.int p2), .val (.int p3), .val (.int p4), .val (.int p5), .val (.int p6), .val (.int k), .val (.ref b), .val (.int kf), .val (.int z0), .val (.ref b209), .unset, .unset, .unset] []
  refine Go.aload (pc' := 155) at_153 rfl rfl rfl ?_
  refine Go.bipush (pc' := 157) at_155 rfl icb_6 ?_
  refine Go.aload (pc' := 159) at_157 rfl rfl rfl ?_
  refine Go.iload (pc' := 161) at_159 rfl rfl ?_
  refine Go.callS (pc' := 164) (z := N_21) at_161 rfl (w_23 hw) (w_24 hw) (w_25 hw) (w_26 hw) (by decide) (argsL := [(.ref b209), (.int (6 : Int32)), (.ref b), (.int p6)]) (rest := []) (Pays.of_met (W := 0) (len := 3) (m_put hw hs b209 b t q212 kt v248 us z0 z2 (6 : Int32) p6 h249 V_b209 E_b F_b_coder F_b_value V_t (p253) (p254) (by decide)) (w_26 hw) (w_25 hw) (by decide) (by decide)) rfl rfl (lenOf pd_21 rfl) rfl (Nat.le_of_eq rfl) (memS (List.mem_of_getElem? (i := 0) rfl) mem0) (by decide) (by decide) ?_
  rintro _ h256 _ K257 le258 ⟨v255, rfl, rfl, p259, p260, p261⟩
  replace E_b := E_b.keep K257
  replace F_b_coder := F_b_coder.keep K257 (ninS o_b_b209 nin0)
  replace F_b_value := F_b_value.keep K257 (ninS o_b_b209 nin0)
  replace V_t := V_t.keep K257 (ninS o_t_b209 nin0)
  replace E_b209 := E_b209.keep K257
  have V_b209 := p259
  change Go _ _ _ _ _ _ _ _ _ _ _ _ _ _ [b209] h256 5 161 164 #[.val (.int p1), .val (.int p2), .val (.int p3), .val (.int p4), .val (.int p5), .val (.int p6), .val (.int k), .val (.ref b), .val (.int kf), .val (.int z0), .val (.ref b209), .unset, .unset, .unset] []
  refine Go.aload (pc' := 166) at_164 rfl rfl rfl ?_
  refine Go.bipush (pc' := 168) at_166 rfl icb_7 ?_
  refine Go.aload (pc' := 170) at_168 rfl rfl rfl ?_
  refine Go.iload (pc' := 172) at_170 rfl rfl ?_
  refine Go.callS (pc' := 175) (z := N_21) at_172 rfl (w_23 hw) (w_24 hw) (w_25 hw) (w_26 hw) (by decide) (argsL := [(.ref b209), (.int (7 : Int32)), (.ref b), (.int p6)]) (rest := []) (Pays.of_met (W := 0) (len := 3) (m_put hw hs b209 b t q212 kt v255 us z0 z2 (7 : Int32) p6 h256 V_b209 E_b F_b_coder F_b_value V_t (p260) (p261) (by decide)) (w_26 hw) (w_25 hw) (by decide) (by decide)) rfl rfl (lenOf pd_21 rfl) rfl (Nat.le_of_eq rfl) (memS (List.mem_of_getElem? (i := 0) rfl) mem0) (by decide) (by decide) ?_
  rintro _ h263 _ K264 le265 ⟨v262, rfl, rfl, p266, p267, p268⟩
  replace E_b := E_b.keep K264
  replace F_b_coder := F_b_coder.keep K264 (ninS o_b_b209 nin0)
  replace F_b_value := F_b_value.keep K264 (ninS o_b_b209 nin0)
  replace V_t := V_t.keep K264 (ninS o_t_b209 nin0)
  replace E_b209 := E_b209.keep K264
  have V_b209 := p266
  change Go _ _ _ _ _ _ _ _ _ _ _ _ _ _ [b209] h263 5 161 175 #[.val (.int p1), .val (.int p2), .val (.int p3), .val (.int p4), .val (.int p5), .val (.int p6), .val (.int k), .val (.ref b), .val (.int kf), .val (.int z0), .val (.ref b209), .unset, .unset, .unset] []
  refine Go.aload (pc' := 177) at_175 rfl rfl rfl ?_
  refine Go.bipush (pc' := 179) at_177 rfl icb_8 ?_
  refine Go.aload (pc' := 181) at_179 rfl rfl rfl ?_
  refine Go.iload_n (pc' := 182) at_181 rfl rfl ?_
  refine Go.callS (pc' := 185) (z := N_21) at_182 rfl (w_23 hw) (w_24 hw) (w_25 hw) (w_26 hw) (by decide) (argsL := [(.ref b209), (.int (8 : Int32)), (.ref b), (.int p4)]) (rest := []) (Pays.of_met (W := 0) (len := 3) (m_put hw hs b209 b t q212 kt v262 us z0 z2 (8 : Int32) p4 h263 V_b209 E_b F_b_coder F_b_value V_t (p267) (p268) (by decide)) (w_26 hw) (w_25 hw) (by decide) (by decide)) rfl rfl (lenOf pd_21 rfl) rfl (Nat.le_of_eq rfl) (memS (List.mem_of_getElem? (i := 0) rfl) mem0) (by decide) (by decide) ?_
  rintro _ h270 _ K271 le272 ⟨v269, rfl, rfl, p273, p274, p275⟩
  replace E_b := E_b.keep K271
  replace F_b_coder := F_b_coder.keep K271 (ninS o_b_b209 nin0)
  replace F_b_value := F_b_value.keep K271 (ninS o_b_b209 nin0)
  replace V_t := V_t.keep K271 (ninS o_t_b209 nin0)
  replace E_b209 := E_b209.keep K271
  have V_b209 := p273
  change Go _ _ _ _ _ _ _ _ _ _ _ _ _ _ [b209] h270 5 161 185 #[.val (.int p1), .val (.int p2), .val (.int p3), .val (.int p4), .val (.int p5), .val (.int p6), .val (.int k), .val (.ref b), .val (.int kf), .val (.int z0), .val (.ref b209), .unset, .unset, .unset] []
  refine Go.aload (pc' := 187) at_185 rfl rfl rfl ?_
  refine Go.bipush (pc' := 189) at_187 rfl icb_9 ?_
  refine Go.aload (pc' := 191) at_189 rfl rfl rfl ?_
  refine Go.iload_n (pc' := 192) at_191 rfl rfl ?_
  refine Go.callS (pc' := 195) (z := N_21) at_192 rfl (w_23 hw) (w_24 hw) (w_25 hw) (w_26 hw) (by decide) (argsL := [(.ref b209), (.int (9 : Int32)), (.ref b), (.int p4)]) (rest := []) (Pays.of_met (W := 0) (len := 3) (m_put hw hs b209 b t q212 kt v269 us z0 z2 (9 : Int32) p4 h270 V_b209 E_b F_b_coder F_b_value V_t (p274) (p275) (by decide)) (w_26 hw) (w_25 hw) (by decide) (by decide)) rfl rfl (lenOf pd_21 rfl) rfl (Nat.le_of_eq rfl) (memS (List.mem_of_getElem? (i := 0) rfl) mem0) (by decide) (by decide) ?_
  rintro _ h277 _ K278 le279 ⟨v276, rfl, rfl, p280, p281, p282⟩
  replace E_b := E_b.keep K278
  replace F_b_coder := F_b_coder.keep K278 (ninS o_b_b209 nin0)
  replace F_b_value := F_b_value.keep K278 (ninS o_b_b209 nin0)
  replace V_t := V_t.keep K278 (ninS o_t_b209 nin0)
  replace E_b209 := E_b209.keep K278
  have V_b209 := p280
  change Go _ _ _ _ _ _ _ _ _ _ _ _ _ _ [b209] h277 5 161 195 #[.val (.int p1), .val (.int p2), .val (.int p3), .val (.int p4), .val (.int p5), .val (.int p6), .val (.int k), .val (.ref b), .val (.int kf), .val (.int z0), .val (.ref b209), .unset, .unset, .unset] []
  refine Go.aload (pc' := 197) at_195 rfl rfl rfl ?_
  refine Go.bipush (pc' := 199) at_197 rfl icb_10 ?_
  refine Go.aload (pc' := 201) at_199 rfl rfl rfl ?_
  refine Go.iload_n (pc' := 202) at_201 rfl rfl ?_
  refine Go.callS (pc' := 205) (z := N_21) at_202 rfl (w_23 hw) (w_24 hw) (w_25 hw) (w_26 hw) (by decide) (argsL := [(.ref b209), (.int (10 : Int32)), (.ref b), (.int p4)]) (rest := []) (Pays.of_met (W := 0) (len := 3) (m_put hw hs b209 b t q212 kt v276 us z0 z2 (10 : Int32) p4 h277 V_b209 E_b F_b_coder F_b_value V_t (p281) (p282) (by decide)) (w_26 hw) (w_25 hw) (by decide) (by decide)) rfl rfl (lenOf pd_21 rfl) rfl (Nat.le_of_eq rfl) (memS (List.mem_of_getElem? (i := 0) rfl) mem0) (by decide) (by decide) ?_
  rintro _ h284 _ K285 le286 ⟨v283, rfl, rfl, p287, p288, p289⟩
  replace E_b := E_b.keep K285
  replace F_b_coder := F_b_coder.keep K285 (ninS o_b_b209 nin0)
  replace F_b_value := F_b_value.keep K285 (ninS o_b_b209 nin0)
  replace V_t := V_t.keep K285 (ninS o_t_b209 nin0)
  replace E_b209 := E_b209.keep K285
  have V_b209 := p287
  change Go _ _ _ _ _ _ _ _ _ _ _ _ _ _ [b209] h284 5 161 205 #[.val (.int p1), .val (.int p2), .val (.int p3), .val (.int p4), .val (.int p5), .val (.int p6), .val (.int k), .val (.ref b), .val (.int kf), .val (.int z0), .val (.ref b209), .unset, .unset, .unset] []
  refine Go.aload (pc' := 207) at_205 rfl rfl rfl ?_
  refine Go.bipush (pc' := 209) at_207 rfl icb_11 ?_
  refine Go.aload (pc' := 211) at_209 rfl rfl rfl ?_
  refine Go.iload_n (pc' := 212) at_211 rfl rfl ?_
  refine Go.callS (pc' := 215) (z := N_21) at_212 rfl (w_23 hw) (w_24 hw) (w_25 hw) (w_26 hw) (by decide) (argsL := [(.ref b209), (.int (11 : Int32)), (.ref b), (.int p4)]) (rest := []) (Pays.of_met (W := 0) (len := 3) (m_put hw hs b209 b t q212 kt v283 us z0 z2 (11 : Int32) p4 h284 V_b209 E_b F_b_coder F_b_value V_t (p288) (p289) (by decide)) (w_26 hw) (w_25 hw) (by decide) (by decide)) rfl rfl (lenOf pd_21 rfl) rfl (Nat.le_of_eq rfl) (memS (List.mem_of_getElem? (i := 0) rfl) mem0) (by decide) (by decide) ?_
  rintro _ h291 _ K292 le293 ⟨v290, rfl, rfl, p294, p295, p296⟩
  replace E_b := E_b.keep K292
  replace F_b_coder := F_b_coder.keep K292 (ninS o_b_b209 nin0)
  replace F_b_value := F_b_value.keep K292 (ninS o_b_b209 nin0)
  replace V_t := V_t.keep K292 (ninS o_t_b209 nin0)
  replace E_b209 := E_b209.keep K292
  have V_b209 := p294
  change Go _ _ _ _ _ _ _ _ _ _ _ _ _ _ [b209] h291 5 161 215 #[.val (.int p1), .val (.int p2), .val (.int p3), .val (.int p4), .val (.int p5), .val (.int p6), .val (.int k), .val (.ref b), .val (.int kf), .val (.int z0), .val (.ref b209), .unset, .unset, .unset] []
  refine Go.iload_n (pc' := 216) at_215 rfl rfl ?_
  refine Go.iconst (pc' := 217) at_216 rfl ic_5 ?_
  refine Go.iushr (pc' := 218) at_217 rfl ?_
  refine Go.iconst (pc' := 219) at_218 rfl ic_1 ?_
  refine Go.iand (pc' := 220) at_219 rfl ?_
  by_cases h1 : (((p1.toUInt32 >>> ((5 : Int32) &&& 31).toUInt32).toInt32) &&& (1 : Int32)) = (0 : Int32)
  · skip
    refine Go.ifY (pc' := 250) at_220 (by decide) (by decide) ((if0 _ _).trans (teq (h1 : (((p1.toUInt32 >>> ((5 : Int32) &&& 31).toUInt32).toInt32) &&& (1 : Int32)) = (0 : Int32))).1) ?_
    exact Go.more (k' := 8) (n' := 250) (by decide) (by decide) (Go.fewer (memS (List.mem_of_getElem? (i := 0) rfl) mem0) (m_law2_0 hw hs p1 p2 p3 p4 p5 p6 k b kf z0 b209 q212 v290 h0 h291 V_b209 (zb1) (zb2) (p295) (p296)))
  · skip
    refine Go.ifN (pc' := 223) at_220 rfl ((if0 _ _).trans (feq (h1 : ¬ ((((p1.toUInt32 >>> ((5 : Int32) &&& 31).toUInt32).toInt32) &&& (1 : Int32)) = (0 : Int32)))).1) ?_
    refine Go.iload_n (pc' := 224) at_223 rfl rfl ?_
    refine Go.ldcInt (pc' := 226) at_224 rfl (w_0 hw) ?_
    refine Go.iand (pc' := 227) at_226 rfl ?_
    refine Go.bipush (pc' := 229) at_227 rfl icb_12 ?_
    refine Go.irem (pc' := 230) at_229 rfl (by decide) ?_
    refine Go.istore (pc' := 232) (Ls' := #[.val (.int p1), .val (.int p2), .val (.int p3), .val (.int p4), .val (.int p5), .val (.int p6), .val (.int k), .val (.ref b), .val (.int kf), .val (.int z0), .val (.ref b209), .val (.int ((p3 &&& (2147483647 : Int32)) % (12 : Int32))), .unset, .unset]) at_230 rfl rfl ?_
    refine Go.iload (pc' := 234) at_232 rfl rfl ?_
    refine Go.iload (pc' := 236) at_234 rfl rfl ?_
    have xb := own_rem (own_maskn p3 2147483647 (by decide)) (m := 12) (by decide)
    generalize hx11 : ((p3 &&& (2147483647 : Int32)) % (12 : Int32)) = x11 at xb ⊢
    by_cases h2 : x11 < z0
    · skip
      refine Go.icmpN (pc' := 239) at_236 rfl (tlt (h2 : x11 < z0)).2.1 ?_
      refine Go.aload (pc' := 241) at_239 rfl rfl rfl ?_
      refine Go.iload (pc' := 243) at_241 rfl rfl ?_
      refine Go.iload_n (pc' := 244) at_243 rfl rfl ?_
      refine Go.sipush (pc' := 247) at_244 rfl ics_255 ?_
      refine Go.iand (pc' := 248) at_247 rfl ?_
      refine Go.i2c (pc' := 249) at_248 rfl ?_
      rw [i2c_mask]
      refine Go.castoreV (pc' := 250) (i := x11.toNatClampNeg) at_249 rfl (List.mem_of_getElem? (i := 0) rfl) V_b209 ⟨xb.1, h2⟩ rfl (by rw [List.length_map, ← (p295)]; exact own_idx xb.1 h2) ?_
      rw [nar_char (mask255 p4).1 (le255 (mask255 p4).2)]
      intro h297 W298 V_b209'
      rw [own_set_map] at V_b209'
      replace E_b := E_b.wr W298
      replace F_b_coder := F_b_coder.other W298 (Or.inl o_b_b209)
      replace F_b_value := F_b_value.other W298 (Or.inl o_b_b209)
      replace V_t := V_t.other W298 o_t_b209
      replace E_b209 := E_b209.wr W298
      replace V_b209 : Arv Z h297 b209 q212 .char z0 ((v290.set x11.toNatClampNeg (p4 &&& (255 : Int32))).map Value.int) (.int (0 : Int32)) := V_b209'
      change Go _ _ _ _ _ _ _ _ _ _ _ _ _ _ [b209] h297 5 161 250 #[.val (.int p1), .val (.int p2), .val (.int p3), .val (.int p4), .val (.int p5), .val (.int p6), .val (.int k), .val (.ref b), .val (.int kf), .val (.int z0), .val (.ref b209), .val (.int x11), .unset, .unset] []
      exact Go.more (k' := 8) (n' := 250) (by decide) (by decide) (Go.fewer (memS (List.mem_of_getElem? (i := 0) rfl) mem0) (m_law2_1 hw hs p1 p2 p3 p4 p5 p6 k b kf z0 b209 x11 q212 (v290.set x11.toNatClampNeg (p4 &&& (255 : Int32))) h0 h297 V_b209 (zb1) (zb2) (by rw [List.length_set]; exact p295) (own_set_mem p296 (mask255 p4))))
    · skip
      refine Go.icmpY (pc' := 250) at_236 (by decide) (by decide) (flt (h2 : ¬ (x11 < z0))).2.1 ?_
      exact Go.more (k' := 8) (n' := 250) (by decide) (by decide) (Go.fewer (memS (List.mem_of_getElem? (i := 0) rfl) mem0) (m_law2_1 hw hs p1 p2 p3 p4 p5 p6 k b kf z0 b209 x11 q212 v290 h0 h291 V_b209 (zb1) (zb2) (p295) (p296)))
set_option maxRecDepth 65536 in
set_option maxHeartbeats 40000000 in
theorem m_law0 {l : Launch} {Z : State} {a0 : Array Value} {n0 : Nat} (hw : ∀ d ∈ tables_1, d.before a0 Z = true) (hs : Stat Z) (p1 : Int32) (p2 : Int32) (p3 : Int32) (p4 : Int32) (p5 : Int32) (p6 : Int32) (k : Int32) (b : Addr) (t : Addr) (kt : ClassId) (z2 : Int32) (us : List Int32) (h0 h : Heap) (E_b : Exa Z h b "java/lang/String") (F_b_coder : Fld Z h b "java/lang/String" "coder" "B" (.int (0 : Int32))) (F_b_value : Fld Z h b "java/lang/String" "value" "[B" (.ref t)) (V_t : Arv Z h t kt .byte z2 (us.map Value.int) (.int (0 : Int32))) (hb : z2.toNatClampNeg ≤ 11) :
    Go l Z EL0 n0 NR0 KN0 x code maxLocals ret room_1 h0 [] (Q_m_law Z p1 p2 p3 p4 p5 p6 h0) [] h 2 100 42 #[.val (.int p1), .val (.int p2), .val (.int p3), .val (.int p4), .val (.int p5), .val (.int p6), .val (.int k), .unset, .unset, .unset, .unset, .unset, .unset, .unset] [(.ref b)] := by
  refine Go.astore (pc' := 44) (Ls' := #[.val (.int p1), .val (.int p2), .val (.int p3), .val (.int p4), .val (.int p5), .val (.int p6), .val (.int k), .val (.ref b), .unset, .unset, .unset, .unset, .unset, .unset]) at_42 rfl rfl rfl ?_
  refine Go.iload_n (pc' := 45) at_44 rfl rfl ?_
  refine Go.iconst (pc' := 46) at_45 rfl ic_4 ?_
  refine Go.iushr (pc' := 47) at_46 rfl ?_
  refine Go.iconst (pc' := 48) at_47 rfl ic_1 ?_
  refine Go.iand (pc' := 49) at_48 rfl ?_
  by_cases h1 : (((p1.toUInt32 >>> ((4 : Int32) &&& 31).toUInt32).toInt32) &&& (1 : Int32)) = (0 : Int32)
  · skip
    refine Go.ifN (pc' := 52) at_49 rfl ((if0 _ _).trans (teq (h1 : (((p1.toUInt32 >>> ((4 : Int32) &&& 31).toUInt32).toInt32) &&& (1 : Int32)) = (0 : Int32))).2) ?_
    refine Go.iload (pc' := 54) at_52 rfl rfl ?_
    refine Go.iconst (pc' := 55) at_54 rfl ic_3 ?_
    by_cases h2 : k < (3 : Int32)
    · skip
      refine Go.icmpN (pc' := 58) at_55 rfl (tlt (h2 : k < (3 : Int32))).2.1 ?_
      refine Go.iconst (pc' := 59) at_58 rfl ic_1 ?_
      refine Go.goto (pc' := 63) at_59 (by decide) (by decide) ?_
      refine Go.istore (pc' := 65) (Ls' := #[.val (.int p1), .val (.int p2), .val (.int p3), .val (.int p4), .val (.int p5), .val (.int p6), .val (.int k), .val (.ref b), .val (.int (1 : Int32)), .unset, .unset, .unset, .unset, .unset]) at_63 rfl rfl ?_
      refine Go.iload (pc' := 67) at_65 rfl rfl ?_
      refine Go.ifN (pc' := 70) at_67 rfl ((if0 _ _).trans (feq (by decide : ¬ ((1 : Int32) = (0 : Int32)))).1) ?_
      refine Go.aload (pc' := 72) at_70 rfl rfl rfl ?_
      refine Go.callV (pc' := 75) (u := N_7) (z := N_7) (a := b) at_72 rfl (w_9 hw) (w_10 hw) (nf (w_12 hw) rfl) (w_12 hw) (w_11 hw) (by decide) E_b (argsL := []) (rest := []) (Pays.of_met (W := 0) (len := 3) (m_length hw hs b t kt z2 (us.map Value.int) h E_b F_b_coder F_b_value V_t) (w_13 hw) (w_2 hw) (by decide) (by decide)) rfl rfl (lenOf pd_12 rfl) rfl (Nat.le_of_eq rfl) mem0 (by decide) (by decide) ?_
      rintro _ _ _ - - ⟨rfl, rfl, rfl⟩
      change Go _ _ _ _ _ _ _ _ _ _ _ _ _ _ [] h 2 100 75 #[.val (.int p1), .val (.int p2), .val (.int p3), .val (.int p4), .val (.int p5), .val (.int p6), .val (.int k), .val (.ref b), .val (.int (1 : Int32)), .unset, .unset, .unset, .unset, .unset] [(.int z2)]
      refine Go.goto (pc' := 85) at_75 (by decide) (by decide) ?_
      refine Go.istore (pc' := 87) (Ls' := #[.val (.int p1), .val (.int p2), .val (.int p3), .val (.int p4), .val (.int p5), .val (.int p6), .val (.int k), .val (.ref b), .val (.int (1 : Int32)), .val (.int z2), .unset, .unset, .unset, .unset]) at_85 rfl rfl ?_
      exact Go.more (k' := 4) (n' := 150) (by decide) (by decide) (Go.fewer mem0 (m_law1 hw hs p1 p2 p3 p4 p5 p6 k b (1 : Int32) z2 t kt z2 us h0 h E_b F_b_coder F_b_value V_t (arv_nn V_t) (hb)))
    · skip
      refine Go.icmpY (pc' := 62) at_55 (by decide) (by decide) (flt (h2 : ¬ (k < (3 : Int32)))).2.1 ?_
      refine Go.iconst (pc' := 63) at_62 rfl ic_0 ?_
      refine Go.istore (pc' := 65) (Ls' := #[.val (.int p1), .val (.int p2), .val (.int p3), .val (.int p4), .val (.int p5), .val (.int p6), .val (.int k), .val (.ref b), .val (.int (0 : Int32)), .unset, .unset, .unset, .unset, .unset]) at_63 rfl rfl ?_
      refine Go.iload (pc' := 67) at_65 rfl rfl ?_
      refine Go.ifY (pc' := 78) at_67 (by decide) (by decide) ((if0 _ _).trans (teq (by decide : (0 : Int32) = (0 : Int32))).1) ?_
      refine Go.iload_n (pc' := 79) at_78 rfl rfl ?_
      refine Go.ldcInt (pc' := 81) at_79 rfl (w_0 hw) ?_
      refine Go.iand (pc' := 82) at_81 rfl ?_
      refine Go.bipush (pc' := 84) at_82 rfl icb_12 ?_
      refine Go.irem (pc' := 85) at_84 rfl (by decide) ?_
      refine Go.istore (pc' := 87) (Ls' := #[.val (.int p1), .val (.int p2), .val (.int p3), .val (.int p4), .val (.int p5), .val (.int p6), .val (.int k), .val (.ref b), .val (.int (0 : Int32)), .val (.int ((p2 &&& (2147483647 : Int32)) % (12 : Int32))), .unset, .unset, .unset, .unset]) at_85 rfl rfl ?_
      have zb1 := (own_rem (own_maskn p2 2147483647 (by decide)) (m := 12) (by decide)).1
      have zb2 := own_remcap (c := 11) (own_maskn p2 2147483647 (by decide)) (m := 12) (by decide) (by decide)
      generalize hze : ((p2 &&& (2147483647 : Int32)) % (12 : Int32)) = z0 at zb1 zb2 ⊢
      exact Go.more (k' := 4) (n' := 150) (by decide) (by decide) (Go.fewer mem0 (m_law1 hw hs p1 p2 p3 p4 p5 p6 k b (0 : Int32) z0 t kt z2 us h0 h E_b F_b_coder F_b_value V_t (zb1) (zb2)))
  · skip
    refine Go.ifY (pc' := 62) at_49 (by decide) (by decide) ((if0 _ _).trans (feq (h1 : ¬ ((((p1.toUInt32 >>> ((4 : Int32) &&& 31).toUInt32).toInt32) &&& (1 : Int32)) = (0 : Int32)))).2) ?_
    refine Go.iconst (pc' := 63) at_62 rfl ic_0 ?_
    refine Go.istore (pc' := 65) (Ls' := #[.val (.int p1), .val (.int p2), .val (.int p3), .val (.int p4), .val (.int p5), .val (.int p6), .val (.int k), .val (.ref b), .val (.int (0 : Int32)), .unset, .unset, .unset, .unset, .unset]) at_63 rfl rfl ?_
    refine Go.iload (pc' := 67) at_65 rfl rfl ?_
    refine Go.ifY (pc' := 78) at_67 (by decide) (by decide) ((if0 _ _).trans (teq (by decide : (0 : Int32) = (0 : Int32))).1) ?_
    refine Go.iload_n (pc' := 79) at_78 rfl rfl ?_
    refine Go.ldcInt (pc' := 81) at_79 rfl (w_0 hw) ?_
    refine Go.iand (pc' := 82) at_81 rfl ?_
    refine Go.bipush (pc' := 84) at_82 rfl icb_12 ?_
    refine Go.irem (pc' := 85) at_84 rfl (by decide) ?_
    refine Go.istore (pc' := 87) (Ls' := #[.val (.int p1), .val (.int p2), .val (.int p3), .val (.int p4), .val (.int p5), .val (.int p6), .val (.int k), .val (.ref b), .val (.int (0 : Int32)), .val (.int ((p2 &&& (2147483647 : Int32)) % (12 : Int32))), .unset, .unset, .unset, .unset]) at_85 rfl rfl ?_
    have zb1 := (own_rem (own_maskn p2 2147483647 (by decide)) (m := 12) (by decide)).1
    have zb2 := own_remcap (c := 11) (own_maskn p2 2147483647 (by decide)) (m := 12) (by decide) (by decide)
    generalize hze : ((p2 &&& (2147483647 : Int32)) % (12 : Int32)) = z0 at zb1 zb2 ⊢
    exact Go.more (k' := 4) (n' := 150) (by decide) (by decide) (Go.fewer mem0 (m_law1 hw hs p1 p2 p3 p4 p5 p6 k b (0 : Int32) z0 t kt z2 us h0 h E_b F_b_coder F_b_value V_t (zb1) (zb2)))
theorem pn_m_law : plainFor (⟨"com/example/tapstone/tapstone/server/RoleOfConfigNamePinLaw", "law", "(IIIIII)Z"⟩ : MethodName) = true := by first | (refine plainFor_of_name ?_; simp [plainName, overriddenIn]; done) | decide +kernel
theorem ef_m_law (mid : MethodId) (p1 : Int32) (p2 : Int32) (p3 : Int32) (p4 : Int32) (p5 : Int32) (p6 : Int32) : entryFrame mid #[(.int p1), (.int p2), (.int p3), (.int p4), (.int p5), (.int p6)] maxLocals = mkF mid 0 #[.val (.int p1), .val (.int p2), .val (.int p3), .val (.int p4), .val (.int p5), .val (.int p6), .unset, .unset, .unset, .unset, .unset, .unset, .unset, .unset] [] := by first | (simp [entryFrame, mkF, argsToLocals, Value.category, maxLocals]; done) | rfl
set_option maxRecDepth 65536 in
set_option maxHeartbeats 40000000 in
theorem m_law {l : Launch} {Z : State} {a0 : Array Value} {n0 : Nat} (hw : ∀ d ∈ tables_1, d.before a0 Z = true) (hs : Stat Z) (p1 : Int32) (p2 : Int32) (p3 : Int32) (p4 : Int32) (p5 : Int32) (p6 : Int32) (h0 : Heap) :
    Met l Z EL0 n0 NR0 KN0 x code maxLocals ret room_1 [] #[(.int p1), (.int p2), (.int p3), (.int p4), (.int p5), (.int p6)] h0 (Q_m_law Z p1 p2 p3 p4 p5 p6 h0) := by
  refine Met.of_go pn_m_law (fun mid => ef_m_law mid p1 p2 p3 p4 p5 p6 ) ?_
  intro hO hWS
  refine Go.iload_n (pc' := 1) at_0 rfl rfl ?_
  refine Go.ldcInt (pc' := 3) at_1 rfl (w_0 hw) ?_
  refine Go.iand (pc' := 4) at_3 rfl ?_
  refine Go.iconst (pc' := 5) at_4 rfl ic_4 ?_
  refine Go.irem (pc' := 6) at_5 rfl (by decide) ?_
  refine Go.istore (pc' := 8) (Ls' := #[.val (.int p1), .val (.int p2), .val (.int p3), .val (.int p4), .val (.int p5), .val (.int p6), .val (.int ((p1 &&& (2147483647 : Int32)) % (4 : Int32))), .unset, .unset, .unset, .unset, .unset, .unset, .unset]) at_6 rfl rfl ?_
  refine Go.iload (pc' := 10) at_8 rfl rfl ?_
  generalize hk : ((p1 &&& (2147483647 : Int32)) % (4 : Int32)) = k
  by_cases hq0 : k = (0 : Int32)
  · skip
    refine Go.ifN (pc' := 13) at_10 rfl ((if0 _ _).trans (teq (hq0 : k = (0 : Int32))).2) ?_
    refine Go.ldcS (pc' := 15) (nn := 36) (z := 9) (vs := [(.int (114 : Int32)), (.int (101 : Int32)), (.int (113 : Int32)), (.int (117 : Int32)), (.int (101 : Int32)), (.int (115 : Int32)), (.int (116 : Int32)), (.int (111 : Int32)), (.int (114 : Int32))]) rfl at_13 rfl (w_1 hw) (sA hw) (by decide) lit_1 (by decide) (by decide) (by decide) (by decide) (by decide) (by decide) ?_
    intro h299 s300 t301 q302 x303 E_s300 F_s300_coder F_s300_value V_t301 ne304
    change Go _ _ _ _ _ _ _ _ _ _ _ _ _ _ [] h299 2 40 15 #[.val (.int p1), .val (.int p2), .val (.int p3), .val (.int p4), .val (.int p5), .val (.int p6), .val (.int k), .unset, .unset, .unset, .unset, .unset, .unset, .unset] [(.ref s300)]
    replace V_t301 : Arv Z h299 t301 q302 .byte (9 : Int32) ([(114 : Int32), (101 : Int32), (113 : Int32), (117 : Int32), (101 : Int32), (115 : Int32), (116 : Int32), (111 : Int32), (114 : Int32)].map Value.int) (.int (0 : Int32)) := V_t301
    refine Go.goto (pc' := 42) at_15 (by decide) (by decide) ?_
    exact Go.more (k' := 2) (n' := 100) (by decide) (by decide) (Go.fewer mem0 (m_law0 hw hs p1 p2 p3 p4 p5 p6 k s300 t301 q302 (9 : Int32) [(114 : Int32), (101 : Int32), (113 : Int32), (117 : Int32), (101 : Int32), (115 : Int32), (116 : Int32), (111 : Int32), (114 : Int32)] h0 h299 E_s300 F_s300_coder F_s300_value V_t301 (by decide)))
  · skip
    refine Go.ifY (pc' := 18) at_10 (by decide) (by decide) ((if0 _ _).trans (feq (hq0 : ¬ (k = (0 : Int32)))).2) ?_
    refine Go.iload (pc' := 20) at_18 rfl rfl ?_
    refine Go.iconst (pc' := 21) at_20 rfl ic_1 ?_
    by_cases hq1 : k = (1 : Int32)
    · skip
      refine Go.icmpN (pc' := 24) at_21 rfl (teq (hq1 : k = (1 : Int32))).2 ?_
      refine Go.ldcS (pc' := 26) (nn := 28) (z := 7) (vs := [(.int (110 : Int32)), (.int (101 : Int32)), (.int (116 : Int32)), (.int (119 : Int32)), (.int (111 : Int32)), (.int (114 : Int32)), (.int (107 : Int32))]) rfl at_24 rfl (w_132 hw) (sA hw) (by decide) lit_2 (by decide) (by decide) (by decide) (by decide) (by decide) (by decide) ?_
      intro h305 s306 t307 q308 x309 E_s306 F_s306_coder F_s306_value V_t307 ne310
      change Go _ _ _ _ _ _ _ _ _ _ _ _ _ _ [] h305 2 32 26 #[.val (.int p1), .val (.int p2), .val (.int p3), .val (.int p4), .val (.int p5), .val (.int p6), .val (.int k), .unset, .unset, .unset, .unset, .unset, .unset, .unset] [(.ref s306)]
      replace V_t307 : Arv Z h305 t307 q308 .byte (7 : Int32) ([(110 : Int32), (101 : Int32), (116 : Int32), (119 : Int32), (111 : Int32), (114 : Int32), (107 : Int32)].map Value.int) (.int (0 : Int32)) := V_t307
      refine Go.goto (pc' := 42) at_26 (by decide) (by decide) ?_
      exact Go.more (k' := 2) (n' := 100) (by decide) (by decide) (Go.fewer mem0 (m_law0 hw hs p1 p2 p3 p4 p5 p6 k s306 t307 q308 (7 : Int32) [(110 : Int32), (101 : Int32), (116 : Int32), (119 : Int32), (111 : Int32), (114 : Int32), (107 : Int32)] h0 h305 E_s306 F_s306_coder F_s306_value V_t307 (by decide)))
    · skip
      refine Go.icmpY (pc' := 29) at_21 (by decide) (by decide) (feq (hq1 : ¬ (k = (1 : Int32)))).2 ?_
      refine Go.iload (pc' := 31) at_29 rfl rfl ?_
      refine Go.iconst (pc' := 32) at_31 rfl ic_2 ?_
      by_cases hq2 : k = (2 : Int32)
      · skip
        refine Go.icmpN (pc' := 35) at_32 rfl (teq (hq2 : k = (2 : Int32))).2 ?_
        refine Go.ldcS (pc' := 37) (nn := 40) (z := 10) (vs := [(.int (105 : Int32)), (.int (110 : Int32)), (.int (116 : Int32)), (.int (101 : Int32)), (.int (103 : Int32)), (.int (114 : Int32)), (.int (97 : Int32)), (.int (116 : Int32)), (.int (111 : Int32)), (.int (114 : Int32))]) rfl at_35 rfl (w_137 hw) (sA hw) (by decide) lit_3 (by decide) (by decide) (by decide) (by decide) (by decide) (by decide) ?_
        intro h311 s312 t313 q314 x315 E_s312 F_s312_coder F_s312_value V_t313 ne316
        change Go _ _ _ _ _ _ _ _ _ _ _ _ _ _ [] h311 2 44 37 #[.val (.int p1), .val (.int p2), .val (.int p3), .val (.int p4), .val (.int p5), .val (.int p6), .val (.int k), .unset, .unset, .unset, .unset, .unset, .unset, .unset] [(.ref s312)]
        replace V_t313 : Arv Z h311 t313 q314 .byte (10 : Int32) ([(105 : Int32), (110 : Int32), (116 : Int32), (101 : Int32), (103 : Int32), (114 : Int32), (97 : Int32), (116 : Int32), (111 : Int32), (114 : Int32)].map Value.int) (.int (0 : Int32)) := V_t313
        refine Go.goto (pc' := 42) at_37 (by decide) (by decide) ?_
        exact Go.more (k' := 2) (n' := 100) (by decide) (by decide) (Go.fewer mem0 (m_law0 hw hs p1 p2 p3 p4 p5 p6 k s312 t313 q314 (10 : Int32) [(105 : Int32), (110 : Int32), (116 : Int32), (101 : Int32), (103 : Int32), (114 : Int32), (97 : Int32), (116 : Int32), (111 : Int32), (114 : Int32)] h0 h311 E_s312 F_s312_coder F_s312_value V_t313 (by decide)))
      · skip
        refine Go.icmpY (pc' := 40) at_32 (by decide) (by decide) (feq (hq2 : ¬ (k = (2 : Int32)))).2 ?_
        refine Go.ldcS (pc' := 42) (nn := 0) (z := 0) (vs := []) rfl at_40 rfl (w_138 hw) (sA hw) (by decide) lit_0 (by decide) (by decide) (by decide) (by decide) (by decide) (by decide) ?_
        intro h317 s318 t319 q320 x321 E_s318 F_s318_coder F_s318_value V_t319 ne322
        change Go _ _ _ _ _ _ _ _ _ _ _ _ _ _ [] h317 2 4 42 #[.val (.int p1), .val (.int p2), .val (.int p3), .val (.int p4), .val (.int p5), .val (.int p6), .val (.int k), .unset, .unset, .unset, .unset, .unset, .unset, .unset] [(.ref s318)]
        replace V_t319 : Arv Z h317 t319 q320 .byte (0 : Int32) ([].map Value.int) (.int (0 : Int32)) := V_t319
        exact Go.more (k' := 2) (n' := 100) (by decide) (by decide) (Go.fewer mem0 (m_law0 hw hs p1 p2 p3 p4 p5 p6 k s318 t319 q320 (0 : Int32) [] h0 h317 E_s318 F_s318_coder F_s318_value V_t319 (by decide)))
set_option maxRecDepth 65536 in
set_option maxHeartbeats 40000000 in
theorem comes_1 {Post : Tables → Env → Array Value → State → Outcome → State → Prop} (hpost : ∀ tb e args s v u, (limb_1_1.after args s (.returned v) u = true ∧ limb_1_2.after args s (.returned v) u = true ∧ True) → Jvm.D.FramedW s (.returned v) u (Jvm.fieldLocs frame_1_writes args s ++ Jvm.arrayLocs frame_1_arrays args s ++ Jvm.staticLocs frame_1_statics s) 32 5312 → Post tb e args s (.returned v) u) :
    ArmFor flags0 classFile x code maxLocals ret World_1 tables_1 room_1 Calls_1 rest_1 Pre_1 Post := by
  intro l hfl _ _ p e ha hc hk s m args below hf hA hF happ hP
  obtain ⟨hcalls, hrest, hpre⟩ := hP
  obtain ⟨-, -, -, hnamed, -, -, -, hat⟩ := (Spec.applies_iff hf).mp happ
  obtain ⟨hg, hn⟩ := and_e (Cond.before_iff.mp (show (Jvm.Cond.and given_1 narrow_1).before args s = true from hpre))
  have hgn := hg
  obtain ⟨h_c, hg⟩ := and_e hg
  obtain ⟨w0, w1, w2, w3, w4, w5, rfl⟩ : ∃ w0 w1 w2 w3 w4 w5 : Value, args = #[w0, w1, w2, w3, w4, w5] := by
    have hs : args.size = 6 := by simpa [Cond.value, given_1] using h_c
    obtain ⟨L⟩ := args
    match L, hs with
    | [w0, w1, w2, w3, w4, w5], _ => exact ⟨w0, w1, w2, w3, w4, w5, rfl⟩
  obtain ⟨h_0, hg⟩ := and_e hg
  obtain ⟨i0, e_0⟩ := is_v h_0
  obtain rfl : w0 = (.int i0) := Option.some.inj e_0
  obtain ⟨h_1, hg⟩ := and_e hg
  obtain ⟨i1, e_1⟩ := is_v h_1
  obtain rfl : w1 = (.int i1) := Option.some.inj e_1
  obtain ⟨h_2, hg⟩ := and_e hg
  obtain ⟨i2, e_2⟩ := is_v h_2
  obtain rfl : w2 = (.int i2) := Option.some.inj e_2
  obtain ⟨h_3, hg⟩ := and_e hg
  obtain ⟨i3, e_3⟩ := is_v h_3
  obtain rfl : w3 = (.int i3) := Option.some.inj e_3
  obtain ⟨h_4, hg⟩ := and_e hg
  obtain ⟨i4, e_4⟩ := is_v h_4
  obtain rfl : w4 = (.int i4) := Option.some.inj e_4
  have h_5 := hg
  obtain ⟨i5, e_5⟩ := is_v h_5
  obtain rfl : w5 = (.int i5) := Option.some.inj e_5
  have hw := fun d (hd : d ∈ tables_1) => atoms_spec (ws := Jvm.Cond.code x code maxLocals ret :: tables_1) hat d (List.mem_cons_of_mem _ hd)
  have hfit : Fit s := fun {y c} hc i hi => by
    obtain ⟨ha, rfl⟩ := Array.getElem?_eq_some_iff.mp hc
    have q := List.all_eq_true.mp ((Array.all_eq_true_iff_forall_mem.mp hF) _ (Array.getElem_mem ha)) i (List.mem_range.mpr hi)
    simpa [Array.getElem?_eq_getElem hi] using q
  have hsets := (atoms_of jdkStatics_1 (show (jdkStatics_1.foldr Jvm.Cond.and restOwn_1).before _ s = true from hrest)).1
  obtain ⟨zc, e_zc⟩ := is_v (Cond.before_iff.mp (hsets _ (List.mem_of_getElem? (i := 1) rfl)))
  have n_zc := gotF (Cond.eq_ints e_zc (Term.int_eval (0))) (not_v (Cond.before_iff.mp (hsets _ (List.mem_of_getElem? (i := 2) rfl))))
  have s_zc := Sta.start e_zc (Or.inl (hsets _ (List.mem_of_getElem? (i := 0) rfl)))
  obtain ⟨fm, e_fm, r_fm⟩ := isR_v (Cond.before_iff.mp (hsets _ (List.mem_of_getElem? (i := 8) rfl)))
  have s_fm := Sta.start e_fm (Or.inl (hsets _ (List.mem_of_getElem? (i := 7) rfl)))
  obtain ⟨oe, e_oe⟩ := exa_v (Cond.before_iff.mp (hsets _ (List.mem_of_getElem? (i := 11) rfl)))
  have r_oe := stRef_of e_oe
  have s_oe := Sta.start e_oe (Or.inl (hsets _ (List.mem_of_getElem? (i := 10) rfl)))
  have x_oe := Exa.start e_oe (Cond.before_iff.mp (hsets _ (List.mem_of_getElem? (i := 11) rfl)))
  have f_oe := Fld.start ((fld_at e_oe).symm.trans (own_eqn (Cond.before_iff.mp (hsets _ (List.mem_of_getElem? (i := 12) rfl)))))
  have hnn := hn
  obtain ⟨n_0, hnn⟩ := and_e hnn
  obtain ⟨n_1, hnn⟩ := and_e hnn
  obtain ⟨n_2, hnn⟩ := and_e hnn
  obtain ⟨n_3, hnn⟩ := and_e hnn
  obtain ⟨n_4, hnn⟩ := and_e hnn
  obtain ⟨n_5, hnn⟩ := and_e hnn
  obtain ⟨n_6, hnn⟩ := and_e hnn
  obtain ⟨n_7, hnn⟩ := and_e hnn
  obtain ⟨n_8, hnn⟩ := and_e hnn
  obtain ⟨n_9, hnn⟩ := and_e hnn
  obtain ⟨n_10, hnn⟩ := and_e hnn
  obtain ⟨n_11, hnn⟩ := and_e hnn
  obtain ⟨n_12, hnn⟩ := and_e hnn
  obtain ⟨n_13, hnn⟩ := and_e hnn
  obtain ⟨n_14, hnn⟩ := and_e hnn
  obtain ⟨n_15, hnn⟩ := and_e hnn
  obtain ⟨n_16, hnn⟩ := and_e hnn
  obtain ⟨n_17, hnn⟩ := and_e hnn
  obtain ⟨n_18, hnn⟩ := and_e hnn
  obtain ⟨n_19, hnn⟩ := and_e hnn
  obtain ⟨n_20, hnn⟩ := and_e hnn
  obtain ⟨n_21, hnn⟩ := and_e hnn
  obtain ⟨n_22, hnn⟩ := and_e hnn
  obtain ⟨n_23, hnn⟩ := and_e hnn
  obtain ⟨n_24, hnn⟩ := and_e hnn
  obtain ⟨n_25, hnn⟩ := and_e hnn
  obtain ⟨n_26, hnn⟩ := and_e hnn
  obtain ⟨n_27, hnn⟩ := and_e hnn
  obtain ⟨n_28, hnn⟩ := and_e hnn
  obtain ⟨n_29, hnn⟩ := and_e hnn
  obtain ⟨n_30, hnn⟩ := and_e hnn
  obtain ⟨n_31, hnn⟩ := and_e hnn
  obtain ⟨n_32, hnn⟩ := and_e hnn
  obtain ⟨n_33, hnn⟩ := and_e hnn
  obtain ⟨n_34, hnn⟩ := and_e hnn
  obtain ⟨n_35, hnn⟩ := and_e hnn
  obtain ⟨n_36, hnn⟩ := and_e hnn
  obtain ⟨n_37, hnn⟩ := and_e hnn
  obtain ⟨n_38, hnn⟩ := and_e hnn
  obtain ⟨n_39, hnn⟩ := and_e hnn
  obtain ⟨n_40, hnn⟩ := and_e hnn
  obtain ⟨n_41, hnn⟩ := and_e hnn
  obtain ⟨n_42, hnn⟩ := and_e hnn
  obtain ⟨n_43, hnn⟩ := and_e hnn
  obtain ⟨n_44, hnn⟩ := and_e hnn
  obtain ⟨n_45, hnn⟩ := and_e hnn
  have n_46 := hnn
  obtain ⟨va, e_va⟩ := arr_v n_0
  have r_va := stRef_of e_va
  have s_va := Sta.start e_va (Or.inl (w_89 hw))
  have x_va := Exa.start e_va n_1
  obtain ⟨cl_va, A_va⟩ := Arr.start e_va n_0
  have l_va := own_len e_va A_va (eqv_i (Term.int_eval (3)) n_2)
  obtain ⟨vb0, ev_0⟩ := exa_v n_3
  have rv_0 := stRef_of ev_0
  obtain ⟨vb1, ev_1⟩ := exa_v n_5
  have rv_1 := stRef_of ev_1
  obtain ⟨vb2, ev_2⟩ := exa_v n_7
  have rv_2 := stRef_of ev_2
  have v_va : Arv s s.heap va cl_va.cls (.object "com/example/tapstone/tapstone/server/Role") (3 : Int32) [(.ref vb0), (.ref vb1), (.ref vb2)] .null := Arv.start hfit A_va l_va.1 l_va.2 (by decide) rfl ⟨own_elem e_va A_va (own_eqr ev_0 n_4), own_elem e_va A_va (own_eqr ev_1 n_6), own_elem e_va A_va (own_eqr ev_2 n_8), trivial⟩
  obtain ⟨b0, e_b0⟩ := exa_v n_3
  have r_b0 := stRef_of e_b0
  have s_b0 := Sta.start e_b0 (Or.inr ⟨(w_72 hw), (w_86 hw)⟩)
  have x_b0 := Exa.start e_b0 n_3
  obtain ⟨c_b0, ec_b0⟩ := exa_v n_9
  have f_b0 := Fld.start ((fld_at e_b0).symm.trans ec_b0)
  have xc_b0 := Exa.start ec_b0 n_9
  have fc_b0 := Fld.start ((fld_at ec_b0).symm.trans (eqv_i (Term.int_eval (0)) n_10))
  obtain ⟨t_b0, et_b0⟩ := arr_v n_11
  have fv_b0 := Fld.start ((fld_at ec_b0).symm.trans et_b0)
  obtain ⟨cl_b0, A_b0⟩ := Arr.start et_b0 n_11
  have l_b0 := own_len et_b0 A_b0 (eqv_i (Term.int_eval (9)) n_12)
  have v_b0 : Arv s s.heap t_b0 cl_b0.cls .byte (9 : Int32) ([(114 : Int32), (101 : Int32), (113 : Int32), (117 : Int32), (101 : Int32), (115 : Int32), (116 : Int32), (111 : Int32), (114 : Int32)].map Value.int) (.int (0 : Int32)) := Arv.start hfit A_b0 l_b0.1 l_b0.2 (by decide) (by decide) ⟨own_elem et_b0 A_b0 (eqv_i (Term.int_eval (114)) n_21), own_elem et_b0 A_b0 (eqv_i (Term.int_eval (101)) n_22), own_elem et_b0 A_b0 (eqv_i (Term.int_eval (113)) n_23), own_elem et_b0 A_b0 (eqv_i (Term.int_eval (117)) n_24), own_elem et_b0 A_b0 (eqv_i (Term.int_eval (101)) n_25), own_elem et_b0 A_b0 (eqv_i (Term.int_eval (115)) n_26), own_elem et_b0 A_b0 (eqv_i (Term.int_eval (116)) n_27), own_elem et_b0 A_b0 (eqv_i (Term.int_eval (111)) n_28), own_elem et_b0 A_b0 (eqv_i (Term.int_eval (114)) n_29), trivial⟩
  obtain ⟨b1, e_b1⟩ := exa_v n_5
  have r_b1 := stRef_of e_b1
  have s_b1 := Sta.start e_b1 (Or.inr ⟨(w_72 hw), (w_87 hw)⟩)
  have x_b1 := Exa.start e_b1 n_5
  obtain ⟨c_b1, ec_b1⟩ := exa_v n_13
  have f_b1 := Fld.start ((fld_at e_b1).symm.trans ec_b1)
  have xc_b1 := Exa.start ec_b1 n_13
  have fc_b1 := Fld.start ((fld_at ec_b1).symm.trans (eqv_i (Term.int_eval (0)) n_14))
  obtain ⟨t_b1, et_b1⟩ := arr_v n_15
  have fv_b1 := Fld.start ((fld_at ec_b1).symm.trans et_b1)
  obtain ⟨cl_b1, A_b1⟩ := Arr.start et_b1 n_15
  have l_b1 := own_len et_b1 A_b1 (eqv_i (Term.int_eval (7)) n_16)
  have v_b1 : Arv s s.heap t_b1 cl_b1.cls .byte (7 : Int32) ([(110 : Int32), (101 : Int32), (116 : Int32), (119 : Int32), (111 : Int32), (114 : Int32), (107 : Int32)].map Value.int) (.int (0 : Int32)) := Arv.start hfit A_b1 l_b1.1 l_b1.2 (by decide) (by decide) ⟨own_elem et_b1 A_b1 (eqv_i (Term.int_eval (110)) n_30), own_elem et_b1 A_b1 (eqv_i (Term.int_eval (101)) n_31), own_elem et_b1 A_b1 (eqv_i (Term.int_eval (116)) n_32), own_elem et_b1 A_b1 (eqv_i (Term.int_eval (119)) n_33), own_elem et_b1 A_b1 (eqv_i (Term.int_eval (111)) n_34), own_elem et_b1 A_b1 (eqv_i (Term.int_eval (114)) n_35), own_elem et_b1 A_b1 (eqv_i (Term.int_eval (107)) n_36), trivial⟩
  obtain ⟨b2, e_b2⟩ := exa_v n_7
  have r_b2 := stRef_of e_b2
  have s_b2 := Sta.start e_b2 (Or.inr ⟨(w_72 hw), (w_88 hw)⟩)
  have x_b2 := Exa.start e_b2 n_7
  obtain ⟨c_b2, ec_b2⟩ := exa_v n_17
  have f_b2 := Fld.start ((fld_at e_b2).symm.trans ec_b2)
  have xc_b2 := Exa.start ec_b2 n_17
  have fc_b2 := Fld.start ((fld_at ec_b2).symm.trans (eqv_i (Term.int_eval (0)) n_18))
  obtain ⟨t_b2, et_b2⟩ := arr_v n_19
  have fv_b2 := Fld.start ((fld_at ec_b2).symm.trans et_b2)
  obtain ⟨cl_b2, A_b2⟩ := Arr.start et_b2 n_19
  have l_b2 := own_len et_b2 A_b2 (eqv_i (Term.int_eval (10)) n_20)
  have v_b2 : Arv s s.heap t_b2 cl_b2.cls .byte (10 : Int32) ([(105 : Int32), (110 : Int32), (116 : Int32), (101 : Int32), (103 : Int32), (114 : Int32), (97 : Int32), (116 : Int32), (111 : Int32), (114 : Int32)].map Value.int) (.int (0 : Int32)) := Arv.start hfit A_b2 l_b2.1 l_b2.2 (by decide) (by decide) ⟨own_elem et_b2 A_b2 (eqv_i (Term.int_eval (105)) n_37), own_elem et_b2 A_b2 (eqv_i (Term.int_eval (110)) n_38), own_elem et_b2 A_b2 (eqv_i (Term.int_eval (116)) n_39), own_elem et_b2 A_b2 (eqv_i (Term.int_eval (101)) n_40), own_elem et_b2 A_b2 (eqv_i (Term.int_eval (103)) n_41), own_elem et_b2 A_b2 (eqv_i (Term.int_eval (114)) n_42), own_elem et_b2 A_b2 (eqv_i (Term.int_eval (97)) n_43), own_elem et_b2 A_b2 (eqv_i (Term.int_eval (116)) n_44), own_elem et_b2 A_b2 (eqv_i (Term.int_eval (111)) n_45), own_elem et_b2 A_b2 (eqv_i (Term.int_eval (114)) n_46), trivial⟩
  have hs : Stat s := ⟨⟨zc, s_zc, n_zc⟩, ⟨fm, s_fm, r_fm⟩, (by rw [r_oe]; exact ⟨s_oe, x_oe, f_oe⟩), (by rw [r_va, rv_0, rv_1, rv_2]; exact ⟨s_va, x_va, _, v_va⟩), (by rw [r_b0]; exact ⟨s_b0, x_b0, c_b0, t_b0, _, f_b0, xc_b0, fc_b0, fv_b0, v_b0⟩), (by rw [r_b1]; exact ⟨s_b1, x_b1, c_b1, t_b1, _, f_b1, xc_b1, fc_b1, fv_b1, v_b1⟩), (by rw [r_b2]; exact ⟨s_b2, x_b2, c_b2, t_b2, _, f_b2, xc_b2, fc_b2, fv_b2, v_b2⟩), trivial⟩
  have hEL : EW s _ EL0 := (EW.cons (w_1 hw) lit_1.1 (EW.cons (w_132 hw) lit_2.1 (EW.cons (w_137 hw) lit_3.1 (EW.cons (w_138 hw) lit_0.1 (EW.cons (w_141 hw) lit_0.1 EW.nil)))))
  have hCH : CHv s EL0 s.vm s.heap := CHv.start hEL (fun p hp => hcalls.1 p hp) (hsets _ (List.mem_of_getElem? (i := 2) rfl)) (sA hw _ (by simp [Bundle.stringAtoms])) (sA hw _ (by simp [Bundle.stringAtoms, Bundle.sN]))
  obtain ⟨n, o, h1, h2, h3, v, L, SN, rfl, ⟨rfl, -⟩, hL, -, -, -, hN, hE⟩ := m_law hw hs i0 i1 i2 i3 i4 i5 s.heap tables_1 p e ha hc hk s m _ below hf ((Spec.applies_iff_loose hf).mp happ).1 ⟨rfl, State.Warmed39.refl s, rfl, hCH, (fun x hx => nomatch hx), ⟨rfl, Ext.refl _⟩, _, hEL⟩ (fun q => nomatch q)
  refine ⟨n, _, h1, h2, h3, hpost _ _ _ _ _ _ ⟨Cond.after_iff.mpr rfl, Cond.after_iff.mpr (eq_i res_at (Term.int_eval (1)) rfl), trivial⟩ ⟨hE.1, hE.2.1, hE.2.2.1, (hE.2.2.2.sift fun y hy => Or.inr (hL y hy)).mono (by decide) (by decide)⟩⟩
theorem main_1_1 : Claimed_1_1 := comes_1 fun _ _ _ _ _ _ h hF => ⟨h.1, hF⟩
theorem main_1_2 : Claimed_1_2 := comes_1 fun _ _ _ _ _ _ h hF => ⟨h.2.1, hF⟩
end Jvm.Pilot.@@N@@
namespace Jvm.Pilot.@@N@@
open Jvm Jvm.ClassFile Sem Op Lib Jvm.Free Jvm.Stand Jvm.Pilot.@@N@@.Jvm.D
/-! MADE BY PROGRAM (witnessworld.py) out of the Statement's table words and the real class files: 24 classes; the members and pool entries that the words name. The judged class is class 1, her method 1. -/
namespace start1
open Jvm.ClassFile
def u (s : String) : CpInfo := .utf8 (stringToUtf16 s)
/-- a pool by its gaps: so many unusable entries, then the entry; so many at the end -/
def gap : Nat → List CpInfo → List CpInfo
  | 0, r => r
  | n + 1, r => .unusable :: gap n r
def poolList (es : List (Nat × CpInfo)) (last : Nat) : List CpInfo := es.foldr (fun e r => gap e.1 (e.2 :: r)) (gap last [])
def pool (es : List (Nat × CpInfo)) (last : Nat) : Array CpInfo := ⟨poolList es last⟩
def fileOf (pool : Array CpInfo) (this : Nat) (attrs : Array Attribute := #[]) (ms : Array MethodInfo := #[]) (fl : Nat := 33) (sup : Nat := 0) (ifs : Array Nat := #[]) (fds : Array FieldInfo := #[]) : ClassFile where
  minorVersion := 0
  majorVersion := 65
  constantPool := pool
  accessFlags := fl
  thisClass := this
  superClass := sup
  interfaces := ifs
  fields := fds
  methods := ms
  attributes := attrs
def plain (name : String) (sup : Option ClassId) : Class where
  name := name
  kind := .ordinary
  loader := none
  accessFlags := 33
  super := sup
  interfaces := #[]
  cf := none
  fields := #[]
  methods := #[]
  instanceTypes := #[]
  staticTypes := #[]
  resolved := #[]
  callSites := []
  init := .initialized
  statics := none
  mirror := none

def pool0 : Array CpInfo := pool [(5, u "<init>"), (0, u "()V"), (1, .class_ 10), (1, u "java/lang/Object"), (85, u "clone"), (0, u "()Ljava/lang/Object;")] 26

def k0c0 : Code := { maxStack := 0, maxLocals := 1, code := object_method_1_code, exceptionTable := #[], attributes := #[] }
def k0m0 : Method := { name := "<init>", desc := "()V", sig := { parameters := [], returnType := none }, accessFlags := 1, code := some k0c0 }
def k0m1 : Method := { name := "clone", desc := "()Ljava/lang/Object;", sig := { parameters := [], returnType := some (.object "java/lang/Object") }, accessFlags := 260, code := none }
/-- java/lang/Object -/
def k0 : Class := { plain "java/lang/Object" none with
  accessFlags := 33
  interfaces := #[]
  cf := some (fileOf pool0 8 #[] #[{ accessFlags := 1, nameIndex := 5, descriptorIndex := 6, attributes := #[] }, { accessFlags := 260, nameIndex := 96, descriptorIndex := 97, attributes := #[] }] 33 0 #[] #[])
  fields := #[]
  methods := #[k0m0, k0m1]
  instanceTypes := #[]
  staticTypes := #[]
  resolved := Array.replicate 124 none
  statics := none }

def pool1 : Array CpInfo := pool [(2, .class_ 4), (1, u "java/lang/Object"), (0, u "<init>"), (0, u "()V"), (0, .integer 2147483647), (0, .string 9), (0, u "requestor"), (0, .string 11), (0, u "network"), (0, .string 13), (0, u "integrator"), (0, .string 15), (0, u ""), (0, .methodref 17 18), (0, .class_ 19), (0, .nameAndType 20 21), (0, u "java/lang/String"), (0, u "length"), (0, u "()I"), (0, .methodref 23 24), (0, .class_ 25), (0, .nameAndType 26 27), (0, u "com/example/tapstone/tapstone/server/RoleOfConfigNamePinLaw"), (0, u "put"), (0, u "([CILjava/lang/String;I)V"), (0, .methodref 17 29), (0, .nameAndType 5 30), (0, u "([C)V"), (0, .methodref 32 33), (0, .class_ 34), (0, .nameAndType 35 36), (0, u "com/example/tapstone/tapstone/server/Role"), (0, u "ofConfigName"), (0, u "(Ljava/lang/String;)Ljava/util/Optional;"), (0, .methodref 17 38), (0, .nameAndType 39 40), (0, u "equals"), (0, u "(Ljava/lang/Object;)Z"), (0, .fieldref 32 42), (0, .nameAndType 43 44), (0, u "REQUESTOR"), (0, u "Lcom/example/tapstone/tapstone/server/Role;"), (0, .fieldref 32 46), (0, .nameAndType 47 44), (0, u "NETWORK"), (0, .fieldref 32 49), (0, .nameAndType 50 44), (0, u "INTEGRATOR"), (0, .methodref 52 53), (0, .class_ 54), (0, .nameAndType 55 56), (0, u "java/util/Optional"), (0, u "isPresent"), (0, u "()Z"), (0, .methodref 52 58), (0, .nameAndType 59 60), (0, u "get"), (0, u "()Ljava/lang/Object;"), (0, .methodref 17 62), (0, .nameAndType 63 64), (0, u "charAt"), (0, u "(I)C"), (2, u "law"), (0, u "(IIIIII)Z")] 5

def k1m0 : Method := { name := "<init>", desc := "()V", sig := { parameters := [], returnType := none }, accessFlags := 1, code := none }
def k1c1 : Code := { maxStack := 4, maxLocals := 14, code := code, exceptionTable := #[], attributes := #[] }
def k1m1 : Method := { name := "law", desc := "(IIIIII)Z", sig := { parameters := [.int, .int, .int, .int, .int, .int], returnType := some .boolean }, accessFlags := 9, code := some k1c1 }
def k1c2 : Code := { maxStack := 6, maxLocals := 4, code := method_3_code, exceptionTable := #[], attributes := #[] }
def k1m2 : Method := { name := "put", desc := "([CILjava/lang/String;I)V", sig := { parameters := [(.array .char), .int, (.object "java/lang/String"), .int], returnType := none }, accessFlags := 10, code := some k1c2 }
/-- com/example/tapstone/tapstone/server/RoleOfConfigNamePinLaw -/
def k1 : Class := { plain "com/example/tapstone/tapstone/server/RoleOfConfigNamePinLaw" (some 0) with
  accessFlags := 49
  interfaces := #[]
  cf := some (fileOf pool1 23 #[] #[{ accessFlags := 1, nameIndex := 5, descriptorIndex := 6, attributes := #[] }, { accessFlags := 9, nameIndex := 67, descriptorIndex := 68, attributes := #[] }, { accessFlags := 10, nameIndex := 26, descriptorIndex := 27, attributes := #[] }] 49 2 #[] #[])
  fields := #[]
  methods := #[k1m0, k1m1, k1m2]
  instanceTypes := #[]
  staticTypes := #[]
  resolved := Array.replicate 74 none
  statics := none }

def pool2 : Array CpInfo := pool [(1, .class_ 2), (0, u "java/io/Serializable"), (0, .class_ 4), (0, u "java/lang/Object")] 2

/-- java/io/Serializable -/
def k2 : Class := { plain "java/io/Serializable" (some 0) with
  accessFlags := 1537
  interfaces := #[]
  cf := some (fileOf pool2 1 #[] #[] 1537 3 #[] #[])
  fields := #[]
  methods := #[]
  instanceTypes := #[]
  staticTypes := #[]
  resolved := Array.replicate 7 none
  statics := none }

def pool3 : Array CpInfo := pool [(1, .class_ 2), (0, u "java/lang/Comparable"), (0, .class_ 4), (0, u "java/lang/Object")] 7

/-- java/lang/Comparable -/
def k3 : Class := { plain "java/lang/Comparable" (some 0) with
  accessFlags := 1537
  interfaces := #[]
  cf := some (fileOf pool3 1 #[] #[] 1537 3 #[] #[])
  fields := #[]
  methods := #[]
  instanceTypes := #[]
  staticTypes := #[]
  resolved := Array.replicate 12 none
  statics := none }

def pool4 : Array CpInfo := pool [(2, .class_ 4), (1, u "java/lang/CharSequence"), (42, .class_ 48), (0, u "java/lang/CharSequence$1CodePointIterator"), (10, .class_ 60), (0, u "java/lang/CharSequence$1CharIterator"), (5, .class_ 67), (0, u "java/lang/Object")] 63

/-- java/lang/CharSequence -/
def k4 : Class := { plain "java/lang/CharSequence" (some 0) with
  accessFlags := 1537
  interfaces := #[]
  cf := some (fileOf pool4 2 #[.nestMembers #[47, 59]] #[] 1537 66 #[] #[])
  fields := #[]
  methods := #[]
  instanceTypes := #[]
  staticTypes := #[]
  resolved := Array.replicate 131 none
  statics := none }

def pool5 : Array CpInfo := pool [(1, .class_ 2), (0, u "java/lang/constant/Constable"), (0, .class_ 4), (0, u "java/lang/Object")] 6

/-- java/lang/constant/Constable -/
def k5 : Class := { plain "java/lang/constant/Constable" (some 0) with
  accessFlags := 1537
  interfaces := #[]
  cf := some (fileOf pool5 1 #[] #[] 1537 3 #[] #[])
  fields := #[]
  methods := #[]
  instanceTypes := #[]
  staticTypes := #[]
  resolved := Array.replicate 11 none
  statics := none }

def pool6 : Array CpInfo := pool [(1, .class_ 2), (0, u "java/lang/constant/ConstantDesc"), (0, .class_ 4), (0, u "java/lang/Object")] 32

/-- java/lang/constant/ConstantDesc -/
def k6 : Class := { plain "java/lang/constant/ConstantDesc" (some 0) with
  accessFlags := 1537
  interfaces := #[]
  cf := some (fileOf pool6 1 #[] #[] 1537 3 #[] #[])
  fields := #[]
  methods := #[]
  instanceTypes := #[]
  staticTypes := #[]
  resolved := Array.replicate 37 none
  statics := none }

def pool7 : Array CpInfo := pool [(1, .methodref 2 3), (0, .class_ 4), (0, .nameAndType 5 6), (0, u "java/lang/Object"), (0, u "<init>"), (0, u "()V"), (0, .string 8), (0, u ""), (0, .fieldref 10 11), (0, .class_ 12), (0, .nameAndType 13 14), (0, u "java/lang/String"), (0, u "value"), (0, u "[B"), (0, .fieldref 10 16), (0, .nameAndType 17 18), (0, u "coder"), (0, u "B"), (2, u "hash"), (0, u "I"), (2, u "hashIsZero"), (0, u "Z"), (0, .methodref 10 28), (0, .nameAndType 5 29), (0, u "([CIILjava/lang/Void;)V"), (8, .fieldref 10 39), (0, .nameAndType 40 26), (0, u "COMPACT_STRINGS"), (1, .class_ 44), (1, u "java/lang/StringUTF16"), (0, u "compress"), (1, .methodref 42 48), (0, .nameAndType 49 50), (0, u "coderFromArrayLen"), (0, u "([BI)B"), (56, .class_ 109), (1, u "java/lang/StringLatin1"), (32, u "()Z"), (34, .methodref 42 178), (0, .nameAndType 45 179), (0, u "([CII)[B"), (154, u "()I"), (0, .methodref 10 336), (0, .nameAndType 17 337), (0, u "()B"), (25, u "([BI)C"), (27, u "(II)V"), (35, u "(I)C"), (64, .methodref 10 493), (0, .nameAndType 494 142), (0, u "isLatin1"), (0, .methodref 107 496), (0, .nameAndType 497 363), (0, u "charAt"), (3, u "checkIndex"), (5, u "length"), (33, .methodref 107 542), (0, .nameAndType 543 544), (0, u "equals"), (0, u "([B[B)Z"), (28, u "(Ljava/lang/Object;)Z"), (1, .class_ 576), (0, u "java/lang/CharSequence"), (22, u "CASE_INSENSITIVE_ORDER"), (0, u "Ljava/util/Comparator;"), (409, u "([C)V"), (42, .fieldref 1054 1055), (0, .class_ 1056), (0, .nameAndType 1057 1058), (0, u "jdk/internal/util/Preconditions"), (0, u "SIOOBE_FORMATTER"), (0, u "Ljava/util/function/BiFunction;"), (0, .methodref 1054 1060), (0, .nameAndType 501 1061), (0, u "(IILjava/util/function/BiFunction;)I"), (39, u "serialPersistentFields"), (0, u "[Ljava/io/ObjectStreamField;"), (0, .class_ 1104), (0, u "java/lang/String$CaseInsensitiveComparator"), (1, .class_ 1107), (0, u "java/io/Serializable"), (0, .class_ 1109), (0, u "java/lang/Comparable"), (0, .class_ 1111), (0, u "java/lang/constant/Constable"), (0, .class_ 1113), (0, u "java/lang/constant/ConstantDesc"), (2, u "serialVersionUID"), (0, u "J"), (3, u "REPL"), (0, u "C"), (2, u "LATIN1"), (1, u "UTF16")] 323

def k7m0 : Method := { name := "<init>", desc := "()V", sig := { parameters := [], returnType := none }, accessFlags := 1, code := none }
def k7c1 : Code := { maxStack := 5, maxLocals := 2, code := jdk_42_method_3_code, exceptionTable := #[], attributes := #[] }
def k7m1 : Method := { name := "<init>", desc := "([C)V", sig := { parameters := [(.array .char)], returnType := none }, accessFlags := 1, code := some k7c1 }
def k7c2 : Code := { maxStack := 2, maxLocals := 1, code := jdk_42_method_54_code, exceptionTable := #[], attributes := #[] }
def k7m2 : Method := { name := "length", desc := "()I", sig := { parameters := [], returnType := some .int }, accessFlags := 1, code := some k7c2 }
def k7c3 : Code := { maxStack := 2, maxLocals := 2, code := jdk_42_method_56_code, exceptionTable := #[], attributes := #[] }
def k7m3 : Method := { name := "charAt", desc := "(I)C", sig := { parameters := [.int], returnType := some .char }, accessFlags := 1, code := some k7c3 }
def k7c4 : Code := { maxStack := 2, maxLocals := 3, code := jdk_42_method_66_code, exceptionTable := #[], attributes := #[] }
def k7m4 : Method := { name := "equals", desc := "(Ljava/lang/Object;)Z", sig := { parameters := [(.object "java/lang/Object")], returnType := some .boolean }, accessFlags := 1, code := some k7c4 }
def k7c5 : Code := { maxStack := 4, maxLocals := 6, code := jdk_42_method_149_code, exceptionTable := #[], attributes := #[] }
def k7m5 : Method := { name := "<init>", desc := "([CIILjava/lang/Void;)V", sig := { parameters := [(.array .char), .int, .int, (.object "java/lang/Void")], returnType := none }, accessFlags := 2, code := some k7c5 }
def k7c6 : Code := { maxStack := 1, maxLocals := 1, code := jdk_42_method_152_code, exceptionTable := #[], attributes := #[] }
def k7m6 : Method := { name := "coder", desc := "()B", sig := { parameters := [], returnType := some .byte }, accessFlags := 0, code := some k7c6 }
def k7c7 : Code := { maxStack := 1, maxLocals := 1, code := jdk_42_method_154_code, exceptionTable := #[], attributes := #[] }
def k7m7 : Method := { name := "isLatin1", desc := "()Z", sig := { parameters := [], returnType := some .boolean }, accessFlags := 0, code := some k7c7 }
def k7c8 : Code := { maxStack := 3, maxLocals := 2, code := jdk_42_method_155_code, exceptionTable := #[], attributes := #[] }
def k7m8 : Method := { name := "checkIndex", desc := "(II)V", sig := { parameters := [.int, .int], returnType := none }, accessFlags := 8, code := some k7c8 }
/-- java/lang/String -/
def k7 : Class := { plain "java/lang/String" (some 0) with
  accessFlags := 49
  interfaces := #[2, 3, 4, 5, 6]
  cf := some (fileOf pool7 10 #[.nestMembers #[1103]] #[{ accessFlags := 1, nameIndex := 5, descriptorIndex := 6, attributes := #[] }, { accessFlags := 1, nameIndex := 5, descriptorIndex := 1010, attributes := #[] }, { accessFlags := 1, nameIndex := 507, descriptorIndex := 334, attributes := #[] }, { accessFlags := 1, nameIndex := 497, descriptorIndex := 427, attributes := #[] }, { accessFlags := 1, nameIndex := 543, descriptorIndex := 573, attributes := #[] }, { accessFlags := 2, nameIndex := 5, descriptorIndex := 29, attributes := #[] }, { accessFlags := 0, nameIndex := 17, descriptorIndex := 337, attributes := #[] }, { accessFlags := 0, nameIndex := 494, descriptorIndex := 142, attributes := #[] }, { accessFlags := 8, nameIndex := 501, descriptorIndex := 391, attributes := #[] }] 49 2 #[1106, 1108, 575, 1110, 1112] #[{ accessFlags := 18, nameIndex := 13, descriptorIndex := 14, attributes := #[] }, { accessFlags := 18, nameIndex := 17, descriptorIndex := 18, attributes := #[] }, { accessFlags := 2, nameIndex := 21, descriptorIndex := 22, attributes := #[] }, { accessFlags := 2, nameIndex := 25, descriptorIndex := 26, attributes := #[] }, { accessFlags := 26, nameIndex := 1116, descriptorIndex := 1117, attributes := #[] }, { accessFlags := 24, nameIndex := 40, descriptorIndex := 26, attributes := #[] }, { accessFlags := 26, nameIndex := 1101, descriptorIndex := 1102, attributes := #[] }, { accessFlags := 26, nameIndex := 1121, descriptorIndex := 1122, attributes := #[] }, { accessFlags := 25, nameIndex := 599, descriptorIndex := 600, attributes := #[] }, { accessFlags := 24, nameIndex := 1125, descriptorIndex := 18, attributes := #[] }, { accessFlags := 24, nameIndex := 1127, descriptorIndex := 18, attributes := #[] }])
  fields := #[{ name := "value", type := (.array .byte), accessFlags := 18, slot := 0, constantValue := 0 }, { name := "coder", type := .byte, accessFlags := 18, slot := 1, constantValue := 0 }, { name := "hash", type := .int, accessFlags := 2, slot := 2, constantValue := 0 }, { name := "hashIsZero", type := .boolean, accessFlags := 2, slot := 3, constantValue := 0 }, { name := "serialVersionUID", type := .long, accessFlags := 26, slot := 0, constantValue := 0 }, { name := "COMPACT_STRINGS", type := .boolean, accessFlags := 24, slot := 1, constantValue := 0 }, { name := "serialPersistentFields", type := (.array (.object "java/io/ObjectStreamField")), accessFlags := 26, slot := 2, constantValue := 0 }, { name := "REPL", type := .char, accessFlags := 26, slot := 3, constantValue := 0 }, { name := "CASE_INSENSITIVE_ORDER", type := (.object "java/util/Comparator"), accessFlags := 25, slot := 4, constantValue := 0 }, { name := "LATIN1", type := .byte, accessFlags := 24, slot := 5, constantValue := 0 }, { name := "UTF16", type := .byte, accessFlags := 24, slot := 6, constantValue := 0 }]
  methods := #[k7m0, k7m1, k7m2, k7m3, k7m4, k7m5, k7m6, k7m7, k7m8]
  instanceTypes := #[(.array .byte), .byte, .int, .boolean]
  staticTypes := #[.long, .boolean, (.array (.object "java/io/ObjectStreamField")), .char, (.object "java/util/Comparator"), .byte, .byte]
  resolved := Array.replicate 1451 none
  statics := some 0 }

def pool8 : Array CpInfo := pool [(1, .class_ 2), (0, u "java/lang/String"), (1, .class_ 6), (1, u "java/lang/Object"), (0, u "<init>"), (0, u "()V"), (0, .methodref 1 10), (0, .nameAndType 11 12), (0, u "checkIndex"), (0, u "(II)V"), (1, .class_ 16), (1, u "java/lang/StringLatin1"), (36, u "([BI)C"), (67, u "$assertionsDisabled"), (0, u "Z"), (98, .class_ 223), (1, u "java/lang/StringLatin1$LinesSpliterator"), (28, u "charAt"), (28, u "equals"), (0, u "([B[B)Z"), (107, .class_ 391), (0, u "java/lang/StringLatin1$CharsSpliterator")] 3

def k8m0 : Method := { name := "<init>", desc := "()V", sig := { parameters := [], returnType := none }, accessFlags := 0, code := none }
def k8c1 : Code := { maxStack := 2, maxLocals := 2, code := jdk_43_method_2_code, exceptionTable := #[], attributes := #[] }
def k8m1 : Method := { name := "charAt", desc := "([BI)C", sig := { parameters := [(.array .byte), .int], returnType := some .char }, accessFlags := 9, code := some k8c1 }
def k8c2 : Code := { maxStack := 3, maxLocals := 3, code := jdk_43_method_13_code, exceptionTable := #[], attributes := #[] }
def k8m2 : Method := { name := "equals", desc := "([B[B)Z", sig := { parameters := [(.array .byte), (.array .byte)], returnType := some .boolean }, accessFlags := 9, code := some k8c2 }
/-- java/lang/StringLatin1 -/
def k8 : Class := { plain "java/lang/StringLatin1" (some 0) with
  accessFlags := 48
  interfaces := #[]
  cf := some (fileOf pool8 14 #[.nestMembers #[390, 221]] #[{ accessFlags := 0, nameIndex := 7, descriptorIndex := 8, attributes := #[] }, { accessFlags := 9, nameIndex := 252, descriptorIndex := 53, attributes := #[] }, { accessFlags := 9, nameIndex := 281, descriptorIndex := 282, attributes := #[] }] 48 4 #[] #[{ accessFlags := 4120, nameIndex := 121, descriptorIndex := 122, attributes := #[] }])
  fields := #[{ name := "$assertionsDisabled", type := .boolean, accessFlags := 4120, slot := 0, constantValue := 0 }]
  methods := #[k8m0, k8m1, k8m2]
  instanceTypes := #[]
  staticTypes := #[.boolean]
  resolved := Array.replicate 395 none
  statics := none }

def pool9 : Array CpInfo := pool [(2, .class_ 4), (1, u "java/lang/Object"), (0, u "<init>"), (0, u "()V"), (17, .class_ 26), (1, u "jdk/internal/util/Preconditions"), (6, u "checkIndex"), (21, .class_ 56), (0, u "jdk/internal/util/Preconditions$4"), (57, .class_ 115), (0, u "jdk/internal/util/Preconditions$1"), (7, u "SIOOBE_FORMATTER"), (0, u "Ljava/util/function/BiFunction;"), (0, .class_ 126), (0, u "jdk/internal/util/Preconditions$2"), (3, u "AIOOBE_FORMATTER"), (0, .class_ 132), (0, u "jdk/internal/util/Preconditions$3"), (3, u "IOOBE_FORMATTER"), (41, u "(IILjava/util/function/BiFunction;)I")] 15

def k9m0 : Method := { name := "<init>", desc := "()V", sig := { parameters := [], returnType := none }, accessFlags := 1, code := none }
def k9c1 : Code := { maxStack := 3, maxLocals := 3, code := jdk_41_method_11_code, exceptionTable := #[], attributes := #[] }
def k9m1 : Method := { name := "checkIndex", desc := "(IILjava/util/function/BiFunction;)I", sig := { parameters := [.int, .int, (.object "java/util/function/BiFunction")], returnType := some .int }, accessFlags := 9, code := some k9c1 }
/-- jdk/internal/util/Preconditions -/
def k9 : Class := { plain "jdk/internal/util/Preconditions" (some 0) with
  accessFlags := 33
  interfaces := #[]
  cf := some (fileOf pool9 24 #[.nestMembers #[55, 131, 125, 114]] #[{ accessFlags := 1, nameIndex := 5, descriptorIndex := 6, attributes := #[] }, { accessFlags := 9, nameIndex := 33, descriptorIndex := 178, attributes := #[] }] 33 2 #[] #[{ accessFlags := 25, nameIndex := 123, descriptorIndex := 124, attributes := #[] }, { accessFlags := 25, nameIndex := 130, descriptorIndex := 124, attributes := #[] }, { accessFlags := 25, nameIndex := 136, descriptorIndex := 124, attributes := #[] }])
  fields := #[{ name := "SIOOBE_FORMATTER", type := (.object "java/util/function/BiFunction"), accessFlags := 25, slot := 0, constantValue := 0 }, { name := "AIOOBE_FORMATTER", type := (.object "java/util/function/BiFunction"), accessFlags := 25, slot := 1, constantValue := 0 }, { name := "IOOBE_FORMATTER", type := (.object "java/util/function/BiFunction"), accessFlags := 25, slot := 2, constantValue := 0 }]
  methods := #[k9m0, k9m1]
  instanceTypes := #[]
  staticTypes := #[(.object "java/util/function/BiFunction"), (.object "java/util/function/BiFunction"), (.object "java/util/function/BiFunction")]
  resolved := Array.replicate 194 none
  statics := some 1 }

def pool10 : Array CpInfo := pool [(6, .class_ 8), (1, u "java/lang/Object"), (0, u "<init>"), (0, u "()V"), (1, .class_ 14), (1, u "java/lang/StringUTF16"), (31, u "$assertionsDisabled"), (0, u "Z"), (13, u "HI_BYTE_SHIFT"), (0, u "I"), (2, u "LO_BYTE_SHIFT"), (49, .methodref 12 116), (0, .nameAndType 117 118), (0, u "compress"), (0, u "([CI[BII)I"), (3, u "([CII)[B"), (138, u "coderFromArrayLen"), (0, u "([BI)B"), (106, .class_ 371), (1, u "java/lang/StringUTF16$LinesSpliterator"), (58, u "MAX_LENGTH"), (196, .class_ 628), (0, u "java/lang/StringUTF16$CodePointsSpliterator"), (0, .class_ 630), (0, u "java/lang/StringUTF16$CharsSpliterator")] 4

def k10m0 : Method := { name := "<init>", desc := "()V", sig := { parameters := [], returnType := none }, accessFlags := 0, code := none }
def k10c1 : Code := { maxStack := 2, maxLocals := 2, code := jdk_52_method_15_code, exceptionTable := #[], attributes := #[] }
def k10m1 : Method := { name := "coderFromArrayLen", desc := "([BI)B", sig := { parameters := [(.array .byte), .int], returnType := some .byte }, accessFlags := 8, code := some k10c1 }
def k10c2 : Code := { maxStack := 5, maxLocals := 6, code := jdk_52_method_16_code, exceptionTable := #[], attributes := #[] }
def k10m2 : Method := { name := "compress", desc := "([CII)[B", sig := { parameters := [(.array .char), .int, .int], returnType := some (.array .byte) }, accessFlags := 9, code := some k10c2 }
def k10c3 : Code := { maxStack := 3, maxLocals := 7, code := jdk_52_method_21_code, exceptionTable := #[], attributes := #[] }
def k10m3 : Method := { name := "compress", desc := "([CI[BII)I", sig := { parameters := [(.array .char), .int, (.array .byte), .int, .int], returnType := some .int }, accessFlags := 9, code := some k10c3 }
/-- java/lang/StringUTF16 -/
def k10 : Class := { plain "java/lang/StringUTF16" (some 0) with
  accessFlags := 48
  interfaces := #[]
  cf := some (fileOf pool10 12 #[.nestMembers #[627, 629, 369]] #[{ accessFlags := 0, nameIndex := 9, descriptorIndex := 10, attributes := #[] }, { accessFlags := 8, nameIndex := 261, descriptorIndex := 262, attributes := #[] }, { accessFlags := 9, nameIndex := 117, descriptorIndex := 122, attributes := #[] }, { accessFlags := 9, nameIndex := 117, descriptorIndex := 118, attributes := #[] }] 48 6 #[] #[{ accessFlags := 26, nameIndex := 61, descriptorIndex := 62, attributes := #[] }, { accessFlags := 26, nameIndex := 65, descriptorIndex := 62, attributes := #[] }, { accessFlags := 24, nameIndex := 430, descriptorIndex := 62, attributes := #[] }, { accessFlags := 4120, nameIndex := 46, descriptorIndex := 47, attributes := #[] }])
  fields := #[{ name := "HI_BYTE_SHIFT", type := .int, accessFlags := 26, slot := 0, constantValue := 0 }, { name := "LO_BYTE_SHIFT", type := .int, accessFlags := 26, slot := 1, constantValue := 0 }, { name := "MAX_LENGTH", type := .int, accessFlags := 24, slot := 2, constantValue := 0 }, { name := "$assertionsDisabled", type := .boolean, accessFlags := 4120, slot := 3, constantValue := 0 }]
  methods := #[k10m0, k10m1, k10m2, k10m3]
  instanceTypes := #[]
  staticTypes := #[.int, .int, .int, .boolean]
  resolved := Array.replicate 635 none
  statics := none }

def pool11 : Array CpInfo := pool [(2, .class_ 4), (1, u "java/lang/Enum"), (0, u "name"), (0, u "Ljava/lang/String;"), (2, u "ordinal"), (0, u "I"), (1, .class_ 14), (1, u "java/lang/Object"), (4, u "hash"), (86, .class_ 108), (1, u "java/lang/Enum$EnumDesc"), (2, .class_ 112), (0, u "java/lang/constant/Constable"), (0, .class_ 114), (0, u "java/lang/Comparable"), (0, .class_ 116), (0, u "java/io/Serializable")] 87

/-- java/lang/Enum -/
def k11 : Class := { plain "java/lang/Enum" (some 0) with
  accessFlags := 1057
  interfaces := #[5, 3, 2]
  cf := some (fileOf pool11 2 #[.nestMembers #[106]] #[] 1057 12 #[111, 113, 115] #[{ accessFlags := 18, nameIndex := 5, descriptorIndex := 6, attributes := #[] }, { accessFlags := 18, nameIndex := 9, descriptorIndex := 10, attributes := #[] }, { accessFlags := 2, nameIndex := 19, descriptorIndex := 10, attributes := #[] }])
  fields := #[{ name := "name", type := (.object "java/lang/String"), accessFlags := 18, slot := 0, constantValue := 0 }, { name := "ordinal", type := .int, accessFlags := 18, slot := 1, constantValue := 0 }, { name := "hash", type := .int, accessFlags := 2, slot := 2, constantValue := 0 }]
  methods := #[]
  instanceTypes := #[(.object "java/lang/String"), .int, .int]
  staticTypes := #[]
  resolved := Array.replicate 204 none
  statics := none }

def pool12 : Array CpInfo := pool [(1, .class_ 2), (0, u "com/example/tapstone/tapstone/server/Role"), (2, u "REQUESTOR"), (0, u "Lcom/example/tapstone/tapstone/server/Role;"), (2, u "NETWORK"), (2, u "INTEGRATOR"), (0, .fieldref 1 14), (0, .nameAndType 15 16), (0, u "$VALUES"), (0, u "[Lcom/example/tapstone/tapstone/server/Role;"), (0, .methodref 18 19), (0, .class_ 16), (0, .nameAndType 20 21), (0, u "clone"), (0, u "()Ljava/lang/Object;"), (1, .class_ 25), (1, u "java/lang/Enum"), (6, .fieldref 1 33), (0, .nameAndType 34 35), (0, u "configName"), (0, u "Ljava/lang/String;"), (0, .methodref 1 37), (0, .nameAndType 38 39), (0, u "values"), (0, u "()[Lcom/example/tapstone/tapstone/server/Role;"), (0, .methodref 41 42), (0, .class_ 43), (0, .nameAndType 44 45), (0, u "java/lang/String"), (0, u "equals"), (0, u "(Ljava/lang/Object;)Z"), (0, .methodref 47 48), (0, .class_ 49), (0, .nameAndType 50 51), (0, u "java/util/Optional"), (0, u "of"), (0, u "(Ljava/lang/Object;)Ljava/util/Optional;"), (0, .methodref 47 53), (0, .nameAndType 54 55), (0, u "empty"), (0, u "()Ljava/util/Optional;"), (22, u "ofConfigName"), (0, u "(Ljava/lang/String;)Ljava/util/Optional;")] 7

def k12c0 : Code := { maxStack := 1, maxLocals := 0, code := prog_29_method_1_code, exceptionTable := #[], attributes := #[] }
def k12m0 : Method := { name := "values", desc := "()[Lcom/example/tapstone/tapstone/server/Role;", sig := { parameters := [], returnType := some (.array (.object "com/example/tapstone/tapstone/server/Role")) }, accessFlags := 9, code := some k12c0 }
def k12c1 : Code := { maxStack := 2, maxLocals := 5, code := prog_29_method_5_code, exceptionTable := #[], attributes := #[] }
def k12m1 : Method := { name := "ofConfigName", desc := "(Ljava/lang/String;)Ljava/util/Optional;", sig := { parameters := [(.object "java/lang/String")], returnType := some (.object "java/util/Optional") }, accessFlags := 8, code := some k12c1 }
/-- com/example/tapstone/tapstone/server/Role -/
def k12 : Class := { plain "com/example/tapstone/tapstone/server/Role" (some 11) with
  accessFlags := 16432
  interfaces := #[]
  cf := some (fileOf pool12 1 #[] #[{ accessFlags := 9, nameIndex := 38, descriptorIndex := 39, attributes := #[] }, { accessFlags := 8, nameIndex := 78, descriptorIndex := 79, attributes := #[] }] 16432 23 #[] #[{ accessFlags := 16409, nameIndex := 5, descriptorIndex := 6, attributes := #[] }, { accessFlags := 16409, nameIndex := 9, descriptorIndex := 6, attributes := #[] }, { accessFlags := 16409, nameIndex := 12, descriptorIndex := 6, attributes := #[] }, { accessFlags := 18, nameIndex := 34, descriptorIndex := 35, attributes := #[] }, { accessFlags := 4122, nameIndex := 15, descriptorIndex := 16, attributes := #[] }])
  fields := #[{ name := "REQUESTOR", type := (.object "com/example/tapstone/tapstone/server/Role"), accessFlags := 16409, slot := 0, constantValue := 0 }, { name := "NETWORK", type := (.object "com/example/tapstone/tapstone/server/Role"), accessFlags := 16409, slot := 1, constantValue := 0 }, { name := "INTEGRATOR", type := (.object "com/example/tapstone/tapstone/server/Role"), accessFlags := 16409, slot := 2, constantValue := 0 }, { name := "configName", type := (.object "java/lang/String"), accessFlags := 18, slot := 3, constantValue := 0 }, { name := "$VALUES", type := (.array (.object "com/example/tapstone/tapstone/server/Role")), accessFlags := 4122, slot := 3, constantValue := 0 }]
  methods := #[k12m0, k12m1]
  instanceTypes := #[(.object "java/lang/String"), .int, .int, (.object "java/lang/String")]
  staticTypes := #[(.object "com/example/tapstone/tapstone/server/Role"), (.object "com/example/tapstone/tapstone/server/Role"), (.object "com/example/tapstone/tapstone/server/Role"), (.array (.object "com/example/tapstone/tapstone/server/Role"))]
  resolved := Array.replicate 87 none
  statics := some 2 }

def pool13 : Array CpInfo := pool [(1, .class_ 2), (0, u "java/lang/Cloneable"), (0, .class_ 4), (0, u "java/lang/Object")] 2

/-- java/lang/Cloneable -/
def k13 : Class := { plain "java/lang/Cloneable" (some 0) with
  accessFlags := 1537
  interfaces := #[]
  cf := some (fileOf pool13 1 #[] #[] 1537 3 #[] #[])
  fields := #[]
  methods := #[]
  instanceTypes := #[]
  staticTypes := #[]
  resolved := Array.replicate 7 none
  statics := none }

def pool14 : Array CpInfo := pool [(1, .fieldref 2 3), (0, .class_ 4), (0, .nameAndType 5 6), (0, u "java/util/Optional"), (0, u "EMPTY"), (0, u "Ljava/util/Optional;"), (0, .methodref 8 9), (0, .class_ 10), (0, .nameAndType 11 12), (0, u "java/lang/Object"), (0, u "<init>"), (0, u "()V"), (0, .fieldref 2 14), (0, .nameAndType 15 16), (0, u "value"), (0, u "Ljava/lang/Object;"), (0, .methodref 18 19), (0, .class_ 20), (0, .nameAndType 21 22), (0, u "java/util/Objects"), (0, u "requireNonNull"), (0, u "(Ljava/lang/Object;)Ljava/lang/Object;"), (0, .methodref 2 24), (0, .nameAndType 11 25), (0, u "(Ljava/lang/Object;)V"), (20, u "()Z"), (8, u "empty"), (0, u "()Ljava/util/Optional;"), (8, u "(Ljava/lang/Object;)Ljava/util/Optional;"), (2, u "isPresent"), (4, u "get"), (0, u "()Ljava/lang/Object;"), (7, u "of")] 104

def k14c0 : Code := { maxStack := 1, maxLocals := 1, code := jdk_32_method_1_code, exceptionTable := #[], attributes := #[] }
def k14m0 : Method := { name := "empty", desc := "()Ljava/util/Optional;", sig := { parameters := [], returnType := some (.object "java/util/Optional") }, accessFlags := 9, code := some k14c0 }
def k14c1 : Code := { maxStack := 2, maxLocals := 2, code := jdk_32_method_2_code, exceptionTable := #[], attributes := #[] }
def k14m1 : Method := { name := "<init>", desc := "(Ljava/lang/Object;)V", sig := { parameters := [(.object "java/lang/Object")], returnType := none }, accessFlags := 2, code := some k14c1 }
def k14c2 : Code := { maxStack := 3, maxLocals := 1, code := jdk_32_method_3_code, exceptionTable := #[], attributes := #[] }
def k14m2 : Method := { name := "of", desc := "(Ljava/lang/Object;)Ljava/util/Optional;", sig := { parameters := [(.object "java/lang/Object")], returnType := some (.object "java/util/Optional") }, accessFlags := 9, code := some k14c2 }
def k14c3 : Code := { maxStack := 3, maxLocals := 1, code := jdk_32_method_5_code, exceptionTable := #[], attributes := #[] }
def k14m3 : Method := { name := "get", desc := "()Ljava/lang/Object;", sig := { parameters := [], returnType := some (.object "java/lang/Object") }, accessFlags := 1, code := some k14c3 }
def k14c4 : Code := { maxStack := 1, maxLocals := 1, code := jdk_32_method_6_code, exceptionTable := #[], attributes := #[] }
def k14m4 : Method := { name := "isPresent", desc := "()Z", sig := { parameters := [], returnType := some .boolean }, accessFlags := 1, code := some k14c4 }
/-- java/util/Optional -/
def k14 : Class := { plain "java/util/Optional" (some 0) with
  accessFlags := 49
  interfaces := #[]
  cf := some (fileOf pool14 2 #[] #[{ accessFlags := 9, nameIndex := 55, descriptorIndex := 56, attributes := #[] }, { accessFlags := 2, nameIndex := 11, descriptorIndex := 25, attributes := #[] }, { accessFlags := 9, nameIndex := 82, descriptorIndex := 65, attributes := #[] }, { accessFlags := 1, nameIndex := 73, descriptorIndex := 74, attributes := #[] }, { accessFlags := 1, nameIndex := 68, descriptorIndex := 46, attributes := #[] }] 49 8 #[] #[{ accessFlags := 26, nameIndex := 5, descriptorIndex := 6, attributes := #[] }, { accessFlags := 18, nameIndex := 15, descriptorIndex := 16, attributes := #[] }])
  fields := #[{ name := "EMPTY", type := (.object "java/util/Optional"), accessFlags := 26, slot := 0, constantValue := 0 }, { name := "value", type := (.object "java/lang/Object"), accessFlags := 18, slot := 0, constantValue := 0 }]
  methods := #[k14m0, k14m1, k14m2, k14m3, k14m4]
  instanceTypes := #[(.object "java/lang/Object")]
  staticTypes := #[(.object "java/util/Optional")]
  resolved := Array.replicate 187 none
  statics := some 3 }

def pool15 : Array CpInfo := pool [(2, .class_ 4), (1, u "java/lang/Object"), (0, u "<init>"), (0, u "()V"), (35, .class_ 44), (1, u "java/util/Objects"), (0, u "requireNonNull"), (0, u "(Ljava/lang/Object;)Ljava/lang/Object;")] 137

def k15m0 : Method := { name := "<init>", desc := "()V", sig := { parameters := [], returnType := none }, accessFlags := 2, code := none }
def k15c1 : Code := { maxStack := 2, maxLocals := 1, code := jdk_31_method_10_code, exceptionTable := #[], attributes := #[] }
def k15m1 : Method := { name := "requireNonNull", desc := "(Ljava/lang/Object;)Ljava/lang/Object;", sig := { parameters := [(.object "java/lang/Object")], returnType := some (.object "java/lang/Object") }, accessFlags := 9, code := some k15c1 }
/-- java/util/Objects -/
def k15 : Class := { plain "java/util/Objects" (some 0) with
  accessFlags := 49
  interfaces := #[]
  cf := some (fileOf pool15 42 #[] #[{ accessFlags := 2, nameIndex := 5, descriptorIndex := 6, attributes := #[] }, { accessFlags := 9, nameIndex := 45, descriptorIndex := 46, attributes := #[] }] 49 2 #[] #[])
  fields := #[]
  methods := #[k15m0, k15m1]
  instanceTypes := #[]
  staticTypes := #[]
  resolved := Array.replicate 184 none
  statics := none }

def pool16 : Array CpInfo := pool [(9, u "<init>"), (6, .class_ 18), (1, u "java/lang/Object"), (0, u "()V"), (1, .class_ 23), (1, u "jdk/internal/util/ArraysSupport"), (0, u "LOG2_ARRAY_LONG_INDEX_SCALE"), (0, u "I"), (2, u "U"), (0, u "Ljdk/internal/misc/Unsafe;"), (8, u "BIG_ENDIAN"), (0, u "Z"), (8, u "LOG2_BYTE_BIT_SIZE"), (4, u "LOG2_ARRAY_INT_INDEX_SCALE"), (54, u "JLA"), (0, u "Ljdk/internal/access/JavaLangAccess;"), (11, u "LOG2_ARRAY_BOOLEAN_INDEX_SCALE"), (9, u "LOG2_ARRAY_BYTE_INDEX_SCALE"), (5, u "LOG2_ARRAY_CHAR_INDEX_SCALE"), (5, u "LOG2_ARRAY_SHORT_INDEX_SCALE"), (18, u "LOG2_ARRAY_FLOAT_INDEX_SCALE"), (24, u "LOG2_ARRAY_DOUBLE_INDEX_SCALE"), (89, u "T_BOOLEAN"), (2, u "T_CHAR"), (1, u "T_FLOAT"), (1, u "T_DOUBLE"), (1, u "T_BYTE"), (1, u "T_SHORT"), (1, u "T_INT"), (1, u "T_LONG"), (1, u "SOFT_MAX_ARRAY_LENGTH")] 83

def k16m0 : Method := { name := "<init>", desc := "()V", sig := { parameters := [], returnType := none }, accessFlags := 2, code := none }
/-- jdk/internal/util/ArraysSupport -/
def k16 : Class := { plain "jdk/internal/util/ArraysSupport" (some 0) with
  accessFlags := 33
  interfaces := #[]
  cf := some (fileOf pool16 21 #[] #[{ accessFlags := 2, nameIndex := 9, descriptorIndex := 19, attributes := #[] }] 33 16 #[] #[{ accessFlags := 24, nameIndex := 28, descriptorIndex := 29, attributes := #[] }, { accessFlags := 26, nameIndex := 38, descriptorIndex := 39, attributes := #[] }, { accessFlags := 25, nameIndex := 121, descriptorIndex := 25, attributes := #[] }, { accessFlags := 25, nameIndex := 131, descriptorIndex := 25, attributes := #[] }, { accessFlags := 25, nameIndex := 137, descriptorIndex := 25, attributes := #[] }, { accessFlags := 25, nameIndex := 143, descriptorIndex := 25, attributes := #[] }, { accessFlags := 25, nameIndex := 53, descriptorIndex := 25, attributes := #[] }, { accessFlags := 25, nameIndex := 24, descriptorIndex := 25, attributes := #[] }, { accessFlags := 25, nameIndex := 162, descriptorIndex := 25, attributes := #[] }, { accessFlags := 25, nameIndex := 187, descriptorIndex := 25, attributes := #[] }, { accessFlags := 26, nameIndex := 48, descriptorIndex := 25, attributes := #[] }, { accessFlags := 25, nameIndex := 277, descriptorIndex := 25, attributes := #[] }, { accessFlags := 25, nameIndex := 280, descriptorIndex := 25, attributes := #[] }, { accessFlags := 25, nameIndex := 282, descriptorIndex := 25, attributes := #[] }, { accessFlags := 25, nameIndex := 284, descriptorIndex := 25, attributes := #[] }, { accessFlags := 25, nameIndex := 286, descriptorIndex := 25, attributes := #[] }, { accessFlags := 25, nameIndex := 288, descriptorIndex := 25, attributes := #[] }, { accessFlags := 25, nameIndex := 290, descriptorIndex := 25, attributes := #[] }, { accessFlags := 25, nameIndex := 292, descriptorIndex := 25, attributes := #[] }, { accessFlags := 26, nameIndex := 108, descriptorIndex := 109, attributes := #[] }, { accessFlags := 25, nameIndex := 294, descriptorIndex := 25, attributes := #[] }])
  fields := #[{ name := "U", type := (.object "jdk/internal/misc/Unsafe"), accessFlags := 24, slot := 0, constantValue := 0 }, { name := "BIG_ENDIAN", type := .boolean, accessFlags := 26, slot := 1, constantValue := 0 }, { name := "LOG2_ARRAY_BOOLEAN_INDEX_SCALE", type := .int, accessFlags := 25, slot := 2, constantValue := 0 }, { name := "LOG2_ARRAY_BYTE_INDEX_SCALE", type := .int, accessFlags := 25, slot := 3, constantValue := 0 }, { name := "LOG2_ARRAY_CHAR_INDEX_SCALE", type := .int, accessFlags := 25, slot := 4, constantValue := 0 }, { name := "LOG2_ARRAY_SHORT_INDEX_SCALE", type := .int, accessFlags := 25, slot := 5, constantValue := 0 }, { name := "LOG2_ARRAY_INT_INDEX_SCALE", type := .int, accessFlags := 25, slot := 6, constantValue := 0 }, { name := "LOG2_ARRAY_LONG_INDEX_SCALE", type := .int, accessFlags := 25, slot := 7, constantValue := 0 }, { name := "LOG2_ARRAY_FLOAT_INDEX_SCALE", type := .int, accessFlags := 25, slot := 8, constantValue := 0 }, { name := "LOG2_ARRAY_DOUBLE_INDEX_SCALE", type := .int, accessFlags := 25, slot := 9, constantValue := 0 }, { name := "LOG2_BYTE_BIT_SIZE", type := .int, accessFlags := 26, slot := 10, constantValue := 0 }, { name := "T_BOOLEAN", type := .int, accessFlags := 25, slot := 11, constantValue := 0 }, { name := "T_CHAR", type := .int, accessFlags := 25, slot := 12, constantValue := 0 }, { name := "T_FLOAT", type := .int, accessFlags := 25, slot := 13, constantValue := 0 }, { name := "T_DOUBLE", type := .int, accessFlags := 25, slot := 14, constantValue := 0 }, { name := "T_BYTE", type := .int, accessFlags := 25, slot := 15, constantValue := 0 }, { name := "T_SHORT", type := .int, accessFlags := 25, slot := 16, constantValue := 0 }, { name := "T_INT", type := .int, accessFlags := 25, slot := 17, constantValue := 0 }, { name := "T_LONG", type := .int, accessFlags := 25, slot := 18, constantValue := 0 }, { name := "JLA", type := (.object "jdk/internal/access/JavaLangAccess"), accessFlags := 26, slot := 19, constantValue := 0 }, { name := "SOFT_MAX_ARRAY_LENGTH", type := .int, accessFlags := 25, slot := 20, constantValue := 0 }]
  methods := #[k16m0]
  instanceTypes := #[]
  staticTypes := #[(.object "jdk/internal/misc/Unsafe"), .boolean, .int, .int, .int, .int, .int, .int, .int, .int, .int, .int, .int, .int, .int, .int, .int, .int, .int, (.object "jdk/internal/access/JavaLangAccess"), .int]
  resolved := Array.replicate 378 none
  statics := none }

/-- the primitive byte -/
def k17 : Class := { plain "byte" none with kind := .primitive 'B', accessFlags := 0x411 }
/-- [B -/
def k18 : Class := { plain "[B" (some 0) with kind := .array 17 .byte, interfaces := #[13, 2], accessFlags := 1041 }

/-- the primitive char -/
def k19 : Class := { plain "char" none with kind := .primitive 'C', accessFlags := 0x411 }
/-- [C -/
def k20 : Class := { plain "[C" (some 0) with kind := .array 19 .char, interfaces := #[13, 2], accessFlags := 1041 }

/-- the primitive int -/
def k21 : Class := { plain "int" none with kind := .primitive 'I', accessFlags := 0x411 }
/-- [I -/
def k22 : Class := { plain "[I" (some 0) with kind := .array 21 .int, interfaces := #[13, 2], accessFlags := 1041 }

/-- [Lcom/example/tapstone/tapstone/server/Role; -/
def k23 : Class := { plain "[Lcom/example/tapstone/tapstone/server/Role;" (some 0) with kind := .array 12 (.object "com/example/tapstone/tapstone/server/Role"), interfaces := #[13, 2], accessFlags := 1041 }

def heap : Heap := #[{ cls := 7, slots := #[.long 0, .int 1, .null, .int 0, .null, .int 0, .int 0], vm := .statics 7 },
  { cls := 9, slots := #[.null, .null, .null], vm := .statics 9 },
  { cls := 12, slots := #[.ref 5, .ref 6, .ref 7, .ref 4], vm := .statics 12 },
  { cls := 14, slots := #[.ref 14], vm := .statics 14 },
  { cls := 23, slots := #[.ref 5, .ref 6, .ref 7], vm := .none },
  { cls := 12, slots := #[.null, .int 0, .int 0, .ref 8], vm := .none },
  { cls := 12, slots := #[.null, .int 1, .int 0, .ref 10], vm := .none },
  { cls := 12, slots := #[.null, .int 2, .int 0, .ref 12], vm := .none },
  { cls := 7, slots := #[.ref 9, .int 0, .int 0, .int 0], vm := .none },
  { cls := 18, slots := #[.int 114, .int 101, .int 113, .int 117, .int 101, .int 115, .int 116, .int 111, .int 114], vm := .none },
  { cls := 7, slots := #[.ref 11, .int 0, .int 0, .int 0], vm := .none },
  { cls := 18, slots := #[.int 110, .int 101, .int 116, .int 119, .int 111, .int 114, .int 107], vm := .none },
  { cls := 7, slots := #[.ref 13, .int 0, .int 0, .int 0], vm := .none },
  { cls := 18, slots := #[.int 105, .int 110, .int 116, .int 101, .int 103, .int 114, .int 97, .int 116, .int 111, .int 114], vm := .none },
  { cls := 14, slots := #[.null], vm := .none }]
def classes : Array Class := #[k0, k1, k2, k3, k4, k5, k6, k7, k8, k9, k10, k11, k12, k13, k14, k15, k16, k17, k18, k19, k20, k21, k22, k23]
def interned : List (Array UInt16 × Addr) := []
def slotsUsed : Nat := 69
def theMethod : MethodId := ⟨1, 1⟩
def args0 : Array Value := #[.int 1, .int 10, .int 15, .int 65, .int 66, .int 67]
def aboutOver (below : List Frame) : State where
  vm := { classes := classes, interned := interned.toArray }
  heap := heap
  slotsUsed := slotsUsed
  threads := #[{ frames := .invoking theMethod args0 :: below }]
def below0 : List Frame := [.native { method := ⟨0, 0⟩, args := #[] }]
def about1 : State := aboutOver below0
def p0 : Program := .bare "" "" ""
def e0 : Env := launch0.env 0 0 0
theorem w_frames : about1.frames = Frame.invoking theMethod args0 :: below0 := rfl
set_option maxRecDepth 65536 in
theorem w_args : argsFit about1.vm theMethod args0 = true := by decide +kernel
set_option maxRecDepth 65536 in
theorem w_heap : heapFits about1 = true := by decide +kernel
set_option maxRecDepth 65536 in
theorem w_runnable : about1.curStatus? = some .runnable := by decide +kernel
set_option maxRecDepth 65536 in
theorem w_alone : about1.alone = true := by decide +kernel
set_option maxRecDepth 65536 in
theorem w_named : about1.methodNamed? x = some theMethod := by decide +kernel
set_option maxRecDepth 65536 in
theorem w_hears : about1.hears theMethod below0 = true := by decide +kernel
set_option maxRecDepth 65536 in
theorem w_ripe : about1.ripe theMethod args0 below0 = true := by decide +kernel
theorem w_running : about1.status = .running := rfl
set_option maxRecDepth 65536 in
theorem w_room : about1.hasRoom e0.platform room_1 = true :=
  launch0.hasRoom_least _ room_1 (by decide +kernel) (by decide +kernel) (by decide +kernel) (by decide +kernel) (by decide +kernel) (by decide +kernel)
theorem allAtoms_all (ts : List Jvm.Cond) (a : Array Jvm.Value) (st : Jvm.State) : (allAtoms ts).before a st = ts.all (fun c => c.before a st) := by
  induction ts with
  | nil => rfl
  | cons c t ih =>
    show (Jvm.Cond.and c (allAtoms t)).before a st = _
    rw [Jvm.Cond.before_and, ih, List.all_cons]
def words1 : List Jvm.Cond := Jvm.Cond.code x code maxLocals ret :: tables_1
/-- a 'code' word, met by the world's own term for the bytes: nothing is compared byte by byte -/
theorem code_word {y : MethodName} {bytes : ByteArray} {mx : Nat} {rt : Option FieldType} {a : Array Value} {s : State} {m : MethodId} {meth : Method} {c : Code} (h1 : s.methodNamed? y = some m) (h2 : s.vm.method? m = some meth) (h3 : meth.code = some c) (h4 : c.code = bytes)
    (h5 : (c.maxLocals == mx && c.exceptionTable.isEmpty && decide (c.maxStack ≤ mostOperands) && decide (meth.sig.returnType = rt) && !meth.locks && decide (parseMethodDescriptor y.desc = some meth.sig)) = true) : (Jvm.Cond.code y bytes mx rt).before a s = true := by
  simp only [Bool.and_eq_true, beq_iff_eq, Bool.not_eq_true', decide_eq_true_eq] at h5
  obtain ⟨⟨⟨⟨⟨g1, g2⟩, g3⟩, g4⟩, g5⟩, g6⟩ := h5
  simp [Cond.before, Cond.holds, Cond.value, h1, h2, h3, h4, g1, g2, g3, g4, g5, g6]
def isCode : Jvm.Cond → Bool
  | .code _ _ _ _ => true
  | _ => false
theorem all_split {L : List Jvm.Cond} {P : Jvm.Cond → Bool} (h1 : L.all (fun c => isCode c || P c) = true) (h2 : ∀ c ∈ L.filter isCode, P c = true) : L.all P = true := by
  refine List.all_eq_true.mpr fun c hc => ?_
  have h := List.all_eq_true.mp h1 c hc
  rcases Bool.eq_false_or_eq_true (isCode c) with hi | hi
  · exact h2 c (List.mem_filter.mpr ⟨hc, hi⟩)
  · simpa [hi] using h
set_option maxRecDepth 65536 in
theorem w_c0 : (Jvm.Cond.code x code maxLocals ret).before args0 about1 = true := code_word (m := ⟨1, 1⟩) (meth := k1m1) (c := k1c1) (by decide +kernel) rfl rfl rfl (by decide +kernel)
set_option maxRecDepth 65536 in
theorem w_c1 : (Jvm.Cond.code ({ cls := "java/lang/String", name := "length", desc := "()I" } : Jvm.MethodName) jdk_42_method_54_code (1 : Nat) (Option.some Jvm.ClassFile.FieldType.int)).before args0 about1 = true := code_word (m := ⟨7, 2⟩) (meth := k7m2) (c := k7c2) (by decide +kernel) rfl rfl rfl (by decide +kernel)
set_option maxRecDepth 65536 in
theorem w_c2 : (Jvm.Cond.code ({ cls := "java/lang/String", name := "coder", desc := "()B" } : Jvm.MethodName) jdk_42_method_152_code (1 : Nat) (Option.some Jvm.ClassFile.FieldType.byte)).before args0 about1 = true := code_word (m := ⟨7, 6⟩) (meth := k7m6) (c := k7c6) (by decide +kernel) rfl rfl rfl (by decide +kernel)
set_option maxRecDepth 65536 in
theorem w_c3 : (Jvm.Cond.code ({ cls := "com/example/tapstone/tapstone/server/RoleOfConfigNamePinLaw", name := "put", desc := "([CILjava/lang/String;I)V" } : Jvm.MethodName) method_3_code (4 : Nat) (Option.none : Option Jvm.ClassFile.FieldType)).before args0 about1 = true := code_word (m := ⟨1, 2⟩) (meth := k1m2) (c := k1c2) (by decide +kernel) rfl rfl rfl (by decide +kernel)
set_option maxRecDepth 65536 in
theorem w_c4 : (Jvm.Cond.code ({ cls := "java/lang/String", name := "charAt", desc := "(I)C" } : Jvm.MethodName) jdk_42_method_56_code (2 : Nat) (Option.some Jvm.ClassFile.FieldType.char)).before args0 about1 = true := code_word (m := ⟨7, 3⟩) (meth := k7m3) (c := k7c3) (by decide +kernel) rfl rfl rfl (by decide +kernel)
set_option maxRecDepth 65536 in
theorem w_c5 : (Jvm.Cond.code ({ cls := "java/lang/String", name := "isLatin1", desc := "()Z" } : Jvm.MethodName) jdk_42_method_154_code (1 : Nat) (Option.some Jvm.ClassFile.FieldType.boolean)).before args0 about1 = true := code_word (m := ⟨7, 7⟩) (meth := k7m7) (c := k7c7) (by decide +kernel) rfl rfl rfl (by decide +kernel)
set_option maxRecDepth 65536 in
theorem w_c6 : (Jvm.Cond.code ({ cls := "java/lang/StringLatin1", name := "charAt", desc := "([BI)C" } : Jvm.MethodName) jdk_43_method_2_code (2 : Nat) (Option.some Jvm.ClassFile.FieldType.char)).before args0 about1 = true := code_word (m := ⟨8, 1⟩) (meth := k8m1) (c := k8c1) (by decide +kernel) rfl rfl rfl (by decide +kernel)
set_option maxRecDepth 65536 in
theorem w_c7 : (Jvm.Cond.code ({ cls := "java/lang/String", name := "checkIndex", desc := "(II)V" } : Jvm.MethodName) jdk_42_method_155_code (2 : Nat) (Option.none : Option Jvm.ClassFile.FieldType)).before args0 about1 = true := code_word (m := ⟨7, 8⟩) (meth := k7m8) (c := k7c8) (by decide +kernel) rfl rfl rfl (by decide +kernel)
set_option maxRecDepth 65536 in
theorem w_c8 : (Jvm.Cond.code ({ cls := "jdk/internal/util/Preconditions", name := "checkIndex", desc := "(IILjava/util/function/BiFunction;)I" } : Jvm.MethodName) jdk_41_method_11_code (3 : Nat) (Option.some Jvm.ClassFile.FieldType.int)).before args0 about1 = true := code_word (m := ⟨9, 1⟩) (meth := k9m1) (c := k9c1) (by decide +kernel) rfl rfl rfl (by decide +kernel)
set_option maxRecDepth 65536 in
theorem w_c9 : (Jvm.Cond.code ({ cls := "java/lang/String", name := "<init>", desc := "([C)V" } : Jvm.MethodName) jdk_42_method_3_code (2 : Nat) (Option.none : Option Jvm.ClassFile.FieldType)).before args0 about1 = true := code_word (m := ⟨7, 1⟩) (meth := k7m1) (c := k7c1) (by decide +kernel) rfl rfl rfl (by decide +kernel)
set_option maxRecDepth 65536 in
theorem w_c10 : (Jvm.Cond.code ({ cls := "java/lang/String", name := "<init>", desc := "([CIILjava/lang/Void;)V" } : Jvm.MethodName) jdk_42_method_149_code (6 : Nat) (Option.none : Option Jvm.ClassFile.FieldType)).before args0 about1 = true := code_word (m := ⟨7, 5⟩) (meth := k7m5) (c := k7c5) (by decide +kernel) rfl rfl rfl (by decide +kernel)
set_option maxRecDepth 65536 in
theorem w_c11 : (Jvm.Cond.code ({ cls := "java/lang/Object", name := "<init>", desc := "()V" } : Jvm.MethodName) object_method_1_code (1 : Nat) (Option.none : Option Jvm.ClassFile.FieldType)).before args0 about1 = true := code_word (m := ⟨0, 0⟩) (meth := k0m0) (c := k0c0) (by decide +kernel) rfl rfl rfl (by decide +kernel)
set_option maxRecDepth 65536 in
theorem w_c12 : (Jvm.Cond.code ({ cls := "java/lang/StringUTF16", name := "compress", desc := "([CII)[B" } : Jvm.MethodName) jdk_52_method_16_code (6 : Nat) (Option.some (Jvm.ClassFile.FieldType.array Jvm.ClassFile.FieldType.byte))).before args0 about1 = true := code_word (m := ⟨10, 2⟩) (meth := k10m2) (c := k10c2) (by decide +kernel) rfl rfl rfl (by decide +kernel)
set_option maxRecDepth 65536 in
theorem w_c13 : (Jvm.Cond.code ({ cls := "java/lang/StringUTF16", name := "compress", desc := "([CI[BII)I" } : Jvm.MethodName) jdk_52_method_21_code (7 : Nat) (Option.some Jvm.ClassFile.FieldType.int)).before args0 about1 = true := code_word (m := ⟨10, 3⟩) (meth := k10m3) (c := k10c3) (by decide +kernel) rfl rfl rfl (by decide +kernel)
set_option maxRecDepth 65536 in
theorem w_c14 : (Jvm.Cond.code ({ cls := "java/lang/StringUTF16", name := "coderFromArrayLen", desc := "([BI)B" } : Jvm.MethodName) jdk_52_method_15_code (2 : Nat) (Option.some Jvm.ClassFile.FieldType.byte)).before args0 about1 = true := code_word (m := ⟨10, 1⟩) (meth := k10m1) (c := k10c1) (by decide +kernel) rfl rfl rfl (by decide +kernel)
set_option maxRecDepth 65536 in
theorem w_c15 : (Jvm.Cond.code ({ cls := "com/example/tapstone/tapstone/server/Role", name := "ofConfigName", desc := "(Ljava/lang/String;)Ljava/util/Optional;" } : Jvm.MethodName) prog_29_method_5_code (5 : Nat) (Option.some (Jvm.ClassFile.FieldType.object "java/util/Optional"))).before args0 about1 = true := code_word (m := ⟨12, 1⟩) (meth := k12m1) (c := k12c1) (by decide +kernel) rfl rfl rfl (by decide +kernel)
set_option maxRecDepth 65536 in
theorem w_c16 : (Jvm.Cond.code ({ cls := "com/example/tapstone/tapstone/server/Role", name := "values", desc := "()[Lcom/example/tapstone/tapstone/server/Role;" } : Jvm.MethodName) prog_29_method_1_code (0 : Nat) (Option.some (Jvm.ClassFile.FieldType.array (Jvm.ClassFile.FieldType.object "com/example/tapstone/tapstone/server/Role")))).before args0 about1 = true := code_word (m := ⟨12, 0⟩) (meth := k12m0) (c := k12c0) (by decide +kernel) rfl rfl rfl (by decide +kernel)
set_option maxRecDepth 65536 in
theorem w_c17 : (Jvm.Cond.code ({ cls := "java/lang/String", name := "equals", desc := "(Ljava/lang/Object;)Z" } : Jvm.MethodName) jdk_42_method_66_code (3 : Nat) (Option.some Jvm.ClassFile.FieldType.boolean)).before args0 about1 = true := code_word (m := ⟨7, 4⟩) (meth := k7m4) (c := k7c4) (by decide +kernel) rfl rfl rfl (by decide +kernel)
set_option maxRecDepth 65536 in
theorem w_c18 : (Jvm.Cond.code ({ cls := "java/lang/StringLatin1", name := "equals", desc := "([B[B)Z" } : Jvm.MethodName) jdk_43_method_13_code (3 : Nat) (Option.some Jvm.ClassFile.FieldType.boolean)).before args0 about1 = true := code_word (m := ⟨8, 2⟩) (meth := k8m2) (c := k8c2) (by decide +kernel) rfl rfl rfl (by decide +kernel)
set_option maxRecDepth 65536 in
theorem w_c19 : (Jvm.Cond.code ({ cls := "java/util/Optional", name := "of", desc := "(Ljava/lang/Object;)Ljava/util/Optional;" } : Jvm.MethodName) jdk_32_method_3_code (1 : Nat) (Option.some (Jvm.ClassFile.FieldType.object "java/util/Optional"))).before args0 about1 = true := code_word (m := ⟨14, 2⟩) (meth := k14m2) (c := k14c2) (by decide +kernel) rfl rfl rfl (by decide +kernel)
set_option maxRecDepth 65536 in
theorem w_c20 : (Jvm.Cond.code ({ cls := "java/util/Objects", name := "requireNonNull", desc := "(Ljava/lang/Object;)Ljava/lang/Object;" } : Jvm.MethodName) jdk_31_method_10_code (1 : Nat) (Option.some (Jvm.ClassFile.FieldType.object "java/lang/Object"))).before args0 about1 = true := code_word (m := ⟨15, 1⟩) (meth := k15m1) (c := k15c1) (by decide +kernel) rfl rfl rfl (by decide +kernel)
set_option maxRecDepth 65536 in
theorem w_c21 : (Jvm.Cond.code ({ cls := "java/util/Optional", name := "<init>", desc := "(Ljava/lang/Object;)V" } : Jvm.MethodName) jdk_32_method_2_code (2 : Nat) (Option.none : Option Jvm.ClassFile.FieldType)).before args0 about1 = true := code_word (m := ⟨14, 1⟩) (meth := k14m1) (c := k14c1) (by decide +kernel) rfl rfl rfl (by decide +kernel)
set_option maxRecDepth 65536 in
theorem w_c22 : (Jvm.Cond.code ({ cls := "java/util/Optional", name := "isPresent", desc := "()Z" } : Jvm.MethodName) jdk_32_method_6_code (1 : Nat) (Option.some Jvm.ClassFile.FieldType.boolean)).before args0 about1 = true := code_word (m := ⟨14, 4⟩) (meth := k14m4) (c := k14c4) (by decide +kernel) rfl rfl rfl (by decide +kernel)
set_option maxRecDepth 65536 in
theorem w_c23 : (Jvm.Cond.code ({ cls := "java/util/Optional", name := "get", desc := "()Ljava/lang/Object;" } : Jvm.MethodName) jdk_32_method_5_code (1 : Nat) (Option.some (Jvm.ClassFile.FieldType.object "java/lang/Object"))).before args0 about1 = true := code_word (m := ⟨14, 3⟩) (meth := k14m3) (c := k14c3) (by decide +kernel) rfl rfl rfl (by decide +kernel)
set_option maxRecDepth 65536 in
theorem w_c24 : (Jvm.Cond.code ({ cls := "java/util/Optional", name := "empty", desc := "()Ljava/util/Optional;" } : Jvm.MethodName) jdk_32_method_1_code (1 : Nat) (Option.some (Jvm.ClassFile.FieldType.object "java/util/Optional"))).before args0 about1 = true := code_word (m := ⟨14, 0⟩) (meth := k14m0) (c := k14c0) (by decide +kernel) rfl rfl rfl (by decide +kernel)
def codes1 : List Jvm.Cond := [Jvm.Cond.code x code maxLocals ret, Jvm.Cond.code ({ cls := "java/lang/String", name := "length", desc := "()I" } : Jvm.MethodName) jdk_42_method_54_code (1 : Nat) (Option.some Jvm.ClassFile.FieldType.int), Jvm.Cond.code ({ cls := "java/lang/String", name := "coder", desc := "()B" } : Jvm.MethodName) jdk_42_method_152_code (1 : Nat) (Option.some Jvm.ClassFile.FieldType.byte), Jvm.Cond.code ({ cls := "com/example/tapstone/tapstone/server/RoleOfConfigNamePinLaw", name := "put", desc := "([CILjava/lang/String;I)V" } : Jvm.MethodName) method_3_code (4 : Nat) (Option.none : Option Jvm.ClassFile.FieldType), Jvm.Cond.code ({ cls := "java/lang/String", name := "charAt", desc := "(I)C" } : Jvm.MethodName) jdk_42_method_56_code (2 : Nat) (Option.some Jvm.ClassFile.FieldType.char), Jvm.Cond.code ({ cls := "java/lang/String", name := "isLatin1", desc := "()Z" } : Jvm.MethodName) jdk_42_method_154_code (1 : Nat) (Option.some Jvm.ClassFile.FieldType.boolean), Jvm.Cond.code ({ cls := "java/lang/StringLatin1", name := "charAt", desc := "([BI)C" } : Jvm.MethodName) jdk_43_method_2_code (2 : Nat) (Option.some Jvm.ClassFile.FieldType.char), Jvm.Cond.code ({ cls := "java/lang/String", name := "checkIndex", desc := "(II)V" } : Jvm.MethodName) jdk_42_method_155_code (2 : Nat) (Option.none : Option Jvm.ClassFile.FieldType), Jvm.Cond.code ({ cls := "jdk/internal/util/Preconditions", name := "checkIndex", desc := "(IILjava/util/function/BiFunction;)I" } : Jvm.MethodName) jdk_41_method_11_code (3 : Nat) (Option.some Jvm.ClassFile.FieldType.int), Jvm.Cond.code ({ cls := "java/lang/String", name := "<init>", desc := "([C)V" } : Jvm.MethodName) jdk_42_method_3_code (2 : Nat) (Option.none : Option Jvm.ClassFile.FieldType), Jvm.Cond.code ({ cls := "java/lang/String", name := "<init>", desc := "([CIILjava/lang/Void;)V" } : Jvm.MethodName) jdk_42_method_149_code (6 : Nat) (Option.none : Option Jvm.ClassFile.FieldType), Jvm.Cond.code ({ cls := "java/lang/Object", name := "<init>", desc := "()V" } : Jvm.MethodName) object_method_1_code (1 : Nat) (Option.none : Option Jvm.ClassFile.FieldType), Jvm.Cond.code ({ cls := "java/lang/StringUTF16", name := "compress", desc := "([CII)[B" } : Jvm.MethodName) jdk_52_method_16_code (6 : Nat) (Option.some (Jvm.ClassFile.FieldType.array Jvm.ClassFile.FieldType.byte)), Jvm.Cond.code ({ cls := "java/lang/StringUTF16", name := "compress", desc := "([CI[BII)I" } : Jvm.MethodName) jdk_52_method_21_code (7 : Nat) (Option.some Jvm.ClassFile.FieldType.int), Jvm.Cond.code ({ cls := "java/lang/StringUTF16", name := "coderFromArrayLen", desc := "([BI)B" } : Jvm.MethodName) jdk_52_method_15_code (2 : Nat) (Option.some Jvm.ClassFile.FieldType.byte), Jvm.Cond.code ({ cls := "com/example/tapstone/tapstone/server/Role", name := "ofConfigName", desc := "(Ljava/lang/String;)Ljava/util/Optional;" } : Jvm.MethodName) prog_29_method_5_code (5 : Nat) (Option.some (Jvm.ClassFile.FieldType.object "java/util/Optional")), Jvm.Cond.code ({ cls := "com/example/tapstone/tapstone/server/Role", name := "values", desc := "()[Lcom/example/tapstone/tapstone/server/Role;" } : Jvm.MethodName) prog_29_method_1_code (0 : Nat) (Option.some (Jvm.ClassFile.FieldType.array (Jvm.ClassFile.FieldType.object "com/example/tapstone/tapstone/server/Role"))), Jvm.Cond.code ({ cls := "java/lang/String", name := "equals", desc := "(Ljava/lang/Object;)Z" } : Jvm.MethodName) jdk_42_method_66_code (3 : Nat) (Option.some Jvm.ClassFile.FieldType.boolean), Jvm.Cond.code ({ cls := "java/lang/StringLatin1", name := "equals", desc := "([B[B)Z" } : Jvm.MethodName) jdk_43_method_13_code (3 : Nat) (Option.some Jvm.ClassFile.FieldType.boolean), Jvm.Cond.code ({ cls := "java/util/Optional", name := "of", desc := "(Ljava/lang/Object;)Ljava/util/Optional;" } : Jvm.MethodName) jdk_32_method_3_code (1 : Nat) (Option.some (Jvm.ClassFile.FieldType.object "java/util/Optional")), Jvm.Cond.code ({ cls := "java/util/Objects", name := "requireNonNull", desc := "(Ljava/lang/Object;)Ljava/lang/Object;" } : Jvm.MethodName) jdk_31_method_10_code (1 : Nat) (Option.some (Jvm.ClassFile.FieldType.object "java/lang/Object")), Jvm.Cond.code ({ cls := "java/util/Optional", name := "<init>", desc := "(Ljava/lang/Object;)V" } : Jvm.MethodName) jdk_32_method_2_code (2 : Nat) (Option.none : Option Jvm.ClassFile.FieldType), Jvm.Cond.code ({ cls := "java/util/Optional", name := "isPresent", desc := "()Z" } : Jvm.MethodName) jdk_32_method_6_code (1 : Nat) (Option.some Jvm.ClassFile.FieldType.boolean), Jvm.Cond.code ({ cls := "java/util/Optional", name := "get", desc := "()Ljava/lang/Object;" } : Jvm.MethodName) jdk_32_method_5_code (1 : Nat) (Option.some (Jvm.ClassFile.FieldType.object "java/lang/Object")), Jvm.Cond.code ({ cls := "java/util/Optional", name := "empty", desc := "()Ljava/util/Optional;" } : Jvm.MethodName) jdk_32_method_1_code (1 : Nat) (Option.some (Jvm.ClassFile.FieldType.object "java/util/Optional"))]
set_option maxRecDepth 65536 in
theorem codes_eq : words1.filter isCode = codes1 := rfl
theorem w_codes : ∀ c ∈ words1.filter isCode, c.before args0 about1 = true := by
  rw [codes_eq]
  intro c hc
  simp only [codes1, List.mem_cons, List.not_mem_nil, or_false] at hc
  rcases hc with rfl | rfl | rfl | rfl | rfl | rfl | rfl | rfl | rfl | rfl | rfl | rfl | rfl | rfl | rfl | rfl | rfl | rfl | rfl | rfl | rfl | rfl | rfl | rfl | rfl
  · exact w_c0
  · exact w_c1
  · exact w_c2
  · exact w_c3
  · exact w_c4
  · exact w_c5
  · exact w_c6
  · exact w_c7
  · exact w_c8
  · exact w_c9
  · exact w_c10
  · exact w_c11
  · exact w_c12
  · exact w_c13
  · exact w_c14
  · exact w_c15
  · exact w_c16
  · exact w_c17
  · exact w_c18
  · exact w_c19
  · exact w_c20
  · exact w_c21
  · exact w_c22
  · exact w_c23
  · exact w_c24
set_option maxRecDepth 65536 in
theorem w_t1 : (words1.take 24).all (fun c => isCode c || c.before args0 about1) = true := by decide +kernel
set_option maxRecDepth 65536 in
theorem w_t2 : ((words1.drop 24).take 24).all (fun c => isCode c || c.before args0 about1) = true := by decide +kernel
set_option maxRecDepth 65536 in
theorem w_t3 : (((words1.drop 24).drop 24).take 24).all (fun c => isCode c || c.before args0 about1) = true := by decide +kernel
set_option maxRecDepth 65536 in
theorem w_t4 : ((((words1.drop 24).drop 24).drop 24).take 24).all (fun c => isCode c || c.before args0 about1) = true := by decide +kernel
set_option maxRecDepth 65536 in
theorem w_t5 : (((((words1.drop 24).drop 24).drop 24).drop 24).take 24).all (fun c => isCode c || c.before args0 about1) = true := by decide +kernel
set_option maxRecDepth 65536 in
theorem w_t6 : (((((words1.drop 24).drop 24).drop 24).drop 24).drop 24).all (fun c => isCode c || c.before args0 about1) = true := by decide +kernel
theorem w_tables : (allAtoms (Jvm.Cond.code x code maxLocals ret :: tables_1)).before args0 about1 = true := by
  rw [allAtoms_all]
  show words1.all (fun c => c.before args0 about1) = true
  refine all_split ?_ w_codes
  rw [← List.take_append_drop 24 words1, List.all_append, w_t1, ← List.take_append_drop 24 (words1.drop 24), List.all_append, w_t2, ← List.take_append_drop 24 ((words1.drop 24).drop 24), List.all_append, w_t3, ← List.take_append_drop 24 (((words1.drop 24).drop 24).drop 24), List.all_append, w_t4, ← List.take_append_drop 24 ((((words1.drop 24).drop 24).drop 24).drop 24), List.all_append, w_t5, w_t6]
  rfl
set_option maxRecDepth 65536 in
theorem w_rest : rest_1_c.before args0 about1 = true := by decide +kernel
set_option maxRecDepth 65536 in
theorem w_case : (Jvm.Cond.and given_1 narrow_1).before args0 about1 = true := by decide +kernel
set_option maxRecDepth 65536 in
theorem w_consts : constsHeld consts_1 about1 := Jvm.Lit.constsHeldB_iff.mp (by decide +kernel)
theorem w_applies : (headSpec (Jvm.Cond.code x code maxLocals ret :: tables_1) room_1).applies x e0.platform about1 = true :=
  (Spec.applies_iff w_frames).mpr ⟨w_running, w_runnable, w_alone, w_named, w_hears, w_ripe, w_room, w_tables⟩
theorem atStart : AtStart classFile x code maxLocals ret World_1 tables_1 room_1 Calls_1 rest_1 Pre_1 launch0 p0 e0 about1 theMethod args0 below0 :=
  ⟨lists_1, trivial, launch0.admits_env _ _ _, launch0.least_env, fairChoices_fair.cas, fairChoices_fair.clock, w_frames, w_args, w_heap, w_applies, ⟨w_consts, trivial⟩, w_rest, w_case⟩
end start1
theorem witness_1 : WitnessClaimed_1 := ⟨start1.p0, start1.e0, start1.about1, start1.theMethod, start1.args0, start1.below0, start1.atStart⟩
end Jvm.Pilot.@@N@@
