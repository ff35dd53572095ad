import JvmDerived
import JvmDerived.Pilot.@@N@@Statement
import JvmDerived.Pilot.@@N@@Code
set_option linter.unusedVariables false
set_option linter.unusedSimpArgs false
namespace Jvm.OwnK
open Jvm Sem ClassFile Op Lib Jvm.Free Jvm.Stand Jvm.LawKit Jvm.RoadKit Bundle
/-! OwnK: a body's walk as a judgement. 'Go .. SF h k n pc Ls st': from the place pc, with the locals Ls and the operands st, over the heap h (SF: what this walk may write; k cells and n slots made so far), the body ends, and Q holds of what it returns and of the heap. One rule a step; a callee by 'Met'. -/
def Own (Z : State) (EL : List (String × Nat)) (n0 : Nat) (h0 : Heap) (WS : List Addr) (vm : Vm) (h : Heap) (SF : List Addr) : Prop := ∀ x ∈ SF, (n0 ≤ x ∧ x < h.size ∧ (x ∈ WS ∨ h0.size ≤ x)) ∧ Safe Z EL vm h x
def Cor (Z : State) (EL : List (String × Nat)) (n0 : Nat) (nr : Bool) (h0 : Heap) (WS SF : List Addr) (h : Heap) (s : State) (vm0 : Vm) (k0 : Nat) (locs : List Loc) : Prop :=
  Z.Warmed39 vm0 ∧ (s.Since vm0 k0 ∧ k0 ≤ h.size) ∧ Fr n0 locs ∧ CHr Z EL s.vm h0 vm0 h ∧ Own Z EL n0 h0 WS vm0 h SF ∧ (nr = true → s.WarmedH vm0) ∧ (Z.heap.size = n0 ∧ Ext Z.heap h) ∧ Keep h0 h WS ∧ s.heap = h0 ∧ ∃ a0, EW Z a0 EL
def Pst (Z : State) (EL : List (String × Nat)) (n0 : Nat) (nr : Bool) (R : Room) (h0 : Heap) (WS : List Addr) (Q : Option Value → Heap → List Addr → Prop) (s : State) (o : Outcome) (t : State) : Prop :=
  ∃ v L SN, o = .returned v ∧ Q v t.heap SN ∧ Fr n0 L ∧ Keep h0 t.heap WS ∧ (∀ x ∈ SN, (h0.size ≤ x ∧ x < t.heap.size) ∧ Safe Z EL t.vm t.heap x) ∧ CHr Z EL s.vm h0 t.vm t.heap ∧ (nr = true → s.WarmedH t.vm) ∧ ReturnedEndW s o t L R.cells R.slots
def Run (l : Launch) (Z : State) (EL : List (String × Nat)) (n0 : Nat) (nr kn : Bool) (y : MethodName) (bytes : ByteArray) (mL : Nat) (ret : Option FieldType) (R : Room) (h0 : Heap) (WS SF : List Addr) (h : Heap) (k n : Nat)
    (p : Program) (e : Env) (s : State) (m : MethodId) (args : Array Value) (below : List Frame) (meth : Method) (c : Code) (T : State) : Prop :=
  (p.tables.exec = Jvm.exec ∧ c.code = bytes ∧ c.maxLocals = mL ∧ s.vm.findClass y.cls = some m.cls ∧ meth.name = y.name ∧ meth.sig.returnType = ret ∧ meth.locks = false ∧ (kn = true → s.vm.MethodsKnown ∧ s.vm.FramesKnown below)) ∧
  ∃ vm0 k0 locs, Stand p l e R (s.setVm vm0) m args below meth c T locs k n ∧ T.heap = h ∧ Cor Z EL n0 nr h0 WS SF h s vm0 k0 locs
def Go (l : Launch) (Z : State) (EL : List (String × Nat)) (n0 : Nat) (nr kn : Bool) (y : MethodName) (bytes : ByteArray) (mL : Nat) (ret : Option FieldType) (R : Room) (h0 : Heap) (WS : List Addr) (Q : Option Value → Heap → List Addr → Prop)
    (SF : List Addr) (h : Heap) (k n : Nat) (pc : Nat) (Ls : Array Slot) (st : List Value) : Prop :=
  ∀ (p : Program) (e : Env) (s : State) (m : MethodId) (args : Array Value) (below : List Frame) (meth : Method) (c : Code) (T : State), Run l Z EL n0 nr kn y bytes mL ret R h0 WS SF h k n p e s m args below meth c T →
    ∃ t o, Steps p.tables e below (T.setTop (mkF m pc Ls st)) t ∧ t.status = .running ∧ Ended t below o ∧ Pst Z EL n0 nr R h0 WS Q s o t
def Met (l : Launch) (Z : State) (EL : List (String × Nat)) (n0 : Nat) (nr kn : Bool) (y : MethodName) (bytes : ByteArray) (mL : Nat) (ret : Option FieldType) (R : Room) (WS : List Addr) (as' : Array Value) (h : Heap) (Q : Option Value → Heap → List Addr → Prop) : Prop :=
  ∀ ws : List Jvm.Cond, MetFree l y (head1 (Jvm.Cond.code y bytes mL ret :: ws) R)
    (fun a U => a = as' ∧ Z.Warmed39 U.vm ∧ U.heap = h ∧ CHv Z EL U.vm h ∧ (∀ x ∈ WS, (n0 ≤ x ∧ x < h.size) ∧ Safe Z EL U.vm h x) ∧ (Z.heap.size = n0 ∧ Ext Z.heap h) ∧ ∃ a0, EW Z a0 EL)
    (fun _ _ bl s _ => kn = true → s.vm.MethodsKnown ∧ s.vm.FramesKnown bl) (fun _ U o U' => Pst Z EL n0 nr R h WS Q U o U')
def Pays (l : Launch) (Z : State) (EL : List (String × Nat)) (n0 : Nat) (nr kn : Bool) (R : Room) (len : Nat) (z : MethodName) (W ck cn : Nat) (ws : List Addr) (as' : Array Value) (h : Heap) (Q : Option Value → Heap → List Addr → Prop) : Prop :=
  ∀ (p : Program) (e : Env) (below : List Frame) (s : State) (args : Array Value) (vm0 : Vm), p.tables.exec = Jvm.exec → Z.Warmed39 vm0 → CHv Z EL vm0 h → (∀ x ∈ ws, (n0 ≤ x ∧ x < h.size) ∧ Safe Z EL vm0 h x) → (Z.heap.size = n0 ∧ Ext Z.heap h) → (∃ a0, EW Z a0 EL) →
    (kn = true → vm0.MethodsKnown ∧ vm0.FramesKnown below) →
    BackS l R p e below (s.setVm vm0) args z len W (fun A a => a = as' ∧ A.U.heap = h ∧ A.cells + ck ≤ R.cells ∧ A.slots + cn ≤ R.slots)
      (fun A _ v B => ∃ L SN, Q v B.U.heap SN ∧ Fr n0 L ∧ Keep h B.U.heap ws ∧ (∀ x ∈ SN, (h.size ≤ x ∧ x < B.U.heap.size) ∧ Safe Z EL B.U.vm B.U.heap x) ∧ CHr Z EL vm0 h B.U.vm B.U.heap ∧ (nr = true → (s.setVm vm0).WarmedH B.U.vm) ∧ B.locs = A.locs ++ L ∧ B.cells = A.cells + ck ∧ B.slots = A.slots + cn)
def Mr (Z : State) (CC : String) (m : Addr) : Prop := ∃ (c : ClassId) (k : Class), Z.vm.findClass CC = some c ∧ Z.vm.classes[c]? = some k ∧ k.mirror = some m
section Rules
variable {l : Launch} {Z : State} {EL : List (String × Nat)} {n0 : Nat} {nr kn : Bool} {y : MethodName} {bytes : ByteArray} {mL : Nat} {ret : Option FieldType} {R : Room} {h0 : Heap} {WS : List Addr} {Q : Option Value → Heap → List Addr → Prop} {SF : List Addr} {h h' : Heap} {k n : Nat} {pc pc' : Nat} {Ls Ls' : Array Slot} {st rest : List Value} {a0 : Array Value} {s : State} {vm0 vm1 : Vm} {k0 : Nat} {locs : List Loc}
theorem Cor.ext (C : Cor Z EL n0 nr h0 WS SF h s vm0 k0 locs) (E : Ext h h') : Cor Z EL n0 nr h0 WS SF h' s vm0 k0 locs := by
  obtain ⟨c1, ⟨c2, c2'⟩, c3, c4, c5, c6, ⟨c7, c7'⟩, c8, c9, c10⟩ := C
  exact ⟨c1, ⟨c2, Nat.le_trans c2' E.1⟩, c3, c4.trans (CHr.ext E c4.1), fun x hx => ⟨⟨(c5 x hx).1.1, Nat.lt_of_lt_of_le (c5 x hx).1.2.1 E.1, (c5 x hx).1.2.2⟩, Safe.ext E c4.1 (c5 x hx).2⟩, c6, ⟨c7, Nat.le_trans c7'.1 E.1, fun a c q => E.2 a c (c7'.2 a c q)⟩, c8.ext E, c9, c10⟩
theorem Cor.push (C : Cor Z EL n0 nr h0 WS SF h s vm0 k0 locs) (E : Ext h h') (hlt : h.size < h'.size) : Cor Z EL n0 nr h0 WS (h.size :: SF) h' s vm0 k0 locs := by
  have D := C.ext E
  obtain ⟨c1, c2, c3, c4, c5, c6, ⟨c7, c7'⟩, c8, c9, c10⟩ := C
  obtain ⟨d1, d2, d3, d4, d5, d6, d7, d8, d9, d10⟩ := D
  refine ⟨d1, d2, d3, d4, fun x hx => ?_, d6, d7, d8, d9, d10⟩
  rcases List.mem_cons.mp hx with rfl | hx
  · exact ⟨⟨c7 ▸ c7'.1, hlt, Or.inr c8.1⟩, Safe.ext E c4.1 (Safe.new (Nat.le_refl _))⟩
  · exact d5 x hx
theorem Cor.wr {a : Addr} {sl : Nat} {v : Value} (C : Cor Z EL n0 nr h0 WS SF h s vm0 k0 locs) (W : Wr h h' a sl v) (ha : a ∈ SF) : Cor Z EL n0 nr h0 WS SF h' s vm0 k0 (locs ++ [⟨a, sl⟩]) := by
  obtain ⟨c1, ⟨c2, c2'⟩, c3, c4, c5, c6, ⟨c7, c7'⟩, c8, c9, c10⟩ := C
  have S := (c5 a ha).2
  have O : Old Z n0 h := ⟨c7, c7'⟩
  refine ⟨c1, ⟨c2, by rw [W.size]; exact c2'⟩, c3.app fun z hz => by cases List.mem_singleton.mp hz; exact (c5 a ha).1.1, c4.trans (CHr.wr W S c4.1), fun x hx => ⟨⟨(c5 x hx).1.1, by rw [W.size]; exact (c5 x hx).1.2.1, (c5 x hx).1.2.2⟩, Safe.wr W S c4.1 (c5 x hx).2⟩, c6, O.wr W (c5 a ha).1.1, c8.wr W (c5 a ha).1.2.2, c9, c10⟩
theorem Cor.keep {ws SN : List Addr} {L : List Loc} {k1 : Nat} (C : Cor Z EL n0 nr h0 WS SF h s vm0 k0 locs) (K : Keep h h' ws) (hws : ∀ x ∈ ws, x ∈ SF) (hL : Fr n0 L) (hC : CHr Z EL vm0 h vm1 h') (hZ : Z.Warmed39 vm1) (hS : s.Since vm1 k1) (hk : k1 ≤ h'.size) (hN : nr = true → s.WarmedH vm1)
    (hSN : ∀ x ∈ SN, (h.size ≤ x ∧ x < h'.size) ∧ Safe Z EL vm1 h' x) : Cor Z EL n0 nr h0 WS (SN ++ SF) h' s vm1 k1 (locs ++ L) := by
  obtain ⟨c1, ⟨c2, c2'⟩, c3, c4, c5, c6, ⟨c7, c7'⟩, c8, c9, c10⟩ := C
  have O : Old Z n0 h := ⟨c7, c7'⟩
  refine ⟨hZ, ⟨hS, hk⟩, c3.app hL, c4.trans hC, fun x hx => ?_, hN, O.keep K fun x hx => (c5 x (hws x hx)).1.1, c8.trans K fun x hx => (c5 x (hws x hx)).1.2.2, c9, c10⟩
  rcases List.mem_append.mp hx with hx | hx
  · obtain ⟨⟨q1, q2⟩, q3⟩ := hSN x hx
    exact ⟨⟨Nat.le_trans (c7 ▸ c7'.1) q1, q2, Or.inr (Nat.le_trans c8.1 q1)⟩, q3⟩
  · exact ⟨⟨(c5 x hx).1.1, Nat.lt_of_lt_of_le (c5 x hx).1.2.1 K.1, (c5 x hx).1.2.2⟩, hC.safe (c5 x hx).1.2.1 (c5 x hx).2⟩
theorem Go.inv (K : (Z.heap.size = n0 ∧ Ext Z.heap h) → Keep h0 h WS → (∀ x ∈ SF, n0 ≤ x ∧ x < h.size ∧ (x ∈ WS ∨ h0.size ≤ x)) → Go l Z EL n0 nr kn y bytes mL ret R h0 WS Q SF h k n pc Ls st) : Go l Z EL n0 nr kn y bytes mL ret R h0 WS Q SF h k n pc Ls st := by
  intro p e s m args below meth c T hR
  obtain ⟨hA, vm0, k0, locs, X, e0, C⟩ := hR
  exact K C.2.2.2.2.2.2.1 C.2.2.2.2.2.2.2.1 (fun x hx => (C.2.2.2.2.1 x hx).1) p e s m args below meth c T ⟨hA, vm0, k0, locs, X, e0, C⟩
theorem Go.more {k' n' : Nat} (hk : k ≤ k') (hn : n ≤ n') (K : Go l Z EL n0 nr kn y bytes mL ret R h0 WS Q SF h k' n' pc Ls st) : Go l Z EL n0 nr kn y bytes mL ret R h0 WS Q SF h k n pc Ls st := by
  intro p e s m args below meth c T hR
  obtain ⟨hA, vm0, k0, locs, X, e0, C⟩ := hR
  exact K p e s m args below meth c T ⟨hA, vm0, k0, locs, X.more hk hn, e0, C⟩
theorem Go.fewer {SF' : List Addr} (hs : ∀ x ∈ SF', x ∈ SF) (K : Go l Z EL n0 nr kn y bytes mL ret R h0 WS Q SF' h k n pc Ls st) : Go l Z EL n0 nr kn y bytes mL ret R h0 WS Q SF h k n pc Ls st := by
  intro p e s m args below meth c T hR
  obtain ⟨hA, vm0, k0, locs, X, e0, c1, c2, c3, c4, c5, r⟩ := hR
  exact K p e s m args below meth c T ⟨hA, vm0, k0, locs, X, e0, c1, c2, c3, c4, fun x hx => c5 x (hs x hx), r⟩
theorem Go.plain {st' : List Value} (H : ∀ (p : Program) (e : Env) (below : List Frame) (T : State) (m : MethodId) (c : Code) (target : State), At T m c below → p.tables.exec = Jvm.exec → c.code = bytes → Steps p.tables e below (T.setTop (mkF m pc' Ls' st')) target → Steps p.tables e below (T.setTop (mkF m pc Ls st)) target)
    (K : Go l Z EL n0 nr kn y bytes mL ret R h0 WS Q SF h k n pc' Ls' st') : Go l Z EL n0 nr kn y bytes mL ret R h0 WS Q SF h k n pc Ls st := by
  intro p e s m args below meth c T hR
  obtain ⟨t, o, hs, r⟩ := K p e s m args below meth c T hR
  obtain ⟨⟨hx, hb, -⟩, vm0, k0, locs, X, -⟩ := hR
  exact ⟨t, o, H p e below T m c t X.here hx hb hs, r⟩

theorem Go.aload_n {i : Fin 4} {v : Value} (hd : decode bytes pc = .ok (.aload_n i, 1)) (hq : pc + 1 = pc') (hl : Ls[i.val]? = some (.val v)) (hv : v.isRef = true) (K : Go l Z EL n0 nr kn y bytes mL ret R h0 WS Q SF h k n pc' Ls (v :: st)) : Go l Z EL n0 nr kn y bytes mL ret R h0 WS Q SF h k n pc Ls st :=
  Go.plain (fun p e below T m c target hA hx hb hk => XS.aloadN hA hx rfl (hb ▸ hd) hl hv (by subst hq; exact hk)) K
theorem Go.aload {i : Nat} {v : Value} (hd : decode bytes pc = .ok (.aload i, 2)) (hq : pc + 2 = pc') (hl : Ls[i]? = some (.val v)) (hv : v.isRef = true) (K : Go l Z EL n0 nr kn y bytes mL ret R h0 WS Q SF h k n pc' Ls (v :: st)) : Go l Z EL n0 nr kn y bytes mL ret R h0 WS Q SF h k n pc Ls st :=
  Go.plain (fun p e below T m c target hA hx hb hk => XS.aload hA hx rfl (hb ▸ hd) hl hv (by subst hq; exact hk)) K
theorem Go.iload_n {i : Fin 4} {v : Int32} (hd : decode bytes pc = .ok (.iload_n i, 1)) (hq : pc + 1 = pc') (hl : Ls[i.val]? = some (.val (.int v))) (K : Go l Z EL n0 nr kn y bytes mL ret R h0 WS Q SF h k n pc' Ls (.int v :: st)) : Go l Z EL n0 nr kn y bytes mL ret R h0 WS Q SF h k n pc Ls st :=
  Go.plain (fun p e below T m c target hA hx hb hk => XS.iloadN hA hx rfl (hb ▸ hd) hl (by subst hq; exact hk)) K
theorem Go.iload {i : Nat} {v : Int32} (hd : decode bytes pc = .ok (.iload i, 2)) (hq : pc + 2 = pc') (hl : Ls[i]? = some (.val (.int v))) (K : Go l Z EL n0 nr kn y bytes mL ret R h0 WS Q SF h k n pc' Ls (.int v :: st)) : Go l Z EL n0 nr kn y bytes mL ret R h0 WS Q SF h k n pc Ls st :=
  Go.plain (fun p e below T m c target hA hx hb hk => XS.iload hA hx rfl (hb ▸ hd) hl (by subst hq; exact hk)) K
theorem Go.lload_n {i : Fin 4} {v : Int64} (hd : decode bytes pc = .ok (.lload_n i, 1)) (hq : pc + 1 = pc') (hl : Ls[i.val]? = some (.val (.long v))) (K : Go l Z EL n0 nr kn y bytes mL ret R h0 WS Q SF h k n pc' Ls (.long v :: st)) : Go l Z EL n0 nr kn y bytes mL ret R h0 WS Q SF h k n pc Ls st :=
  Go.plain (fun p e below T m c target hA hx hb hk => XS.lloadN hA hx rfl (hb ▸ hd) hl (by subst hq; exact hk)) K
theorem Go.iconst {i : Int} {v : Int32} (hd : decode bytes pc = .ok (.iconst i, 1)) (hq : pc + 1 = pc') (hv : Int32.ofInt i = v) (K : Go l Z EL n0 nr kn y bytes mL ret R h0 WS Q SF h k n pc' Ls (.int v :: st)) : Go l Z EL n0 nr kn y bytes mL ret R h0 WS Q SF h k n pc Ls st :=
  Go.plain (fun p e below T m c target hA hx hb hk => XS.iconst hA hx rfl (hb ▸ hd) (by subst hq; subst hv; exact hk)) K
theorem Go.bipush {i : Int} {v : Int32} (hd : decode bytes pc = .ok (.bipush i, 2)) (hq : pc + 2 = pc') (hv : (Int8.ofInt i).toInt32 = v) (K : Go l Z EL n0 nr kn y bytes mL ret R h0 WS Q SF h k n pc' Ls (.int v :: st)) : Go l Z EL n0 nr kn y bytes mL ret R h0 WS Q SF h k n pc Ls st :=
  Go.plain (fun p e below T m c target hA hx hb hk => XS.bipush hA hx rfl (hb ▸ hd) (by subst hq; subst hv; exact hk)) K
theorem Go.sipush {i : Int} {v : Int32} (hd : decode bytes pc = .ok (.sipush i, 3)) (hq : pc + 3 = pc') (hv : (Int16.ofInt i).toInt32 = v) (K : Go l Z EL n0 nr kn y bytes mL ret R h0 WS Q SF h k n pc' Ls (.int v :: st)) : Go l Z EL n0 nr kn y bytes mL ret R h0 WS Q SF h k n pc Ls st :=
  Go.plain (fun p e below T m c target hA hx hb hk => XS.sipush hA hx rfl (hb ▸ hd) (by subst hq; subst hv; exact hk)) K
theorem Go.aconst_null (hd : decode bytes pc = .ok (.aconst_null, 1)) (hq : pc + 1 = pc') (K : Go l Z EL n0 nr kn y bytes mL ret R h0 WS Q SF h k n pc' Ls (.null :: st)) : Go l Z EL n0 nr kn y bytes mL ret R h0 WS Q SF h k n pc Ls st :=
  Go.plain (fun p e below T m c target hA hx hb hk => XS.aconstNull hA hx rfl (hb ▸ hd) (by subst hq; exact hk)) K
theorem Go.iadd {x z : Int32} (hd : decode bytes pc = .ok (.iadd, 1)) (hq : pc + 1 = pc') (K : Go l Z EL n0 nr kn y bytes mL ret R h0 WS Q SF h k n pc' Ls (.int (x + z) :: st)) : Go l Z EL n0 nr kn y bytes mL ret R h0 WS Q SF h k n pc Ls (.int z :: .int x :: st) :=
  Go.plain (fun p e below T m c target hA hx hb hk => XS.iadd hA hx rfl (hb ▸ hd) rfl (by subst hq; exact hk)) K
theorem Go.isub {x z : Int32} (hd : decode bytes pc = .ok (.isub, 1)) (hq : pc + 1 = pc') (K : Go l Z EL n0 nr kn y bytes mL ret R h0 WS Q SF h k n pc' Ls (.int (x - z) :: st)) : Go l Z EL n0 nr kn y bytes mL ret R h0 WS Q SF h k n pc Ls (.int z :: .int x :: st) :=
  Go.plain (fun p e below T m c target hA hx hb hk => XS.isub hA hx rfl (hb ▸ hd) rfl (by subst hq; exact hk)) K
theorem Go.iand {x z : Int32} (hd : decode bytes pc = .ok (.iand, 1)) (hq : pc + 1 = pc') (K : Go l Z EL n0 nr kn y bytes mL ret R h0 WS Q SF h k n pc' Ls (.int (x &&& z) :: st)) : Go l Z EL n0 nr kn y bytes mL ret R h0 WS Q SF h k n pc Ls (.int z :: .int x :: st) :=
  Go.plain (fun p e below T m c target hA hx hb hk => XS.iand hA hx rfl (hb ▸ hd) rfl (by subst hq; exact hk)) K
theorem Go.imul {x z : Int32} (hd : decode bytes pc = .ok (.imul, 1)) (hq : pc + 1 = pc') (K : Go l Z EL n0 nr kn y bytes mL ret R h0 WS Q SF h k n pc' Ls (.int (x * z) :: st)) : Go l Z EL n0 nr kn y bytes mL ret R h0 WS Q SF h k n pc Ls (.int z :: .int x :: st) :=
  Go.plain (fun p e below T m c target hA hx hb hk => XS.imul hA hx rfl (hb ▸ hd) rfl (by subst hq; exact hk)) K
theorem Go.ior {x z : Int32} (hd : decode bytes pc = .ok (.ior, 1)) (hq : pc + 1 = pc') (K : Go l Z EL n0 nr kn y bytes mL ret R h0 WS Q SF h k n pc' Ls (.int (x ||| z) :: st)) : Go l Z EL n0 nr kn y bytes mL ret R h0 WS Q SF h k n pc Ls (.int z :: .int x :: st) :=
  Go.plain (fun p e below T m c target hA hx hb hk => XS.ior hA hx rfl (hb ▸ hd) rfl (by subst hq; exact hk)) K
theorem Go.ixor {x z : Int32} (hd : decode bytes pc = .ok (.ixor, 1)) (hq : pc + 1 = pc') (K : Go l Z EL n0 nr kn y bytes mL ret R h0 WS Q SF h k n pc' Ls (.int (x ^^^ z) :: st)) : Go l Z EL n0 nr kn y bytes mL ret R h0 WS Q SF h k n pc Ls (.int z :: .int x :: st) :=
  Go.plain (fun p e below T m c target hA hx hb hk => XS.ixor hA hx rfl (hb ▸ hd) rfl (by subst hq; exact hk)) K
theorem Go.ishl {x z : Int32} (hd : decode bytes pc = .ok (.ishl, 1)) (hq : pc + 1 = pc') (K : Go l Z EL n0 nr kn y bytes mL ret R h0 WS Q SF h k n pc' Ls (.int (x <<< (z &&& 31)) :: st)) : Go l Z EL n0 nr kn y bytes mL ret R h0 WS Q SF h k n pc Ls (.int z :: .int x :: st) :=
  Go.plain (fun p e below T m c target hA hx hb hk => XS.ishl hA hx rfl (hb ▸ hd) rfl (by subst hq; exact hk)) K
theorem Go.ishr {x z : Int32} (hd : decode bytes pc = .ok (.ishr, 1)) (hq : pc + 1 = pc') (K : Go l Z EL n0 nr kn y bytes mL ret R h0 WS Q SF h k n pc' Ls (.int (x >>> (z &&& 31)) :: st)) : Go l Z EL n0 nr kn y bytes mL ret R h0 WS Q SF h k n pc Ls (.int z :: .int x :: st) :=
  Go.plain (fun p e below T m c target hA hx hb hk => XS.ishr hA hx rfl (hb ▸ hd) rfl (by subst hq; exact hk)) K
theorem Go.iushr {x z : Int32} (hd : decode bytes pc = .ok (.iushr, 1)) (hq : pc + 1 = pc') (K : Go l Z EL n0 nr kn y bytes mL ret R h0 WS Q SF h k n pc' Ls (.int ((x.toUInt32 >>> (z &&& 31).toUInt32).toInt32) :: st)) : Go l Z EL n0 nr kn y bytes mL ret R h0 WS Q SF h k n pc Ls (.int z :: .int x :: st) :=
  Go.plain (fun p e below T m c target hA hx hb hk => XS.iushr hA hx rfl (hb ▸ hd) rfl (by subst hq; exact hk)) K
theorem Go.ineg {x : Int32} (hd : decode bytes pc = .ok (.ineg, 1)) (hq : pc + 1 = pc') (K : Go l Z EL n0 nr kn y bytes mL ret R h0 WS Q SF h k n pc' Ls (.int (-x) :: st)) : Go l Z EL n0 nr kn y bytes mL ret R h0 WS Q SF h k n pc Ls (.int x :: st) :=
  Go.plain (fun p e below T m c target hA hx hb hk => XS.ineg hA hx rfl (hb ▸ hd) rfl (by subst hq; exact hk)) K
theorem Go.i2b {x : Int32} (hd : decode bytes pc = .ok (.i2b, 1)) (hq : pc + 1 = pc') (K : Go l Z EL n0 nr kn y bytes mL ret R h0 WS Q SF h k n pc' Ls (.int x.toInt8.toInt32 :: st)) : Go l Z EL n0 nr kn y bytes mL ret R h0 WS Q SF h k n pc Ls (.int x :: st) :=
  Go.plain (fun p e below T m c target hA hx hb hk => XS.i2b hA hx rfl (hb ▸ hd) rfl (by subst hq; exact hk)) K
theorem Go.i2c {x : Int32} (hd : decode bytes pc = .ok (.i2c, 1)) (hq : pc + 1 = pc') (K : Go l Z EL n0 nr kn y bytes mL ret R h0 WS Q SF h k n pc' Ls (.int x.toUInt32.toUInt16.toUInt32.toInt32 :: st)) : Go l Z EL n0 nr kn y bytes mL ret R h0 WS Q SF h k n pc Ls (.int x :: st) :=
  Go.plain (fun p e below T m c target hA hx hb hk => XS.i2c hA hx rfl (hb ▸ hd) rfl (by subst hq; exact hk)) K
theorem Go.i2l {x : Int32} (hd : decode bytes pc = .ok (.i2l, 1)) (hq : pc + 1 = pc') (K : Go l Z EL n0 nr kn y bytes mL ret R h0 WS Q SF h k n pc' Ls (.long x.toInt64 :: st)) : Go l Z EL n0 nr kn y bytes mL ret R h0 WS Q SF h k n pc Ls (.int x :: st) :=
  Go.plain (fun p e below T m c target hA hx hb hk => XS.i2l hA hx rfl (hb ▸ hd) rfl (by subst hq; exact hk)) K
theorem Go.l2i {x : Int64} (hd : decode bytes pc = .ok (.l2i, 1)) (hq : pc + 1 = pc') (K : Go l Z EL n0 nr kn y bytes mL ret R h0 WS Q SF h k n pc' Ls (.int x.toInt32 :: st)) : Go l Z EL n0 nr kn y bytes mL ret R h0 WS Q SF h k n pc Ls (.long x :: st) :=
  Go.plain (fun p e below T m c target hA hx hb hk => XS.l2i hA hx rfl (hb ▸ hd) rfl (by subst hq; exact hk)) K
theorem Go.ladd {x z : Int64} (hd : decode bytes pc = .ok (.ladd, 1)) (hq : pc + 1 = pc') (K : Go l Z EL n0 nr kn y bytes mL ret R h0 WS Q SF h k n pc' Ls (.long (x + z) :: st)) : Go l Z EL n0 nr kn y bytes mL ret R h0 WS Q SF h k n pc Ls (.long z :: .long x :: st) :=
  Go.plain (fun p e below T m c target hA hx hb hk => XS.ladd hA hx rfl (hb ▸ hd) rfl (by subst hq; exact hk)) K
theorem Go.lsub {x z : Int64} (hd : decode bytes pc = .ok (.lsub, 1)) (hq : pc + 1 = pc') (K : Go l Z EL n0 nr kn y bytes mL ret R h0 WS Q SF h k n pc' Ls (.long (x - z) :: st)) : Go l Z EL n0 nr kn y bytes mL ret R h0 WS Q SF h k n pc Ls (.long z :: .long x :: st) :=
  Go.plain (fun p e below T m c target hA hx hb hk => XS.lsub hA hx rfl (hb ▸ hd) rfl (by subst hq; exact hk)) K
theorem Go.lmul {x z : Int64} (hd : decode bytes pc = .ok (.lmul, 1)) (hq : pc + 1 = pc') (K : Go l Z EL n0 nr kn y bytes mL ret R h0 WS Q SF h k n pc' Ls (.long (x * z) :: st)) : Go l Z EL n0 nr kn y bytes mL ret R h0 WS Q SF h k n pc Ls (.long z :: .long x :: st) :=
  Go.plain (fun p e below T m c target hA hx hb hk => XS.lmul hA hx rfl (hb ▸ hd) rfl (by subst hq; exact hk)) K
theorem Go.lcmp {x z : Int64} (hd : decode bytes pc = .ok (.lcmp, 1)) (hq : pc + 1 = pc') (K : Go l Z EL n0 nr kn y bytes mL ret R h0 WS Q SF h k n pc' Ls (.int (lcmpW x z) :: st)) : Go l Z EL n0 nr kn y bytes mL ret R h0 WS Q SF h k n pc Ls (.long z :: .long x :: st) :=
  Go.plain (fun p e below T m c target hA hx hb hk => XS.lcmp hA hx rfl (hb ▸ hd) rfl (by subst hq; exact hk)) K
theorem Go.dup {v : Value} (hd : decode bytes pc = .ok (.dup, 1)) (hq : pc + 1 = pc') (hc : v.category = 1) (K : Go l Z EL n0 nr kn y bytes mL ret R h0 WS Q SF h k n pc' Ls (v :: v :: st)) : Go l Z EL n0 nr kn y bytes mL ret R h0 WS Q SF h k n pc Ls (v :: st) :=
  Go.plain (fun p e below T m c target hA hx hb hk => XS.dup hA hx rfl (hb ▸ hd) rfl hc (by subst hq; exact hk)) K
theorem Go.pop {v : Value} (hd : decode bytes pc = .ok (.pop, 1)) (hq : pc + 1 = pc') (hc : v.category = 1) (K : Go l Z EL n0 nr kn y bytes mL ret R h0 WS Q SF h k n pc' Ls st) : Go l Z EL n0 nr kn y bytes mL ret R h0 WS Q SF h k n pc Ls (v :: st) :=
  Go.plain (fun p e below T m c target hA hx hb hk => XS.pop hA hx rfl (hb ▸ hd) rfl hc (by subst hq; exact hk)) K
theorem Go.dup_x1 {v u : Value} (hd : decode bytes pc = .ok (.dup_x1, 1)) (hq : pc + 1 = pc') (hc : v.category = 1) (hc' : u.category = 1) (K : Go l Z EL n0 nr kn y bytes mL ret R h0 WS Q SF h k n pc' Ls (v :: u :: v :: st)) : Go l Z EL n0 nr kn y bytes mL ret R h0 WS Q SF h k n pc Ls (v :: u :: st) :=
  Go.plain (fun p e below T m c target hA hx hb hk => XS.dupX1 hA hx rfl (hb ▸ hd) rfl hc hc' (by subst hq; exact hk)) K
theorem Go.istore_n {i : Fin 4} {x : Int32} (hd : decode bytes pc = .ok (.istore_n i, 1)) (hq : pc + 1 = pc') (hl : storeLocals Ls i.val (.int x) = some Ls') (K : Go l Z EL n0 nr kn y bytes mL ret R h0 WS Q SF h k n pc' Ls' st) : Go l Z EL n0 nr kn y bytes mL ret R h0 WS Q SF h k n pc Ls (.int x :: st) :=
  Go.plain (fun p e below T m c target hA hx hb hk => XS.istoreN hA hx rfl (hb ▸ hd) rfl hl (by subst hq; exact hk)) K
theorem Go.istore {i : Nat} {x : Int32} (hd : decode bytes pc = .ok (.istore i, 2)) (hq : pc + 2 = pc') (hl : storeLocals Ls i (.int x) = some Ls') (K : Go l Z EL n0 nr kn y bytes mL ret R h0 WS Q SF h k n pc' Ls' st) : Go l Z EL n0 nr kn y bytes mL ret R h0 WS Q SF h k n pc Ls (.int x :: st) :=
  Go.plain (fun p e below T m c target hA hx hb hk => XS.istore hA hx rfl (hb ▸ hd) rfl hl (by subst hq; exact hk)) K
theorem Go.istoreS {i : Nat} {x : Int32} {o : Slot} (hd : decode bytes pc = .ok (.istore i, 2)) (hq : pc + 2 = pc') (hold : Ls[i]? = some o) (ho : One o) (hl : Ls.setIfInBounds i (.val (.int x)) = Ls') (K : Go l Z EL n0 nr kn y bytes mL ret R h0 WS Q SF h k n pc' Ls' st) : Go l Z EL n0 nr kn y bytes mL ret R h0 WS Q SF h k n pc Ls (.int x :: st) :=
  Go.plain (fun p e below T m c target hA hx hb hk => XS.istoreS hA hx rfl (hb ▸ hd) rfl hold ho (by subst hq; subst hl; exact hk)) K
theorem Go.lstore_n {i : Fin 4} {x : Int64} (hd : decode bytes pc = .ok (.lstore_n i, 1)) (hq : pc + 1 = pc') (hl : storeLocals Ls i.val (.long x) = some Ls') (K : Go l Z EL n0 nr kn y bytes mL ret R h0 WS Q SF h k n pc' Ls' st) : Go l Z EL n0 nr kn y bytes mL ret R h0 WS Q SF h k n pc Ls (.long x :: st) :=
  Go.plain (fun p e below T m c target hA hx hb hk => XS.lstoreN hA hx rfl (hb ▸ hd) rfl hl (by subst hq; exact hk)) K
theorem Go.astore_n {i : Fin 4} {v : Value} (hd : decode bytes pc = .ok (.astore_n i, 1)) (hq : pc + 1 = pc') (hv : v.isRef = true) (hl : storeLocals Ls i.val v = some Ls') (K : Go l Z EL n0 nr kn y bytes mL ret R h0 WS Q SF h k n pc' Ls' st) : Go l Z EL n0 nr kn y bytes mL ret R h0 WS Q SF h k n pc Ls (v :: st) :=
  Go.plain (fun p e below T m c target hA hx hb hk => XS.astoreN hA hx rfl (hb ▸ hd) rfl hv hl (by subst hq; exact hk)) K
theorem Go.astore {i : Nat} {v : Value} (hd : decode bytes pc = .ok (.astore i, 2)) (hq : pc + 2 = pc') (hv : v.isRef = true) (hl : storeLocals Ls i v = some Ls') (K : Go l Z EL n0 nr kn y bytes mL ret R h0 WS Q SF h k n pc' Ls' st) : Go l Z EL n0 nr kn y bytes mL ret R h0 WS Q SF h k n pc Ls (v :: st) :=
  Go.plain (fun p e below T m c target hA hx hb hk => XS.astore hA hx rfl (hb ▸ hd) rfl hv hl (by subst hq; exact hk)) K
theorem Go.iinc {i : Nat} {cst : Int} {x cv : Int32} (hd : decode bytes pc = .ok (.iinc i cst, 3)) (hq : pc + 3 = pc') (hv : Int32.ofInt cst = cv) (hl : Ls[i]? = some (.val (.int x))) (hl' : storeLocals Ls i (.int (x + cv)) = some Ls') (K : Go l Z EL n0 nr kn y bytes mL ret R h0 WS Q SF h k n pc' Ls' st) : Go l Z EL n0 nr kn y bytes mL ret R h0 WS Q SF h k n pc Ls st :=
  Go.plain (fun p e below T m c target hA hx hb hk => XS.iinc hA hx rfl (hb ▸ hd) hl (by subst hv; exact hl') (by subst hq; exact hk)) K
theorem Go.irem {x z : Int32} (hd : decode bytes pc = .ok (.irem, 1)) (hq : pc + 1 = pc') (hz : z ≠ 0) (K : Go l Z EL n0 nr kn y bytes mL ret R h0 WS Q SF h k n pc' Ls (.int (x % z) :: st)) : Go l Z EL n0 nr kn y bytes mL ret R h0 WS Q SF h k n pc Ls (.int z :: .int x :: st) :=
  Go.plain (fun p e below T m c target hA hx hb hk => XS.irem hA hx rfl (hb ▸ hd) rfl hz (by rw [show x - x / z * z = x % z from irem_eq_mod x z]; subst hq; exact hk)) K
theorem Go.idiv {x z : Int32} (hd : decode bytes pc = .ok (.idiv, 1)) (hq : pc + 1 = pc') (hz : z ≠ 0) (K : Go l Z EL n0 nr kn y bytes mL ret R h0 WS Q SF h k n pc' Ls (.int (x / z) :: st)) : Go l Z EL n0 nr kn y bytes mL ret R h0 WS Q SF h k n pc Ls (.int z :: .int x :: st) :=
  Go.plain (fun p e below T m c target hA hx hb hk => XS.idiv hA hx rfl (hb ▸ hd) rfl hz (by subst hq; exact hk)) K
theorem Go.goto {o : Int} (hd : decode bytes pc = .ok (.goto o, 3)) (ho : 0 ≤ (pc : Int) + o) (hq : ((pc : Int) + o).toNat = pc') (K : Go l Z EL n0 nr kn y bytes mL ret R h0 WS Q SF h k n pc' Ls st) : Go l Z EL n0 nr kn y bytes mL ret R h0 WS Q SF h k n pc Ls st :=
  Go.plain (fun p e below T m c target hA hx hb hk => XS.goto hA hx rfl (pc0 := pc) (pc' := pc') rfl (hb ▸ hd) ho hq hk) K
theorem Go.ifY {cd : ClassFile.Cond} {x : Int32} {o : Int} (hd : decode bytes pc = .ok (.ifCond cd o, 3)) (ho : 0 ≤ (pc : Int) + o) (hq : ((pc : Int) + o).toNat = pc') (hc : ifCond.holds cd x = true) (K : Go l Z EL n0 nr kn y bytes mL ret R h0 WS Q SF h k n pc' Ls st) : Go l Z EL n0 nr kn y bytes mL ret R h0 WS Q SF h k n pc Ls (.int x :: st) :=
  Go.plain (fun p e below T m c target hA hx hb hk => XS.ifYes hA hx rfl (pc0 := pc) (pc' := pc') rfl (hb ▸ hd) rfl hc ho hq hk) K
theorem Go.icmpY {cd : ClassFile.Cond} {x z : Int32} {o : Int} (hd : decode bytes pc = .ok (.if_icmp cd o, 3)) (ho : 0 ≤ (pc : Int) + o) (hq : ((pc : Int) + o).toNat = pc') (hc : if_icmp.holds cd x z = true) (K : Go l Z EL n0 nr kn y bytes mL ret R h0 WS Q SF h k n pc' Ls st) : Go l Z EL n0 nr kn y bytes mL ret R h0 WS Q SF h k n pc Ls (.int z :: .int x :: st) :=
  Go.plain (fun p e below T m c target hA hx hb hk => XS.icmpYes hA hx rfl (pc0 := pc) (pc' := pc') rfl (hb ▸ hd) rfl hc ho hq hk) K
theorem Go.ifnullY {o : Int} (hd : decode bytes pc = .ok (.ifnull o, 3)) (ho : 0 ≤ (pc : Int) + o) (hq : ((pc : Int) + o).toNat = pc') (K : Go l Z EL n0 nr kn y bytes mL ret R h0 WS Q SF h k n pc' Ls st) : Go l Z EL n0 nr kn y bytes mL ret R h0 WS Q SF h k n pc Ls (.null :: st) :=
  Go.plain (fun p e below T m c target hA hx hb hk => XS.ifnullYes hA hx rfl (pc0 := pc) (pc' := pc') rfl (hb ▸ hd) rfl ho hq hk) K
theorem Go.ifnonnullY {b : Addr} {o : Int} (hd : decode bytes pc = .ok (.ifnonnull o, 3)) (ho : 0 ≤ (pc : Int) + o) (hq : ((pc : Int) + o).toNat = pc') (K : Go l Z EL n0 nr kn y bytes mL ret R h0 WS Q SF h k n pc' Ls st) : Go l Z EL n0 nr kn y bytes mL ret R h0 WS Q SF h k n pc Ls (.ref b :: st) :=
  Go.plain (fun p e below T m c target hA hx hb hk => XS.ifnonnullYes hA hx rfl (pc0 := pc) (pc' := pc') rfl (hb ▸ hd) rfl ho hq hk) K
theorem Go.ifN {cd : ClassFile.Cond} {o : Int} {x : Int32} (hd : decode bytes pc = .ok (.ifCond cd o, 3)) (hq : pc + 3 = pc') (hc : ifCond.holds cd x = false) (K : Go l Z EL n0 nr kn y bytes mL ret R h0 WS Q SF h k n pc' Ls st) : Go l Z EL n0 nr kn y bytes mL ret R h0 WS Q SF h k n pc Ls (.int x :: st) :=
  Go.plain (fun p e below T m c target hA hx hb hk => XS.ifNo hA hx rfl (hb ▸ hd) rfl hc (by subst hq; exact hk)) K
theorem Go.icmpN {cd : ClassFile.Cond} {o : Int} {x z : Int32} (hd : decode bytes pc = .ok (.if_icmp cd o, 3)) (hq : pc + 3 = pc') (hc : if_icmp.holds cd x z = false) (K : Go l Z EL n0 nr kn y bytes mL ret R h0 WS Q SF h k n pc' Ls st) : Go l Z EL n0 nr kn y bytes mL ret R h0 WS Q SF h k n pc Ls (.int z :: .int x :: st) :=
  Go.plain (fun p e below T m c target hA hx hb hk => XS.icmpNo hA hx rfl (hb ▸ hd) rfl hc (by subst hq; exact hk)) K
theorem Go.ifnullN {o : Int} {b : Addr} (hd : decode bytes pc = .ok (.ifnull o, 3)) (hq : pc + 3 = pc') (K : Go l Z EL n0 nr kn y bytes mL ret R h0 WS Q SF h k n pc' Ls st) : Go l Z EL n0 nr kn y bytes mL ret R h0 WS Q SF h k n pc Ls (.ref b :: st) :=
  Go.plain (fun p e below T m c target hA hx hb hk => XS.ifnullNo hA hx rfl (hb ▸ hd) rfl (by subst hq; exact hk)) K
theorem Go.ifnonnullN {o : Int} (hd : decode bytes pc = .ok (.ifnonnull o, 3)) (hq : pc + 3 = pc') (K : Go l Z EL n0 nr kn y bytes mL ret R h0 WS Q SF h k n pc' Ls st) : Go l Z EL n0 nr kn y bytes mL ret R h0 WS Q SF h k n pc Ls (.null :: st) :=
  Go.plain (fun p e below T m c target hA hx hb hk => XS.ifnonnullNo hA hx rfl (hb ▸ hd) rfl (by subst hq; exact hk)) K
theorem Go.acmp {cd : ACond} {v u : Value} {o : Int} {same : Bool} (hd : decode bytes pc = .ok (.if_acmp cd o, 3)) (hv : v.isRef = true) (hu : u.isRef = true) (hs : decide (v = u) = same) (ho : 0 ≤ (pc : Int) + o) (hq : pc' = if acV cd same = true then ((pc : Int) + o).toNat else pc + 3) (K : Go l Z EL n0 nr kn y bytes mL ret R h0 WS Q SF h k n pc' Ls st) : Go l Z EL n0 nr kn y bytes mL ret R h0 WS Q SF h k n pc Ls (u :: v :: st) := by
  intro p e s m args below meth c T hR
  obtain ⟨t, o, hs', r⟩ := K p e s m args below meth c T hR
  obtain ⟨⟨hx, hb, -⟩, vm0, k0, locs, X, -⟩ := hR
  exact ⟨t, o, Jvm.RoadKit.acmp (g := mkF m pc Ls (u :: v :: st)) X hx rfl hv hu (pc0 := pc) (pc' := pc') (same := same) rfl (hb ▸ hd) rfl hs ho hq hs', r⟩
theorem Go.getF {R0 O nf d host : String} {index : Nat} {a : Addr} {v : Value} (hd : decode bytes pc = .ok (.getfield index, 3)) (hq : pc + 3 = pc') (w : (Jvm.Cond.fieldLink y.cls index R0 nf d).before a0 Z = true ∨ (Jvm.Cond.fieldLinkNest y.cls index R0 nf d host).before a0 Z = true) (via : Via Z R0 O nf d) (F : Fld Z h a O nf d v) (K : Go l Z EL n0 nr kn y bytes mL ret R h0 WS Q SF h k n pc' Ls (v :: st)) : Go l Z EL n0 nr kn y bytes mL ret R h0 WS Q SF h k n pc Ls (.ref a :: st) := by
  intro p e s m args below meth c T hR
  obtain ⟨⟨hx, hby, hml, hown, hnm, hret, hlk, hkn⟩, vm0, k0, locs, X, e0, C⟩ := hR
  have hZ : Z.Warmed39 (s.setVm vm0).vm := C.1
  have hown' : (s.setVm vm0).vm.findClass y.cls = some m.cls := by rw [show (s.setVm vm0).vm = vm0 from rfl, C.2.1.1.1.alike.findClass]; exact hown
  obtain ⟨T', X', e', st'⟩ := Jvm.RoadKit.getF X hx hZ hown' w via e0 F (g := mkF m pc Ls (.ref a :: st)) rfl rfl (hb hby hd)
  obtain ⟨t, o, hs, r⟩ := K p e s m args below meth c T' ⟨⟨hx, hby, hml, hown, hnm, hret, hlk, hkn⟩, vm0, k0, locs, X', e', C⟩
  exact ⟨t, o, st' _ (by subst hq; exact hs), r⟩
theorem Go.getS {R0 O nf d host : String} {index : Nat} {v : Value} (hd : decode bytes pc = .ok (.getstatic index, 3)) (hq : pc + 3 = pc') (w : (Jvm.Cond.fieldLink y.cls index R0 nf d).before a0 Z = true ∨ (Jvm.Cond.fieldLinkNest y.cls index R0 nf d host).before a0 Z = true) (via : Via Z R0 O nf d) (F : Sta Z Z.heap O nf d v) (K : Go l Z EL n0 nr kn y bytes mL ret R h0 WS Q SF h k n pc' Ls (v :: st)) : Go l Z EL n0 nr kn y bytes mL ret R h0 WS Q SF h k n pc Ls st := by
  intro p e s m args below meth c T hR
  obtain ⟨⟨hx, hby, hml, hown, hnm, hret, hlk, hkn⟩, vm0, k0, locs, X, e0, C⟩ := hR
  have hZ : Z.Warmed39 (s.setVm vm0).vm := C.1
  have hown' : (s.setVm vm0).vm.findClass y.cls = some m.cls := by rw [show (s.setVm vm0).vm = vm0 from rfl, C.2.1.1.1.alike.findClass]; exact hown
  obtain ⟨T', X', e', st'⟩ := Jvm.RoadKit.getS2 X hx hZ hown' w via e0 (F.ext C.2.2.2.2.2.2.1.2) (g := mkF m pc Ls st) rfl (hb hby hd)
  obtain ⟨t, o, hs, r⟩ := K p e s m args below meth c T' ⟨⟨hx, hby, hml, hown, hnm, hret, hlk, hkn⟩, vm0, k0, locs, X', e', C⟩
  exact ⟨t, o, st' _ (by subst hq; exact hs), r⟩
theorem Go.castY {D : String} {index : Nat} {a : Addr} (hd : decode bytes pc = .ok (.checkcast index, 3)) (hq : pc + 3 = pc') (w : (Jvm.Cond.classLink y.cls index D).before a0 Z = true) (F : Ins Z h a D true) (K : Go l Z EL n0 nr kn y bytes mL ret R h0 WS Q SF h k n pc' Ls (.ref a :: st)) : Go l Z EL n0 nr kn y bytes mL ret R h0 WS Q SF h k n pc Ls (.ref a :: st) := by
  intro p e s m args below meth c T hR
  obtain ⟨⟨hx, hby, hml, hown, hnm, hret, hlk, hkn⟩, vm0, k0, locs, X, e0, C⟩ := hR
  have hZ : Z.Warmed39 (s.setVm vm0).vm := C.1
  have hown' : (s.setVm vm0).vm.findClass y.cls = some m.cls := by rw [show (s.setVm vm0).vm = vm0 from rfl, C.2.1.1.1.alike.findClass]; exact hown
  obtain ⟨T', X', e', st'⟩ := Jvm.RoadKit.castY X hx hZ hown' w e0 F (g := mkF m pc Ls (.ref a :: st)) rfl rfl (hb hby hd)
  obtain ⟨t, o, hs, r⟩ := K p e s m args below meth c T' ⟨⟨hx, hby, hml, hown, hnm, hret, hlk, hkn⟩, vm0, k0, locs, X', e', C⟩
  exact ⟨t, o, st' _ (by subst hq; exact hs), r⟩
theorem Go.instY {D : String} {index : Nat} {a : Addr} (hd : decode bytes pc = .ok (.instanceof index, 3)) (hq : pc + 3 = pc') (w : (Jvm.Cond.classLink y.cls index D).before a0 Z = true) (F : Ins Z h a D true) (K : Go l Z EL n0 nr kn y bytes mL ret R h0 WS Q SF h k n pc' Ls (.int 1 :: st)) : Go l Z EL n0 nr kn y bytes mL ret R h0 WS Q SF h k n pc Ls (.ref a :: st) := by
  intro p e s m args below meth c T hR
  obtain ⟨⟨hx, hby, hml, hown, hnm, hret, hlk, hkn⟩, vm0, k0, locs, X, e0, C⟩ := hR
  have hZ : Z.Warmed39 (s.setVm vm0).vm := C.1
  have hown' : (s.setVm vm0).vm.findClass y.cls = some m.cls := by rw [show (s.setVm vm0).vm = vm0 from rfl, C.2.1.1.1.alike.findClass]; exact hown
  obtain ⟨T', X', e', st'⟩ := Jvm.RoadKit.instY X hx hZ hown' w e0 F (g := mkF m pc Ls (.ref a :: st)) rfl rfl (hb hby hd)
  obtain ⟨t, o, hs, r⟩ := K p e s m args below meth c T' ⟨⟨hx, hby, hml, hown, hnm, hret, hlk, hkn⟩, vm0, k0, locs, X', e', C⟩
  exact ⟨t, o, st' _ (by subst hq; exact hs), r⟩
theorem Go.instNo {D CC : String} {index : Nat} {a : Addr} (hd : decode bytes pc = .ok (.instanceof index, 3)) (hq : pc + 3 = pc') (w : (Jvm.Cond.classLink y.cls index D).before a0 Z = true) (E : Exa Z h a CC) (F : ∃ c t, Z.vm.findClass CC = some c ∧ Z.vm.findClass D = some t ∧ Z.vm.assignable c t = false) (K : Go l Z EL n0 nr kn y bytes mL ret R h0 WS Q SF h k n pc' Ls (.int 0 :: st)) : Go l Z EL n0 nr kn y bytes mL ret R h0 WS Q SF h k n pc Ls (.ref a :: st) := by
  intro p e s m args below meth c T hR
  obtain ⟨⟨hx, hby, hml, hown, hnm, hret, hlk, hkn⟩, vm0, k0, locs, X, e0, C⟩ := hR
  have hZ : Z.Warmed39 (s.setVm vm0).vm := C.1
  have hown' : (s.setVm vm0).vm.findClass y.cls = some m.cls := by rw [show (s.setVm vm0).vm = vm0 from rfl, C.2.1.1.1.alike.findClass]; exact hown
  obtain ⟨T', X', e', st'⟩ := Jvm.RoadKit.instNo X hx hZ hown' w e0 E F (g := mkF m pc Ls (.ref a :: st)) rfl rfl (hb hby hd)
  obtain ⟨t, o, hs, r⟩ := K p e s m args below meth c T' ⟨⟨hx, hby, hml, hown, hnm, hret, hlk, hkn⟩, vm0, k0, locs, X', e', C⟩
  exact ⟨t, o, st' _ (by subst hq; exact hs), r⟩
theorem Go.initO {index W : Nat} {a : Addr} (hd : decode bytes pc = .ok (.invokespecial index, 3)) (hq : pc + 3 = pc') (w1 : (Jvm.Cond.methodLink y.cls index Lib.objectInit).before a0 Z = true) (w2 : (Jvm.Cond.instanceMethod Lib.objectInit).before a0 Z = true) (w3 : (Jvm.Cond.code Lib.objectInit ⟨#[0xb1]⟩ 1 none).before a0 Z = true) (hsz : Ls.size = mL) (hf : 1 ≤ R.frames) (hW : (st.map fun v => v.category).sum ≤ W) (hl : W + 12 ≤ R.locals) (K : Go l Z EL n0 nr kn y bytes mL ret R h0 WS Q SF h k n pc' Ls st) : Go l Z EL n0 nr kn y bytes mL ret R h0 WS Q SF h k n pc Ls (.ref a :: st) := by
  intro p e s m args below meth c T hR
  obtain ⟨⟨hx, hby, hml, hown, hnm, hret, hlk, hkn⟩, vm0, k0, locs, X, e0, C⟩ := hR
  have hZ : Z.Warmed39 (s.setVm vm0).vm := C.1
  have hown' : (s.setVm vm0).vm.findClass y.cls = some m.cls := by rw [show (s.setVm vm0).vm = vm0 from rfl, C.2.1.1.1.alike.findClass]; exact hown
  obtain ⟨T', X', e', st'⟩ := Jvm.RoadKit.initO X hx hZ hown' w1 w2 w3 e0 (g := mkF m pc Ls (.ref a :: st)) rfl (by rw [hml]; exact hsz) rfl (hb hby hd) hf (W := W) (by show 2 * 0 + _ ≤ _; rw [Nat.mul_zero, Nat.zero_add]; exact hW) hl
  obtain ⟨t, o, hs, r⟩ := K p e s m args below meth c T' ⟨⟨hx, hby, hml, hown, hnm, hret, hlk, hkn⟩, vm0, k0, locs, X', e', C⟩
  exact ⟨t, o, st' _ (by subst hq; exact hs), r⟩
theorem Go.gcls {index W : Nat} {CC : String} {a mr : Addr} (hd : decode bytes pc = .ok (.invokevirtual index, 3)) (hq : pc + 3 = pc') (w1 : (Jvm.Cond.methodLink y.cls index ⟨"java/lang/Object", "getClass", "()Ljava/lang/Class;"⟩).before a0 Z = true) (w2 : (Jvm.Cond.declares ⟨"java/lang/Object", "getClass", "()Ljava/lang/Class;"⟩).before a0 Z = true) (w3 : (Jvm.Cond.noSuperclass "java/lang/Object").before a0 Z = true) (w4 : (Jvm.Cond.selects CC ⟨"java/lang/Object", "getClass", "()Ljava/lang/Class;"⟩ ⟨"java/lang/Object", "getClass", "()Ljava/lang/Class;"⟩).before a0 Z = true)
    (w5 : (Jvm.Cond.instanceMethod ⟨"java/lang/Object", "getClass", "()Ljava/lang/Class;"⟩).before a0 Z = true) (w6 : (Jvm.Cond.native ⟨"java/lang/Object", "getClass", "()Ljava/lang/Class;"⟩).before a0 Z = true) (E : Exa Z h a CC) (M : Mr Z CC mr) (hsz : Ls.size = mL) (hf : 1 ≤ R.frames) (hW : (st.map fun v => v.category).sum ≤ W) (hl : W + (nativeFrameWords "java/lang/Object" "getClass" 1 + 11) ≤ R.locals) (K : Go l Z EL n0 nr kn y bytes mL ret R h0 WS Q SF h k n pc' Ls (.ref mr :: st)) : Go l Z EL n0 nr kn y bytes mL ret R h0 WS Q SF h k n pc Ls (.ref a :: st) := by
  intro p e s m args below meth c T hR
  obtain ⟨⟨hx, hby, hml, hown, hnm, hret, hlk, hkn⟩, vm0, k0, locs, X, e0, C⟩ := hR
  have hZ : Z.Warmed39 (s.setVm vm0).vm := C.1
  have hown' : (s.setVm vm0).vm.findClass y.cls = some m.cls := by rw [show (s.setVm vm0).vm = vm0 from rfl, C.2.1.1.1.alike.findClass]; exact hown
  obtain ⟨cB, kB, i1, i2, i3⟩ := isOf hZ e0 E
  obtain ⟨cc, kc, m1, m2, m3⟩ := M
  rw [hZ.alike.findClass] at i1
  cases i1.symm.trans m1
  obtain ⟨k', q, ek⟩ := hZ.alike.2.2 _ _ m2
  obtain ⟨vm', X', st'⟩ := X.getClassOf hx hown' (mvT hZ w1) (mvT hZ w2) (nf_top (args := #[]) (mvT hZ w3)) (mvT hZ w4) (mvT hZ w5) (mvT hZ w6) (by rw [hZ.alike.findClass]; exact m1) i3 q (by rw [ek]; exact m3) (g := mkF m pc Ls (.ref a :: st)) rfl (by rw [hml]; exact hsz) rfl (hb hby hd) hf (by show 2 * 0 + _ + _ ≤ _; omega)
  obtain ⟨t, o, hs, r⟩ := K p e s m args below meth c _ ⟨⟨hx, hby, hml, hown, hnm, hret, hlk, hkn⟩, vm0, k0, locs, X', e0, C⟩
  exact ⟨t, o, st' _ (by subst hq; exact hs), r⟩
theorem Go.ldcM {index : Nat} {CC : String} {mr : Addr} (hd : decode bytes pc = .ok (.ldc index, 2)) (hq : pc + 2 = pc') (w : (Jvm.Cond.classLink y.cls index CC).before a0 Z = true) (M : Mr Z CC mr) (K : Go l Z EL n0 nr kn y bytes mL ret R h0 WS Q SF h k n pc' Ls (.ref mr :: st)) : Go l Z EL n0 nr kn y bytes mL ret R h0 WS Q SF h k n pc Ls st := by
  intro p e s m args below meth c T hR
  obtain ⟨⟨hx, hby, hml, hown, hnm, hret, hlk, hkn⟩, vm0, k0, locs, X, e0, C⟩ := hR
  have hZ : Z.Warmed39 (s.setVm vm0).vm := C.1
  have hown' : (s.setVm vm0).vm.findClass y.cls = some m.cls := by rw [show (s.setVm vm0).vm = vm0 from rfl, C.2.1.1.1.alike.findClass]; exact hown
  obtain ⟨cc, kc, m1, m2, m3⟩ := M
  obtain ⟨k', q, ek⟩ := hZ.alike.2.2 _ _ m2
  have hev : (Term.mirror CC).eval args (s.setVm vm0) none [] (s.setVm vm0) = some (.ref mr) := by
    have q1 : (s.setVm vm0).vm.findClass CC = some cc := by rw [hZ.alike.findClass]; exact m1
    have q2 : k'.mirror = some mr := by rw [ek]; exact m3
    simp only [Term.eval, q1, q, q2, Option.bind_eq_bind, Option.bind_some, Option.pure_def]
  obtain ⟨vm', X', st'⟩ := X.ldcMirror hx hown' (mvT hZ w) hev (g := mkF m pc Ls st) rfl (hb hby hd)
  obtain ⟨t, o, hs, r⟩ := K p e s m args below meth c _ ⟨⟨hx, hby, hml, hown, hnm, hret, hlk, hkn⟩, vm0, k0, locs, X', e0, C⟩
  exact ⟨t, o, st' _ (by subst hq; exact hs), r⟩
theorem Go.ldcInt {index : Nat} {v : Int32} (hd : decode bytes pc = .ok (.ldc index, 2)) (hq : pc + 2 = pc') (w : (Jvm.Cond.constant y.cls index v).before a0 Z = true) (K : Go l Z EL n0 nr kn y bytes mL ret R h0 WS Q SF h k n pc' Ls (.int v :: st)) : Go l Z EL n0 nr kn y bytes mL ret R h0 WS Q SF h k n pc Ls st := by
  intro p e s m args below meth c T hR
  obtain ⟨⟨hx, hby, hml, hown, hnm, hret, hlk, hkn⟩, vm0, k0, locs, X, e0, C⟩ := hR
  have hZ : Z.Warmed39 (s.setVm vm0).vm := C.1
  have hown' : (s.setVm vm0).vm.findClass y.cls = some m.cls := by rw [show (s.setVm vm0).vm = vm0 from rfl, C.2.1.1.1.alike.findClass]; exact hown
  obtain ⟨t, o, hs, r⟩ := K p e s m args below meth c T ⟨⟨hx, hby, hml, hown, hnm, hret, hlk, hkn⟩, vm0, k0, locs, X, e0, C⟩
  exact ⟨t, o, X.ldcInt hx hown' (mvT hZ w) (g := mkF m pc Ls st) rfl (hb hby hd) _ (by subst hq; exact hs), r⟩
theorem Go.ldc2Long {index : Nat} {v : Int64} (hd : decode bytes pc = .ok (.ldc2_w index, 3)) (hq : pc + 3 = pc') (w : (Jvm.Cond.constantLong y.cls index v).before a0 Z = true) (K : Go l Z EL n0 nr kn y bytes mL ret R h0 WS Q SF h k n pc' Ls (.long v :: st)) : Go l Z EL n0 nr kn y bytes mL ret R h0 WS Q SF h k n pc Ls st := by
  intro p e s m args below meth c T hR
  obtain ⟨⟨hx, hby, hml, hown, hnm, hret, hlk, hkn⟩, vm0, k0, locs, X, e0, C⟩ := hR
  have hZ : Z.Warmed39 (s.setVm vm0).vm := C.1
  have hown' : (s.setVm vm0).vm.findClass y.cls = some m.cls := by rw [show (s.setVm vm0).vm = vm0 from rfl, C.2.1.1.1.alike.findClass]; exact hown
  obtain ⟨t, o, hs, r⟩ := K p e s m args below meth c T ⟨⟨hx, hby, hml, hown, hnm, hret, hlk, hkn⟩, vm0, k0, locs, X, e0, C⟩
  exact ⟨t, o, X.ldc2Long hx hown' (mvT hZ w) (g := mkF m pc Ls st) rfl (hb hby hd) _ (by subst hq; exact hs), r⟩
theorem Go.arraylength {a : Addr} {cl : Cell} {ty : FieldType} {z : Int32} (hd : decode bytes pc = .ok (.arraylength, 1)) (hq : pc + 1 = pc') (F : Arr Z h a cl ty) (hz : cl.slots.size.toInt32 = z) (K : Go l Z EL n0 nr kn y bytes mL ret R h0 WS Q SF h k n pc' Ls (.int z :: st)) : Go l Z EL n0 nr kn y bytes mL ret R h0 WS Q SF h k n pc Ls (.ref a :: st) := by
  intro p e s m args below meth c T hR
  obtain ⟨⟨hx, hby, hml, hown, hnm, hret, hlk, hkn⟩, vm0, k0, locs, X, e0, C⟩ := hR
  have hZ : Z.Warmed39 (s.setVm vm0).vm := C.1
  have hown' : (s.setVm vm0).vm.findClass y.cls = some m.cls := by rw [show (s.setVm vm0).vm = vm0 from rfl, C.2.1.1.1.alike.findClass]; exact hown
  obtain ⟨t, o, hs, r⟩ := K p e s m args below meth c T ⟨⟨hx, hby, hml, hown, hnm, hret, hlk, hkn⟩, vm0, k0, locs, X, e0, C⟩
  exact ⟨t, o, X.arraylength hx (by rw [e0]; exact F.1) (State.isArrayOf_alike hZ.alike F.2.1) (g := mkF m pc Ls (.ref a :: st)) rfl rfl (hb hby hd) _ (by subst hq; rw [hz]; exact hs), r⟩
theorem Go.lenV {a : Addr} {kk : ClassId} {ty : FieldType} {z : Int32} {vs : List Value} {dv : Value} (hd : decode bytes pc = .ok (.arraylength, 1)) (hq : pc + 1 = pc') (F : Arv Z h a kk ty z vs dv) (K : Go l Z EL n0 nr kn y bytes mL ret R h0 WS Q SF h k n pc' Ls (.int z :: st)) : Go l Z EL n0 nr kn y bytes mL ret R h0 WS Q SF h k n pc Ls (.ref a :: st) := by
  intro p e s m args below meth c T hR
  obtain ⟨⟨hx, hby, hml, hown, hnm, hret, hlk, hkn⟩, vm0, k0, locs, X, e0, C⟩ := hR
  have hZ : Z.Warmed39 (s.setVm vm0).vm := C.1
  have hown' : (s.setVm vm0).vm.findClass y.cls = some m.cls := by rw [show (s.setVm vm0).vm = vm0 from rfl, C.2.1.1.1.alike.findClass]; exact hown
  obtain ⟨cl, F, -, S, N, -, -⟩ := F
  obtain ⟨t, o, hs, r⟩ := K p e s m args below meth c T ⟨⟨hx, hby, hml, hown, hnm, hret, hlk, hkn⟩, vm0, k0, locs, X, e0, C⟩
  exact ⟨t, o, X.arraylength hx (by rw [e0]; exact F.1) (State.isArrayOf_alike hZ.alike F.2.1) (g := mkF m pc Ls (.ref a :: st)) rfl rfl (hb hby hd) _ (by subst hq; rw [len_of S N]; exact hs), r⟩
theorem Go.caload {a : Addr} {cl : Cell} {j : Int32} {v : Value} (hd : decode bytes pc = .ok (.caload, 1)) (hq : pc + 1 = pc') (F : Arr Z h a cl .char) (hin : ¬ (j < 0 ∨ cl.slots.size ≤ j.toNatClampNeg)) (hv : cl.slots[j.toNatClampNeg]? = some v) (K : Go l Z EL n0 nr kn y bytes mL ret R h0 WS Q SF h k n pc' Ls (v :: st)) : Go l Z EL n0 nr kn y bytes mL ret R h0 WS Q SF h k n pc Ls (.int j :: .ref a :: st) := by
  intro p e s m args below meth c T hR
  obtain ⟨⟨hx, hby, hml, hown, hnm, hret, hlk, hkn⟩, vm0, k0, locs, X, e0, C⟩ := hR
  have hZ : Z.Warmed39 (s.setVm vm0).vm := C.1
  have hown' : (s.setVm vm0).vm.findClass y.cls = some m.cls := by rw [show (s.setVm vm0).vm = vm0 from rfl, C.2.1.1.1.alike.findClass]; exact hown
  obtain ⟨t, o, hs, r⟩ := K p e s m args below meth c T ⟨⟨hx, hby, hml, hown, hnm, hret, hlk, hkn⟩, vm0, k0, locs, X, e0, C⟩
  exact ⟨t, o, X.caload hx (by rw [e0]; exact F.1) (State.isArrayOf_alike hZ.alike F.2.1) F.2.2 hin hv (g := mkF m pc Ls (.int j :: .ref a :: st)) rfl rfl (hb hby hd) _ (by subst hq; exact hs), r⟩
theorem Go.caloadV {a : Addr} {kk : ClassId} {z j : Int32} {vs : List Value} {v dv : Value} (hd : decode bytes pc = .ok (.caload, 1)) (hq : pc + 1 = pc') (F : Arv Z h a kk .char z vs dv) (hj : ¬ j < 0 ∧ j < z) (hv : vs.getD j.toNatClampNeg dv = v) (K : Go l Z EL n0 nr kn y bytes mL ret R h0 WS Q SF h k n pc' Ls (v :: st)) : Go l Z EL n0 nr kn y bytes mL ret R h0 WS Q SF h k n pc Ls (.int j :: .ref a :: st) := by
  intro p e s m args below meth c T hR
  obtain ⟨⟨hx, hby, hml, hown, hnm, hret, hlk, hkn⟩, vm0, k0, locs, X, e0, C⟩ := hR
  have hZ : Z.Warmed39 (s.setVm vm0).vm := C.1
  have hown' : (s.setVm vm0).vm.findClass y.cls = some m.cls := by rw [show (s.setVm vm0).vm = vm0 from rfl, C.2.1.1.1.alike.findClass]; exact hown
  obtain ⟨cl, F, -, S, N, H, -⟩ := F
  have hin := inb_of S hj
  have hv := Has.at H hin hv
  obtain ⟨t, o, hs, r⟩ := K p e s m args below meth c T ⟨⟨hx, hby, hml, hown, hnm, hret, hlk, hkn⟩, vm0, k0, locs, X, e0, C⟩
  exact ⟨t, o, X.caload hx (by rw [e0]; exact F.1) (State.isArrayOf_alike hZ.alike F.2.1) F.2.2 hin hv (g := mkF m pc Ls (.int j :: .ref a :: st)) rfl rfl (hb hby hd) _ (by subst hq; exact hs), r⟩
theorem Go.baload {a : Addr} {cl : Cell} {j : Int32} {v : Value} (hd : decode bytes pc = .ok (.baload, 1)) (hq : pc + 1 = pc') (F : Arr Z h a cl .byte) (hin : ¬ (j < 0 ∨ cl.slots.size ≤ j.toNatClampNeg)) (hv : cl.slots[j.toNatClampNeg]? = some v) (K : Go l Z EL n0 nr kn y bytes mL ret R h0 WS Q SF h k n pc' Ls (v :: st)) : Go l Z EL n0 nr kn y bytes mL ret R h0 WS Q SF h k n pc Ls (.int j :: .ref a :: st) := by
  intro p e s m args below meth c T hR
  obtain ⟨⟨hx, hby, hml, hown, hnm, hret, hlk, hkn⟩, vm0, k0, locs, X, e0, C⟩ := hR
  have hZ : Z.Warmed39 (s.setVm vm0).vm := C.1
  have hown' : (s.setVm vm0).vm.findClass y.cls = some m.cls := by rw [show (s.setVm vm0).vm = vm0 from rfl, C.2.1.1.1.alike.findClass]; exact hown
  obtain ⟨t, o, hs, r⟩ := K p e s m args below meth c T ⟨⟨hx, hby, hml, hown, hnm, hret, hlk, hkn⟩, vm0, k0, locs, X, e0, C⟩
  exact ⟨t, o, X.baloadBytes hx (by rw [e0]; exact F.1) (State.isArrayOf_alike hZ.alike F.2.1) F.2.2 hin hv (g := mkF m pc Ls (.int j :: .ref a :: st)) rfl rfl (hb hby hd) _ (by subst hq; exact hs), r⟩
theorem Go.baloadV {a : Addr} {kk : ClassId} {z j : Int32} {vs : List Value} {v dv : Value} (hd : decode bytes pc = .ok (.baload, 1)) (hq : pc + 1 = pc') (F : Arv Z h a kk .byte z vs dv) (hj : ¬ j < 0 ∧ j < z) (hv : vs.getD j.toNatClampNeg dv = v) (K : Go l Z EL n0 nr kn y bytes mL ret R h0 WS Q SF h k n pc' Ls (v :: st)) : Go l Z EL n0 nr kn y bytes mL ret R h0 WS Q SF h k n pc Ls (.int j :: .ref a :: st) := by
  intro p e s m args below meth c T hR
  obtain ⟨⟨hx, hby, hml, hown, hnm, hret, hlk, hkn⟩, vm0, k0, locs, X, e0, C⟩ := hR
  have hZ : Z.Warmed39 (s.setVm vm0).vm := C.1
  have hown' : (s.setVm vm0).vm.findClass y.cls = some m.cls := by rw [show (s.setVm vm0).vm = vm0 from rfl, C.2.1.1.1.alike.findClass]; exact hown
  obtain ⟨cl, F, -, S, N, H, -⟩ := F
  have hin := inb_of S hj
  have hv := Has.at H hin hv
  obtain ⟨t, o, hs, r⟩ := K p e s m args below meth c T ⟨⟨hx, hby, hml, hown, hnm, hret, hlk, hkn⟩, vm0, k0, locs, X, e0, C⟩
  exact ⟨t, o, X.baloadBytes hx (by rw [e0]; exact F.1) (State.isArrayOf_alike hZ.alike F.2.1) F.2.2 hin hv (g := mkF m pc Ls (.int j :: .ref a :: st)) rfl rfl (hb hby hd) _ (by subst hq; exact hs), r⟩
theorem Go.iaload {a : Addr} {cl : Cell} {j : Int32} {v : Value} (hd : decode bytes pc = .ok (.iaload, 1)) (hq : pc + 1 = pc') (F : Arr Z h a cl .int) (hin : ¬ (j < 0 ∨ cl.slots.size ≤ j.toNatClampNeg)) (hv : cl.slots[j.toNatClampNeg]? = some v) (K : Go l Z EL n0 nr kn y bytes mL ret R h0 WS Q SF h k n pc' Ls (v :: st)) : Go l Z EL n0 nr kn y bytes mL ret R h0 WS Q SF h k n pc Ls (.int j :: .ref a :: st) := by
  intro p e s m args below meth c T hR
  obtain ⟨⟨hx, hby, hml, hown, hnm, hret, hlk, hkn⟩, vm0, k0, locs, X, e0, C⟩ := hR
  have hZ : Z.Warmed39 (s.setVm vm0).vm := C.1
  have hown' : (s.setVm vm0).vm.findClass y.cls = some m.cls := by rw [show (s.setVm vm0).vm = vm0 from rfl, C.2.1.1.1.alike.findClass]; exact hown
  obtain ⟨t, o, hs, r⟩ := K p e s m args below meth c T ⟨⟨hx, hby, hml, hown, hnm, hret, hlk, hkn⟩, vm0, k0, locs, X, e0, C⟩
  exact ⟨t, o, X.iaload hx (by rw [e0]; exact F.1) (State.isArrayOf_alike hZ.alike F.2.1) F.2.2 hin hv (g := mkF m pc Ls (.int j :: .ref a :: st)) rfl rfl (hb hby hd) _ (by subst hq; exact hs), r⟩
theorem Go.ialoadV {a : Addr} {kk : ClassId} {z j : Int32} {vs : List Value} {v dv : Value} (hd : decode bytes pc = .ok (.iaload, 1)) (hq : pc + 1 = pc') (F : Arv Z h a kk .int z vs dv) (hj : ¬ j < 0 ∧ j < z) (hv : vs.getD j.toNatClampNeg dv = v) (K : Go l Z EL n0 nr kn y bytes mL ret R h0 WS Q SF h k n pc' Ls (v :: st)) : Go l Z EL n0 nr kn y bytes mL ret R h0 WS Q SF h k n pc Ls (.int j :: .ref a :: st) := by
  intro p e s m args below meth c T hR
  obtain ⟨⟨hx, hby, hml, hown, hnm, hret, hlk, hkn⟩, vm0, k0, locs, X, e0, C⟩ := hR
  have hZ : Z.Warmed39 (s.setVm vm0).vm := C.1
  have hown' : (s.setVm vm0).vm.findClass y.cls = some m.cls := by rw [show (s.setVm vm0).vm = vm0 from rfl, C.2.1.1.1.alike.findClass]; exact hown
  obtain ⟨cl, F, -, S, N, H, -⟩ := F
  have hin := inb_of S hj
  have hv := Has.at H hin hv
  obtain ⟨t, o, hs, r⟩ := K p e s m args below meth c T ⟨⟨hx, hby, hml, hown, hnm, hret, hlk, hkn⟩, vm0, k0, locs, X, e0, C⟩
  exact ⟨t, o, X.iaload hx (by rw [e0]; exact F.1) (State.isArrayOf_alike hZ.alike F.2.1) F.2.2 hin hv (g := mkF m pc Ls (.int j :: .ref a :: st)) rfl rfl (hb hby hd) _ (by subst hq; exact hs), r⟩
theorem Go.aaload {ty : FieldType} {a : Addr} {cl : Cell} {j : Int32} {v : Value} (hd : decode bytes pc = .ok (.aaload, 1)) (hq : pc + 1 = pc') (F : Arr Z h a cl ty) (hty : ty.isReference = true) (hin : ¬ (j < 0 ∨ cl.slots.size ≤ j.toNatClampNeg)) (hv : cl.slots[j.toNatClampNeg]? = some v) (K : Go l Z EL n0 nr kn y bytes mL ret R h0 WS Q SF h k n pc' Ls (v :: st)) : Go l Z EL n0 nr kn y bytes mL ret R h0 WS Q SF h k n pc Ls (.int j :: .ref a :: st) := by
  intro p e s m args below meth c T hR
  obtain ⟨⟨hx, hby, hml, hown, hnm, hret, hlk, hkn⟩, vm0, k0, locs, X, e0, C⟩ := hR
  have hZ : Z.Warmed39 (s.setVm vm0).vm := C.1
  have hown' : (s.setVm vm0).vm.findClass y.cls = some m.cls := by rw [show (s.setVm vm0).vm = vm0 from rfl, C.2.1.1.1.alike.findClass]; exact hown
  obtain ⟨t, o, hs, r⟩ := K p e s m args below meth c T ⟨⟨hx, hby, hml, hown, hnm, hret, hlk, hkn⟩, vm0, k0, locs, X, e0, C⟩
  exact ⟨t, o, X.aaload hx (by rw [e0]; exact F.1) (State.isArrayOf_alike hZ.alike F.2.1) hty F.2.2 hin hv (g := mkF m pc Ls (.int j :: .ref a :: st)) rfl rfl (hb hby hd) _ (by subst hq; exact hs), r⟩
theorem Go.aaloadV {ty : FieldType} {a : Addr} {kk : ClassId} {z j : Int32} {vs : List Value} {v dv : Value} (hd : decode bytes pc = .ok (.aaload, 1)) (hq : pc + 1 = pc') (F : Arv Z h a kk ty z vs dv) (hty : ty.isReference = true) (hj : ¬ j < 0 ∧ j < z) (hv : vs.getD j.toNatClampNeg dv = v) (K : Go l Z EL n0 nr kn y bytes mL ret R h0 WS Q SF h k n pc' Ls (v :: st)) : Go l Z EL n0 nr kn y bytes mL ret R h0 WS Q SF h k n pc Ls (.int j :: .ref a :: st) := by
  intro p e s m args below meth c T hR
  obtain ⟨⟨hx, hby, hml, hown, hnm, hret, hlk, hkn⟩, vm0, k0, locs, X, e0, C⟩ := hR
  have hZ : Z.Warmed39 (s.setVm vm0).vm := C.1
  have hown' : (s.setVm vm0).vm.findClass y.cls = some m.cls := by rw [show (s.setVm vm0).vm = vm0 from rfl, C.2.1.1.1.alike.findClass]; exact hown
  obtain ⟨cl, F, -, S, N, H, -⟩ := F
  have hin := inb_of S hj
  have hv := Has.at H hin hv
  obtain ⟨t, o, hs, r⟩ := K p e s m args below meth c T ⟨⟨hx, hby, hml, hown, hnm, hret, hlk, hkn⟩, vm0, k0, locs, X, e0, C⟩
  exact ⟨t, o, X.aaload hx (by rw [e0]; exact F.1) (State.isArrayOf_alike hZ.alike F.2.1) hty F.2.2 hin hv (g := mkF m pc Ls (.int j :: .ref a :: st)) rfl rfl (hb hby hd) _ (by subst hq; exact hs), r⟩
theorem Go.newO {CC : String} {index nn : Nat} (hd : decode bytes pc = .ok (.new index, 3)) (hq : pc + 3 = pc') (w : (Jvm.Cond.classLink y.cls index CC).before a0 Z = true) (wi : (Jvm.Cond.instantiable CC nn).before a0 Z = true) (wz : (Jvm.Cond.initialized CC).before a0 Z = true) (hc : k + 1 ≤ R.cells) (hl : n + nn ≤ R.slots)
    (K : ∀ h' a, h.size = a → h0.size ≤ a → Ext h h' → Exa Z h' a CC → (∀ {O nm d : String} {ty : FieldType}, Laid Z a0 CC O nm d → parseFieldDescriptor d = some ty → Fld Z h' a O nm d (defaultValue ty)) → Unt h' a → Go l Z EL n0 nr kn y bytes mL ret R h0 WS Q (a :: SF) h' (k + 1) (n + nn) pc' Ls (.ref a :: st)) : Go l Z EL n0 nr kn y bytes mL ret R h0 WS Q SF h k n pc Ls st := by
  intro p e s m args below meth c T hR
  obtain ⟨⟨hx, hby, hml, hown, hnm, hret, hlk, hkn⟩, vm0, k0, locs, X, e0, C⟩ := hR
  have hZ : Z.Warmed39 (s.setVm vm0).vm := C.1
  have hown' : (s.setVm vm0).vm.findClass y.cls = some m.cls := by rw [show (s.setVm vm0).vm = vm0 from rfl, C.2.1.1.1.alike.findClass]; exact hown
  obtain ⟨T', h', X', e', E, AA, D, U, st'⟩ := Jvm.RoadKit.newO X hx hZ hown' w wi wz e0 (g := mkF m pc Ls st) rfl (hb hby hd) hc hl
  have hlt : h.size < h'.size := AA.lt
  obtain ⟨t, o, hs, r⟩ := K h' h.size rfl C.2.2.2.2.2.2.2.1.1 E AA D U p e s m args below meth c T' ⟨⟨hx, hby, hml, hown, hnm, hret, hlk, hkn⟩, vm0, k0, locs, X', e', C.push E hlt⟩
  exact ⟨t, o, st' _ (by subst hq; exact hs), r⟩
theorem Go.newP {aty : ArrayType} {z : Int32} {cap : Nat} {ad : String} (hd : decode bytes pc = .ok (.newarray aty, 2)) (hq : pc + 2 = pc') (w : (Jvm.Cond.arrayClass (newarray.typeOf aty)).before a0 Z = true) (had : "[" ++ (newarray.typeOf aty).toString = ad) (hz : ¬ z < 0) (hcap : z.toNatClampNeg ≤ cap) (hbig : cap * 8 ≤ 536870912) (hc : k + 1 ≤ R.cells) (hl : n + cap ≤ R.slots)
    (K : ∀ h' a, h.size = a → h0.size ≤ a → ∀ cA, Ext h h' → Arv Z h' a cA (newarray.typeOf aty) z [] (defaultValue (newarray.typeOf aty)) → Exa Z h' a ad → Go l Z EL n0 nr kn y bytes mL ret R h0 WS Q (a :: SF) h' (k + 1) (n + cap) pc' Ls (.ref a :: st)) : Go l Z EL n0 nr kn y bytes mL ret R h0 WS Q SF h k n pc Ls (.int z :: st) := by
  intro p e s m args below meth c T hR
  obtain ⟨⟨hx, hby, hml, hown, hnm, hret, hlk, hkn⟩, vm0, k0, locs, X, e0, C⟩ := hR
  have hZ : Z.Warmed39 (s.setVm vm0).vm := C.1
  have hown' : (s.setVm vm0).vm.findClass y.cls = some m.cls := by rw [show (s.setVm vm0).vm = vm0 from rfl, C.2.1.1.1.alike.findClass]; exact hown
  obtain ⟨T', h', cA, X', e', E, AA, EE, st'⟩ := Jvm.RoadKit.newPE X hx hZ w e0 (g := mkF m pc Ls (.int z :: st)) rfl (hb hby hd) rfl hz hcap hbig hc hl had
  have hlt : h.size < h'.size := AA.lt
  obtain ⟨t, o, hs, r⟩ := K h' h.size rfl C.2.2.2.2.2.2.2.1.1 cA E (Arv.new AA hz) EE p e s m args below meth c T' ⟨⟨hx, hby, hml, hown, hnm, hret, hlk, hkn⟩, vm0, k0, locs, X', e', C.push E hlt⟩
  exact ⟨t, o, st' _ (by subst hq; exact hs), r⟩
theorem Go.newR {CC : String} {index : Nat} {z : Int32} {cap : Nat} {ad : String} (hd : decode bytes pc = .ok (.anewarray index, 3)) (hq : pc + 3 = pc') (w1 : (Jvm.Cond.classLink y.cls index CC).before a0 Z = true) (w2 : (Jvm.Cond.arrayOver (.object CC)).before a0 Z = true) (had : "[" ++ (FieldType.object CC).toString = ad) (hz : ¬ z < 0) (hcap : z.toNatClampNeg ≤ cap) (hbig : cap * 8 ≤ 536870912) (hc : k + 1 ≤ R.cells) (hl : n + cap ≤ R.slots)
    (K : ∀ h' a, h.size = a → h0.size ≤ a → ∀ cA, Ext h h' → Arv Z h' a cA (.object CC) z [] .null → Exa Z h' a ad → Ovr Z cA CC → Go l Z EL n0 nr kn y bytes mL ret R h0 WS Q (a :: SF) h' (k + 1) (n + cap) pc' Ls (.ref a :: st)) : Go l Z EL n0 nr kn y bytes mL ret R h0 WS Q SF h k n pc Ls (.int z :: st) := by
  intro p e s m args below meth c T hR
  obtain ⟨⟨hx, hby, hml, hown, hnm, hret, hlk, hkn⟩, vm0, k0, locs, X, e0, C⟩ := hR
  have hZ : Z.Warmed39 (s.setVm vm0).vm := C.1
  have hown' : (s.setVm vm0).vm.findClass y.cls = some m.cls := by rw [show (s.setVm vm0).vm = vm0 from rfl, C.2.1.1.1.alike.findClass]; exact hown
  obtain ⟨T', h', cA, X', e', E, AA, EE, OO, st'⟩ := Jvm.RoadKit.newRE X hx hZ hown' w1 w2 e0 (g := mkF m pc Ls (.int z :: st)) rfl (hb hby hd) rfl hz hcap hbig hc hl had
  have hlt : h.size < h'.size := AA.lt
  obtain ⟨t, o, hs, r⟩ := K h' h.size rfl C.2.2.2.2.2.2.2.1.1 cA E (Arv.new AA hz) EE OO p e s m args below meth c T' ⟨⟨hx, hby, hml, hown, hnm, hret, hlk, hkn⟩, vm0, k0, locs, X', e', C.push E hlt⟩
  exact ⟨t, o, st' _ (by subst hq; exact hs), r⟩
theorem Go.clone {index W : Nat} {ad : String} {a : Addr} {ty : FieldType} {kk : ClassId} {z : Int32} {hs0 : List (Int32 × Value)} {vs : List Value} {dv : Value} {cap : Nat} (hd : decode bytes pc = .ok (.invokevirtual index, 3)) (hq : pc + 3 = pc') (w1 : (Jvm.Cond.methodLink y.cls index ⟨ad, "clone", "()Ljava/lang/Object;"⟩).before a0 Z = true) (w2 : (Jvm.Cond.sameMethod ad "java/lang/Object" "clone" "()Ljava/lang/Object;").before a0 Z = true) (w3 : (Jvm.Cond.native ⟨"java/lang/Object", "clone", "()Ljava/lang/Object;"⟩).before a0 Z = true)
    (w4 : (Jvm.Cond.instanceMethod ⟨"java/lang/Object", "clone", "()Ljava/lang/Object;"⟩).before a0 Z = true) (w5 : (Jvm.Cond.selects ad ⟨ad, "clone", "()Ljava/lang/Object;"⟩ ⟨"java/lang/Object", "clone", "()Ljava/lang/Object;"⟩).before a0 Z = true) (w6 : (Jvm.Cond.castable ad "java/lang/Cloneable").before a0 Z = true) (F : Arh Z h a kk ty z hs0 vs dv) (E0 : Exa Z h a ad) (hsz : Ls.size = mL) (hf : 1 ≤ R.frames) (hW : (st.map fun v => v.category).sum ≤ W) (hl : W + 14 ≤ R.locals) (hcap : z.toNatClampNeg ≤ cap) (hc : k + 1 ≤ R.cells) (hsl : n + cap ≤ R.slots)
    (K : ∀ h' a, h.size = a → h0.size ≤ a → Ext h h' → Arh Z h' a kk ty z hs0 vs dv → Exa Z h' a ad → Go l Z EL n0 nr kn y bytes mL ret R h0 WS Q (a :: SF) h' (k + 1) (n + cap) pc' Ls (.ref a :: st)) : Go l Z EL n0 nr kn y bytes mL ret R h0 WS Q SF h k n pc Ls (.ref a :: st) := by
  intro p e s m args below meth c T hR
  obtain ⟨⟨hx, hby, hml, hown, hnm, hret, hlk, hkn⟩, vm0, k0, locs, X, e0, C⟩ := hR
  have hZ : Z.Warmed39 (s.setVm vm0).vm := C.1
  have hown' : (s.setVm vm0).vm.findClass y.cls = some m.cls := by rw [show (s.setVm vm0).vm = vm0 from rfl, C.2.1.1.1.alike.findClass]; exact hown
  obtain ⟨T', h', X', e', E, AA, EE, st'⟩ := Jvm.RoadKit.cloneH X hx hZ hown' w1 w2 w3 w4 w5 w6 e0 F E0 (g := mkF m pc Ls (.ref a :: st)) rfl (by rw [hml]; exact hsz) rfl (hb hby hd) hf (W := W) (cap := cap) (by show 2 * 0 + _ ≤ _; rw [Nat.mul_zero, Nat.zero_add]; exact hW) hl hcap hc hsl
  have hlt : h.size < h'.size := EE.lt
  obtain ⟨t, o, hs, r⟩ := K h' h.size rfl C.2.2.2.2.2.2.2.1.1 E AA EE p e s m args below meth c T' ⟨⟨hx, hby, hml, hown, hnm, hret, hlk, hkn⟩, vm0, k0, locs, X', e', C.push E hlt⟩
  exact ⟨t, o, st' _ (by subst hq; exact hs), r⟩
theorem Go.putF {R0 O nf d host CC : String} {index kk : Nat} {ty : FieldType} {a : Addr} {v old : Value} (hd : decode bytes pc = .ok (.putfield index, 3)) (hq : pc + 3 = pc') (ha : a ∈ SF) (w : (Jvm.Cond.fieldLink y.cls index R0 nf d).before a0 Z = true ∨ (Jvm.Cond.fieldLinkNest y.cls index R0 nf d host).before a0 Z = true) (via : Via Z R0 O nf d) (F : Fld Z h a O nf d old) (E : Exa Z h a CC) (L : (Jvm.Cond.lays CC O nf d).before a0 Z = true ∨ ((Jvm.Cond.laysFinal CC O nf d).before a0 Z = true ∧ y.cls = O ∧ y.name = "<init>")) (wi : (Jvm.Cond.instantiable CC kk).before a0 Z = true) (hty : parseFieldDescriptor d = some ty) (hn : narrow ty v = v) (hf : fits ty v = true)
    (K : ∀ h', Wr h h' a (Jvm.RoadKit.slotOf Z O nf d) v → Go l Z EL n0 nr kn y bytes mL ret R h0 WS Q SF h' k n pc' Ls st) : Go l Z EL n0 nr kn y bytes mL ret R h0 WS Q SF h k n pc Ls (v :: .ref a :: st) := by
  intro p e s m args below meth c T hR
  obtain ⟨⟨hx, hby, hml, hown, hnm, hret, hlk, hkn⟩, vm0, k0, locs, X, e0, C⟩ := hR
  have hZ : Z.Warmed39 (s.setVm vm0).vm := C.1
  have hown' : (s.setVm vm0).vm.findClass y.cls = some m.cls := by rw [show (s.setVm vm0).vm = vm0 from rfl, C.2.1.1.1.alike.findClass]; exact hown
  have L' := L.imp id (fun q => (⟨q.1, q.2.1, hnm.trans q.2.2⟩ : _ ∧ _ ∧ meth.name = "<init>"))
  obtain ⟨T', h', X', e', W', st'⟩ := Jvm.RoadKit.putF X hx hZ hown' w via e0 F E L' wi hty hn hf (g := mkF m pc Ls (v :: .ref a :: st)) rfl rfl (hb hby hd)
  obtain ⟨t, o, hs, r⟩ := K h' W' p e s m args below meth c T' ⟨⟨hx, hby, hml, hown, hnm, hret, hlk, hkn⟩, vm0, k0, _, X', e', C.wr W' ha⟩
  exact ⟨t, o, st' _ (by subst hq; exact hs), r⟩
theorem Go.putFN {R0 O nf d CC : String} {index kk : Nat} {ty : FieldType} {a : Addr} {v v' old : Value} (hd : decode bytes pc = .ok (.putfield index, 3)) (hq : pc + 3 = pc') (ha : a ∈ SF) (w : (Jvm.Cond.fieldLink y.cls index R0 nf d).before a0 Z = true) (via : Via Z R0 O nf d) (F : Fld Z h a O nf d old) (E : Exa Z h a CC) (L : (Jvm.Cond.lays CC O nf d).before a0 Z = true ∨ ((Jvm.Cond.laysFinal CC O nf d).before a0 Z = true ∧ y.cls = O ∧ y.name = "<init>")) (wi : (Jvm.Cond.instantiable CC kk).before a0 Z = true) (hty : parseFieldDescriptor d = some ty) (hn : narrow ty v = v') (hf : fits ty v' = true)
    (K : ∀ h', Wr h h' a (Jvm.RoadKit.slotOf Z O nf d) v' → Go l Z EL n0 nr kn y bytes mL ret R h0 WS Q SF h' k n pc' Ls st) : Go l Z EL n0 nr kn y bytes mL ret R h0 WS Q SF h k n pc Ls (v :: .ref a :: st) := by
  intro p e s m args below meth c T hR
  obtain ⟨⟨hx, hby, hml, hown, hnm, hret, hlk, hkn⟩, vm0, k0, locs, X, e0, C⟩ := hR
  have hZ : Z.Warmed39 (s.setVm vm0).vm := C.1
  have hown' : (s.setVm vm0).vm.findClass y.cls = some m.cls := by rw [show (s.setVm vm0).vm = vm0 from rfl, C.2.1.1.1.alike.findClass]; exact hown
  have L' := L.imp id (fun q => (⟨q.1, q.2.1, hnm.trans q.2.2⟩ : _ ∧ _ ∧ meth.name = "<init>"))
  obtain ⟨T', h', X', e', W', st'⟩ := Jvm.RoadKit.putFN X hx hZ hown' w via e0 F E L' wi hty hn hf (g := mkF m pc Ls (v :: .ref a :: st)) rfl rfl (hb hby hd)
  obtain ⟨t, o, hs, r⟩ := K h' W' p e s m args below meth c T' ⟨⟨hx, hby, hml, hown, hnm, hret, hlk, hkn⟩, vm0, k0, _, X', e', C.wr W' ha⟩
  exact ⟨t, o, st' _ (by subst hq; exact hs), r⟩
theorem Go.castore {a : Addr} {cl : Cell} {j x : Int32} (hd : decode bytes pc = .ok (.castore, 1)) (hq : pc + 1 = pc') (ha : a ∈ SF) (F : Arr Z h a cl .char) (hj : ¬ (j < 0 ∨ cl.slots.size ≤ j.toNatClampNeg))
    (K : ∀ h', Wr h h' a j.toNatClampNeg (.int (nar .char x)) → Go l Z EL n0 nr kn y bytes mL ret R h0 WS Q SF h' k n pc' Ls st) : Go l Z EL n0 nr kn y bytes mL ret R h0 WS Q SF h k n pc Ls (.int x :: .int j :: .ref a :: st) := by
  intro p e s m args below meth c T hR
  obtain ⟨⟨hx, hby, hml, hown, hnm, hret, hlk, hkn⟩, vm0, k0, locs, X, e0, C⟩ := hR
  have hZ : Z.Warmed39 (s.setVm vm0).vm := C.1
  have hown' : (s.setVm vm0).vm.findClass y.cls = some m.cls := by rw [show (s.setVm vm0).vm = vm0 from rfl, C.2.1.1.1.alike.findClass]; exact hown
  obtain ⟨T', h', X', e', W', st'⟩ := Jvm.RoadKit.stC X hx hZ e0 F hj (g := mkF m pc Ls (.int x :: .int j :: .ref a :: st)) rfl rfl (hb hby hd)
  obtain ⟨t, o, hs, r⟩ := K h' W' p e s m args below meth c T' ⟨⟨hx, hby, hml, hown, hnm, hret, hlk, hkn⟩, vm0, k0, _, X', e', C.wr W' ha⟩
  exact ⟨t, o, st' _ (by subst hq; exact hs), r⟩
theorem Go.castoreV {a : Addr} {cA : ClassId} {z j x : Int32} {vs : List Value} {dv : Value} {i : Nat} (hd : decode bytes pc = .ok (.castore, 1)) (hq : pc + 1 = pc') (ha : a ∈ SF) (F : Arv Z h a cA .char z vs dv) (hj : ¬ j < 0 ∧ j < z) (hji : j.toNatClampNeg = i) (hi : i < vs.length)
    (K : ∀ h', Wr h h' a j.toNatClampNeg (.int (nar .char x)) → Arv Z h' a cA .char z (vs.set i (.int (nar .char x))) dv → Go l Z EL n0 nr kn y bytes mL ret R h0 WS Q SF h' k n pc' Ls st) : Go l Z EL n0 nr kn y bytes mL ret R h0 WS Q SF h k n pc Ls (.int x :: .int j :: .ref a :: st) := by
  intro p e s m args below meth c T hR
  obtain ⟨⟨hx, hby, hml, hown, hnm, hret, hlk, hkn⟩, vm0, k0, locs, X, e0, C⟩ := hR
  have hZ : Z.Warmed39 (s.setVm vm0).vm := C.1
  have hown' : (s.setVm vm0).vm.findClass y.cls = some m.cls := by rw [show (s.setVm vm0).vm = vm0 from rfl, C.2.1.1.1.alike.findClass]; exact hown
  obtain ⟨cl, F, q1, S, q3, H, G⟩ := F
  obtain ⟨T', h', X', e', W', st'⟩ := Jvm.RoadKit.stC X hx hZ e0 F (inb_of S hj) (g := mkF m pc Ls (.int x :: .int j :: .ref a :: st)) rfl rfl (hb hby hd)
  obtain ⟨t, o, hs, r⟩ := K h' W' (Arv.set F q1 S q3 H G (fits_nar_char x) W' i hji hi) p e s m args below meth c T' ⟨⟨hx, hby, hml, hown, hnm, hret, hlk, hkn⟩, vm0, k0, _, X', e', C.wr W' ha⟩
  exact ⟨t, o, st' _ (by subst hq; exact hs), r⟩
theorem Go.bastore {a : Addr} {cl : Cell} {j x : Int32} (hd : decode bytes pc = .ok (.bastore, 1)) (hq : pc + 1 = pc') (ha : a ∈ SF) (F : Arr Z h a cl .byte) (hj : ¬ (j < 0 ∨ cl.slots.size ≤ j.toNatClampNeg))
    (K : ∀ h', Wr h h' a j.toNatClampNeg (.int (nar .byte x)) → Go l Z EL n0 nr kn y bytes mL ret R h0 WS Q SF h' k n pc' Ls st) : Go l Z EL n0 nr kn y bytes mL ret R h0 WS Q SF h k n pc Ls (.int x :: .int j :: .ref a :: st) := by
  intro p e s m args below meth c T hR
  obtain ⟨⟨hx, hby, hml, hown, hnm, hret, hlk, hkn⟩, vm0, k0, locs, X, e0, C⟩ := hR
  have hZ : Z.Warmed39 (s.setVm vm0).vm := C.1
  have hown' : (s.setVm vm0).vm.findClass y.cls = some m.cls := by rw [show (s.setVm vm0).vm = vm0 from rfl, C.2.1.1.1.alike.findClass]; exact hown
  obtain ⟨T', h', X', e', W', st'⟩ := Jvm.RoadKit.stB X hx hZ e0 F hj (g := mkF m pc Ls (.int x :: .int j :: .ref a :: st)) rfl rfl (hb hby hd)
  obtain ⟨t, o, hs, r⟩ := K h' W' p e s m args below meth c T' ⟨⟨hx, hby, hml, hown, hnm, hret, hlk, hkn⟩, vm0, k0, _, X', e', C.wr W' ha⟩
  exact ⟨t, o, st' _ (by subst hq; exact hs), r⟩
theorem Go.bastoreV {a : Addr} {cA : ClassId} {z j x : Int32} {vs : List Value} {dv : Value} {i : Nat} (hd : decode bytes pc = .ok (.bastore, 1)) (hq : pc + 1 = pc') (ha : a ∈ SF) (F : Arv Z h a cA .byte z vs dv) (hj : ¬ j < 0 ∧ j < z) (hji : j.toNatClampNeg = i) (hi : i < vs.length)
    (K : ∀ h', Wr h h' a j.toNatClampNeg (.int (nar .byte x)) → Arv Z h' a cA .byte z (vs.set i (.int (nar .byte x))) dv → Go l Z EL n0 nr kn y bytes mL ret R h0 WS Q SF h' k n pc' Ls st) : Go l Z EL n0 nr kn y bytes mL ret R h0 WS Q SF h k n pc Ls (.int x :: .int j :: .ref a :: st) := by
  intro p e s m args below meth c T hR
  obtain ⟨⟨hx, hby, hml, hown, hnm, hret, hlk, hkn⟩, vm0, k0, locs, X, e0, C⟩ := hR
  have hZ : Z.Warmed39 (s.setVm vm0).vm := C.1
  have hown' : (s.setVm vm0).vm.findClass y.cls = some m.cls := by rw [show (s.setVm vm0).vm = vm0 from rfl, C.2.1.1.1.alike.findClass]; exact hown
  obtain ⟨cl, F, q1, S, q3, H, G⟩ := F
  obtain ⟨T', h', X', e', W', st'⟩ := Jvm.RoadKit.stB X hx hZ e0 F (inb_of S hj) (g := mkF m pc Ls (.int x :: .int j :: .ref a :: st)) rfl rfl (hb hby hd)
  obtain ⟨t, o, hs, r⟩ := K h' W' (Arv.set F q1 S q3 H G (fits_nar_byte x) W' i hji hi) p e s m args below meth c T' ⟨⟨hx, hby, hml, hown, hnm, hret, hlk, hkn⟩, vm0, k0, _, X', e', C.wr W' ha⟩
  exact ⟨t, o, st' _ (by subst hq; exact hs), r⟩
theorem Go.aastore {a : Addr} {cl : Cell} {ty : FieldType} {j : Int32} {v : Value} (hd : decode bytes pc = .ok (.aastore, 1)) (hq : pc + 1 = pc') (ha : a ∈ SF) (F : Arr Z h a cl ty) (hj : ¬ (j < 0 ∨ cl.slots.size ≤ j.toNatClampNeg)) (hty : ty.isReference = true) (S : Sto Z h a v)
    (K : ∀ h', Wr h h' a j.toNatClampNeg v → Go l Z EL n0 nr kn y bytes mL ret R h0 WS Q SF h' k n pc' Ls st) : Go l Z EL n0 nr kn y bytes mL ret R h0 WS Q SF h k n pc Ls (v :: .int j :: .ref a :: st) := by
  intro p e s m args below meth c T hR
  obtain ⟨⟨hx, hby, hml, hown, hnm, hret, hlk, hkn⟩, vm0, k0, locs, X, e0, C⟩ := hR
  have hZ : Z.Warmed39 (s.setVm vm0).vm := C.1
  have hown' : (s.setVm vm0).vm.findClass y.cls = some m.cls := by rw [show (s.setVm vm0).vm = vm0 from rfl, C.2.1.1.1.alike.findClass]; exact hown
  obtain ⟨T', h', X', e', W', st'⟩ := Jvm.RoadKit.stR X hx hZ e0 F hj hty S (g := mkF m pc Ls (v :: .int j :: .ref a :: st)) rfl rfl (hb hby hd)
  obtain ⟨t, o, hs, r⟩ := K h' W' p e s m args below meth c T' ⟨⟨hx, hby, hml, hown, hnm, hret, hlk, hkn⟩, vm0, k0, _, X', e', C.wr W' ha⟩
  exact ⟨t, o, st' _ (by subst hq; exact hs), r⟩
theorem Go.aastoreV {a : Addr} {cA : ClassId} {ty : FieldType} {z j : Int32} {v : Value} {vs : List Value} {dv : Value} {i : Nat} (hd : decode bytes pc = .ok (.aastore, 1)) (hq : pc + 1 = pc') (ha : a ∈ SF) (F : Arv Z h a cA ty z vs dv) (hty : ty.isReference = true) (hft : fits ty v = true) (S : ∀ cl, Arr Z h a cl ty → cl.cls = cA → Sto Z h a v) (hj : ¬ j < 0 ∧ j < z) (hji : j.toNatClampNeg = i) (hi : i < vs.length)
    (K : ∀ h', Wr h h' a j.toNatClampNeg v → Arv Z h' a cA ty z (vs.set i v) dv → Go l Z EL n0 nr kn y bytes mL ret R h0 WS Q SF h' k n pc' Ls st) : Go l Z EL n0 nr kn y bytes mL ret R h0 WS Q SF h k n pc Ls (v :: .int j :: .ref a :: st) := by
  intro p e s m args below meth c T hR
  obtain ⟨⟨hx, hby, hml, hown, hnm, hret, hlk, hkn⟩, vm0, k0, locs, X, e0, C⟩ := hR
  have hZ : Z.Warmed39 (s.setVm vm0).vm := C.1
  have hown' : (s.setVm vm0).vm.findClass y.cls = some m.cls := by rw [show (s.setVm vm0).vm = vm0 from rfl, C.2.1.1.1.alike.findClass]; exact hown
  obtain ⟨cl, F, q1, S0, q3, H, G⟩ := F
  obtain ⟨T', h', X', e', W', st'⟩ := Jvm.RoadKit.stR X hx hZ e0 F (inb_of S0 hj) hty (S cl F q1) (g := mkF m pc Ls (v :: .int j :: .ref a :: st)) rfl rfl (hb hby hd)
  obtain ⟨t, o, hs, r⟩ := K h' W' (Arv.set F q1 S0 q3 H G hft W' i hji hi) p e s m args below meth c T' ⟨⟨hx, hby, hml, hown, hnm, hret, hlk, hkn⟩, vm0, k0, _, X', e', C.wr W' ha⟩
  exact ⟨t, o, st' _ (by subst hq; exact hs), r⟩
theorem Go.cpA {index W : Nat} {a b : Addr} {kk k' : ClassId} {ty ty' : FieldType} {z z' sp dp nn : Int32} {vs vd us : List Value} {dv dd : Value} (hd : decode bytes pc = .ok (.invokestatic index, 3)) (hq : pc + 3 = pc') (hb' : b ∈ SF) (w1 : (Jvm.Cond.methodLink y.cls index Jvm.Stand.acN).before a0 Z = true) (w2 : (Jvm.Cond.native Jvm.Stand.acN).before a0 Z = true) (w3 : (Jvm.Cond.static Jvm.Stand.acN).before a0 Z = true) (w4 : (Jvm.Cond.initialized "java/lang/System").before a0 Z = true)
    (AA : Arv Z h a kk ty z vs dv) (BB : Arv Z h b k' ty' z' vd dd) (hty : (ty = ty' ∧ refKind ty = false) ∨ (refKind ty = true ∧ refKind ty' = true ∧ StoL Z h b us)) (h1 : ¬ sp < 0) (h2 : ¬ dp < 0) (h3 : ¬ nn < 0) (h4 : sp.toNatClampNeg + nn.toNatClampNeg ≤ z.toNatClampNeg) (h5 : dp.toNatClampNeg + nn.toNatClampNeg ≤ z'.toNatClampNeg)
    (hus : us = (List.range nn.toNatClampNeg).map fun i => vs.getD (sp.toNatClampNeg + i) dv) (hvl : dp.toNatClampNeg + nn.toNatClampNeg ≤ vd.length) (hsz : Ls.size = mL) (hf : 1 ≤ R.frames) (hW : (st.map fun v => v.category).sum ≤ W) (hl : W + (nativeFrameWords "java/lang/System" "arraycopy" 5 + 11) ≤ R.locals)
    (K : ∀ h', Keep h h' [b] → Arv Z h' b k' ty' z' (vd.take dp.toNatClampNeg ++ us ++ vd.drop (dp.toNatClampNeg + nn.toNatClampNeg)) dd → Go l Z EL n0 nr kn y bytes mL ret R h0 WS Q SF h' k n pc' Ls st) : Go l Z EL n0 nr kn y bytes mL ret R h0 WS Q SF h k n pc Ls (.int nn :: .int dp :: .ref b :: .int sp :: .ref a :: st) := by
  intro p e s m args below meth c T hR
  obtain ⟨⟨hx, hby, hml, hown, hnm, hret, hlk, hkn⟩, vm0, k0, locs, X, e0, C⟩ := hR
  have hZ : Z.Warmed39 (s.setVm vm0).vm := C.1
  have hown' : (s.setVm vm0).vm.findClass y.cls = some m.cls := by rw [show (s.setVm vm0).vm = vm0 from rfl, C.2.1.1.1.alike.findClass]; exact hown
  have N := C.2.2.1
  have ge := (C.2.2.2.2.1 b hb').1.1
  obtain ⟨T', h', L, X', e', FL, KK, BB', st'⟩ := Jvm.RoadKit.cpA X hx hZ hown' w1 w2 w3 w4 e0 AA BB hty h1 h2 h3 h4 h5 hus hvl N ge (g := mkF m pc Ls (.int nn :: .int dp :: .ref b :: .int sp :: .ref a :: st)) rfl (by rw [hml]; exact hsz) rfl (hb hby hd) hf (W := W) (by show 2 * 0 + _ ≤ _; rw [Nat.mul_zero, Nat.zero_add]; exact hW) hl
  have hSb := (C.2.2.2.2.1 b hb').2
  have C' : Cor Z EL n0 nr h0 WS SF h' s vm0 k0 L := by
    have q := C.keep (SN := []) (L := []) KK (fun x hx => by cases List.mem_singleton.mp hx; exact hb') (Fr.nil n0) (CHr.keep KK (fun x hx => by cases List.mem_singleton.mp hx; exact hSb) C.2.2.2.1.1) C.1 C.2.1.1 (Nat.le_trans C.2.1.2 KK.1) C.2.2.2.2.2.1 (fun x hx => nomatch hx)
    exact ⟨q.1, q.2.1, FL, q.2.2.2⟩
  obtain ⟨t, o, hs, r⟩ := K h' KK BB' p e s m args below meth c T' ⟨⟨hx, hby, hml, hown, hnm, hret, hlk, hkn⟩, vm0, k0, L, X', e', C'⟩
  exact ⟨t, o, st' _ (by subst hq; exact hs), r⟩
theorem Go.ldcS {text : String} {index nn : Nat} {vs : List Value} {z : Int32} (hnr : nr = false) (hd : decode bytes pc = .ok (.ldc index, 2)) (hq : pc + 2 = pc') (w : (Jvm.Cond.stringLink y.cls index text).before a0 Z = true) (wS : ∀ a ∈ Bundle.stringAtoms, a.before a0 Z = true) (hmem : (y.cls, index) ∈ EL) (ht : (∀ c ∈ text.toList, c.toNat < 256) ∧ text.toList.map (fun c => Value.int (Jvm.Lit.byteI c.toNat.toUInt16)) = vs) (hz : ¬ z < 0) (hzl : z.toNatClampNeg = vs.length) (hn : 4 * text.toList.length ≤ nn) (hbig : nn ≤ 536870912) (hc : k + 2 ≤ R.cells) (hl : n + (nn + 4) ≤ R.slots)
    (K : ∀ h' a b kb, Ext h h' → Exa Z h' a "java/lang/String" → Fld Z h' a "java/lang/String" "coder" "B" (.int 0) → Fld Z h' a "java/lang/String" "value" "[B" (.ref b) → Arv Z h' b kb .byte z vs (.int 0) → (∀ x ∈ SF, x ≠ a ∧ x ≠ b) → Go l Z EL n0 nr kn y bytes mL ret R h0 WS Q SF h' (k + 2) (n + (nn + 4)) pc' Ls (.ref a :: st)) : Go l Z EL n0 nr kn y bytes mL ret R h0 WS Q SF h k n pc Ls st := by
  intro p e s m args below meth c T hR
  obtain ⟨⟨hx, hby, hml, hown, hnm, hret, hlk, hkn⟩, vm0, k0, locs, X, e0, C⟩ := hR
  have hZ : Z.Warmed39 (s.setVm vm0).vm := C.1
  have hown' : (s.setVm vm0).vm.findClass y.cls = some m.cls := by rw [show (s.setVm vm0).vm = vm0 from rfl, C.2.1.1.1.alike.findClass]; exact hown
  obtain ⟨c1, ⟨c2, c2'⟩, c3, c4, c5, c6, c7, c8, c9, a1, hEL⟩ := C
  have hEL' : EW Z a0 EL := fun q hq => by
    obtain ⟨tx, hx1, hx2⟩ := hEL q hq
    exact ⟨tx, (by simpa [Jvm.Cond.before, Jvm.Cond.holds, Jvm.Cond.value] using hx1), hx2⟩
  obtain ⟨a, T', h', k1, b, kb, X', e', E, hS, hk, hW, hf, E1, E2, E3, E4, -, -, hC, -, hne, st'⟩ := Jvm.RoadKit.ldcCH X hx c1 hown' w wS e0 c2 c2' hEL' hmem c4.1 ht hz hzl (g := mkF m pc Ls st) rfl (hb hby hd) hn hbig hc hl
  have C' : Cor Z EL n0 nr h0 WS SF h' s T'.vm k1 locs := by
    refine ⟨hW, ⟨hS, hk⟩, c3, c4.trans hC, fun x hx => ⟨⟨(c5 x hx).1.1, Nat.lt_of_lt_of_le (c5 x hx).1.2.1 E.1, (c5 x hx).1.2.2⟩, hC.safe (c5 x hx).1.2.1 (c5 x hx).2⟩, (fun q => by rw [hnr] at q; cases q), ⟨c7.1, Nat.le_trans c7.2.1 E.1, fun a c q => E.2 a c (c7.2.2 a c q)⟩, c8.ext E, c9, a1, hEL⟩
  obtain ⟨t, o, hs, r⟩ := K h' a b kb E E1 E2 E3 E4 (fun x hx => hne x (C'.2.2.2.2.1 x hx).2) p e s m args below meth c T' ⟨⟨hx, hby, hml, hown, hnm, hret, hlk, hkn⟩, T'.vm, k1, locs, X', e', C'⟩
  exact ⟨t, o, st' _ (by subst hq; exact hs), r⟩
theorem Go.ldcO {text : String} {index nn : Nat} (hnr : nr = false) (hd : decode bytes pc = .ok (.ldc index, 2)) (hq : pc + 2 = pc') (w : (Jvm.Cond.stringLink y.cls index text).before a0 Z = true) (wS : ∀ a ∈ Bundle.stringAtoms, a.before a0 Z = true) (hn : 4 * text.toList.length ≤ nn) (hbig : nn ≤ 536870912) (hc : k + 2 ≤ R.cells) (hl : n + (nn + 4) ≤ R.slots)
    (K : ∀ h' a, Ext h h' → Go l Z EL n0 nr kn y bytes mL ret R h0 WS Q SF h' (k + 2) (n + (nn + 4)) pc' Ls (.ref a :: st)) : Go l Z EL n0 nr kn y bytes mL ret R h0 WS Q SF h k n pc Ls st := by
  intro p e s m args below meth c T hR
  obtain ⟨⟨hx, hby, hml, hown, hnm, hret, hlk, hkn⟩, vm0, k0, locs, X, e0, C⟩ := hR
  have hZ : Z.Warmed39 (s.setVm vm0).vm := C.1
  have hown' : (s.setVm vm0).vm.findClass y.cls = some m.cls := by rw [show (s.setVm vm0).vm = vm0 from rfl, C.2.1.1.1.alike.findClass]; exact hown
  obtain ⟨c1, ⟨c2, c2'⟩, c3, c4, c5, c6, c7, c8, c9, a1, hEL⟩ := C
  have hEL' : EW Z a0 EL := fun q hq => by
    obtain ⟨tx, hx1, hx2⟩ := hEL q hq
    exact ⟨tx, (by simpa [Jvm.Cond.before, Jvm.Cond.holds, Jvm.Cond.value] using hx1), hx2⟩
  obtain ⟨a, T', h', k1, X', e', E, hS, hk, hW, hf, hC, -, st'⟩ := Jvm.RoadKit.ldcOH X hx c1 hown' w wS e0 c2 c2' hEL' c4.1 (g := mkF m pc Ls st) rfl (hb hby hd) hn hbig hc hl
  have C' : Cor Z EL n0 nr h0 WS SF h' s T'.vm k1 locs := by
    refine ⟨hW, ⟨hS, hk⟩, c3, c4.trans hC, fun x hx => ⟨⟨(c5 x hx).1.1, Nat.lt_of_lt_of_le (c5 x hx).1.2.1 E.1, (c5 x hx).1.2.2⟩, hC.safe (c5 x hx).1.2.1 (c5 x hx).2⟩, (fun q => by rw [hnr] at q; cases q), ⟨c7.1, Nat.le_trans c7.2.1 E.1, fun a c q => E.2 a c (c7.2.2 a c q)⟩, c8.ext E, c9, a1, hEL⟩
  obtain ⟨t, o, hs, r⟩ := K h' a E p e s m args below meth c T' ⟨⟨hx, hby, hml, hown, hnm, hret, hlk, hkn⟩, T'.vm, k1, locs, X', e', C'⟩
  exact ⟨t, o, st' _ (by subst hq; exact hs), r⟩
theorem Go.tsw {i : Int32} {dflt low high : Int} {offs : Array Int} {len : Nat} {o : Int} (hd : decode bytes pc = .ok (.tableswitch dflt low high offs, len)) (hin : ¬ (i.toInt < low ∨ i.toInt > high)) (hoff : offs[(i.toInt - low).toNat]? = some o) (ho : 0 ≤ (pc : Int) + o) (hq : ((pc : Int) + o).toNat = pc') (K : Go l Z EL n0 nr kn y bytes mL ret R h0 WS Q SF h k n pc' Ls st) : Go l Z EL n0 nr kn y bytes mL ret R h0 WS Q SF h k n pc Ls (.int i :: st) :=
  Go.plain (fun p e below T m c target hA hx hb hk => XS.tswIn hA hx rfl (pc0 := pc) (pc' := pc') rfl (hb ▸ hd) rfl hin hoff ho hq hk) K
theorem Go.retV (hd : decode bytes pc = .ok (.return_, 1)) (hr0 : ret = none) (hk : k ≤ R.cells) (hn : n ≤ R.slots) (SN : List Addr) (hSN : ∀ x ∈ SN, x ∈ SF ∧ h0.size ≤ x) (hQ : Q none h SN) : Go l Z EL n0 nr kn y bytes mL ret R h0 WS Q SF h k n pc Ls [] := by
  intro p e s m args below meth c T hR
  obtain ⟨⟨hx, hby, hml, hown, hnm, hret, hlk, hkn⟩, vm0, k0, locs, X, e0, C⟩ := hR
  have hZ : Z.Warmed39 (s.setVm vm0).vm := C.1
  have hown' : (s.setVm vm0).vm.findClass y.cls = some m.cls := by rw [show (s.setVm vm0).vm = vm0 from rfl, C.2.1.1.1.alike.findClass]; exact hown
  obtain ⟨c1, ⟨c2, c2'⟩, c3, c4, c5, c6, c7, c8, c9, a1, hEL⟩ := C
  obtain ⟨fs, hr, hrun, hended, hE⟩ := X.leaveW c2 (by rw [e0]; exact c2') (v := none) (fun _ => rfl) hlk
  have A1 := CHv.at X c1 hEL c4.1
  refine ⟨_, _, X.returnOut hx (hret.trans hr0) (hb hby hd) hr, hrun, hended, _, locs, SN, rfl, by show Q _ T.heap SN; rw [e0]; exact hQ, c3, by show Keep h0 T.heap WS; rw [e0]; exact c8, fun x hx => ?_, ?_, fun q => State.WarmedH.trans (t := s.setVm vm0) (c6 q) X.warmed, ⟨hE.1, hE.2.1, hE.2.2.1, hE.2.2.2.mono hk hn⟩⟩
  · show (h0.size ≤ x ∧ x < T.heap.size) ∧ Safe Z EL T.vm T.heap x
    rw [e0]
    exact ⟨⟨(hSN x hx).2, (c5 x (hSN x hx).1).1.2.1⟩, A1.safe (c5 x (hSN x hx).1).1.2.1 (c5 x (hSN x hx).1).2⟩
  · show CHr Z EL s.vm h0 T.vm T.heap
    rw [e0]
    exact c4.trans A1
theorem Go.retW {v : Value} {ty : FieldType} {i : Instr} (hd : decode bytes pc = .ok (i, 1)) (hr0 : ret = some ty) (hnw : narrow ty v = v) (hi : (i = .ireturn ∧ (ty = .int ∨ ty = .boolean ∨ ty = .byte ∨ ty = .char ∨ ty = .short) ∧ ∃ z, v = .int z) ∨ (i = .lreturn ∧ ty = .long ∧ ∃ z, v = .long z) ∨ (i = .dreturn ∧ ty = .double ∧ ∃ z, v = .double z) ∨ (i = .freturn ∧ ty = .float ∧ ∃ z, v = .float z) ∨ (i = .areturn ∧ ty.isReference = true ∧ v.isRef = true)) (hk : k ≤ R.cells) (hn : n ≤ R.slots) (SN : List Addr) (hSN : ∀ x ∈ SN, x ∈ SF ∧ h0.size ≤ x) (hQ : Q (some v) h SN) : Go l Z EL n0 nr kn y bytes mL ret R h0 WS Q SF h k n pc Ls (v :: st) := by
  intro p e s m args below meth c T hR
  obtain ⟨⟨hx, hby, hml, hown, hnm, hret, hlk, hkn⟩, vm0, k0, locs, X, e0, C⟩ := hR
  have hZ : Z.Warmed39 (s.setVm vm0).vm := C.1
  have hown' : (s.setVm vm0).vm.findClass y.cls = some m.cls := by rw [show (s.setVm vm0).vm = vm0 from rfl, C.2.1.1.1.alike.findClass]; exact hown
  obtain ⟨c1, ⟨c2, c2'⟩, c3, c4, c5, c6, c7, c8, c9, a1, hEL⟩ := C
  obtain ⟨fs, hr, hrun, hended, hE⟩ := X.leaveW c2 (by rw [e0]; exact c2') (v := some v) (fun q => by rw [hret, hr0] at q; cases q) hlk
  have A1 := CHv.at X c1 hEL c4.1
  refine ⟨_, _, Jvm.RoadKit.retOut X hx (hret.trans hr0) hnw hi (hb hby hd) hr, hrun, hended, _, locs, SN, rfl, by show Q _ T.heap SN; rw [e0]; exact hQ, c3, by show Keep h0 T.heap WS; rw [e0]; exact c8, fun x hx => ?_, ?_, fun q => State.WarmedH.trans (t := s.setVm vm0) (c6 q) X.warmed, ⟨hE.1, hE.2.1, hE.2.2.1, hE.2.2.2.mono hk hn⟩⟩
  · show (h0.size ≤ x ∧ x < T.heap.size) ∧ Safe Z EL T.vm T.heap x
    rw [e0]
    exact ⟨⟨(hSN x hx).2, (c5 x (hSN x hx).1).1.2.1⟩, A1.safe (c5 x (hSN x hx).1).1.2.1 (c5 x (hSN x hx).1).2⟩
  · show CHr Z EL s.vm h0 T.vm T.heap
    rw [e0]
    exact c4.trans A1
theorem Go.retI {z : Int32} (hd : decode bytes pc = .ok (.ireturn, 1)) (hr0 : ret = some .int) (hk : k ≤ R.cells) (hn : n ≤ R.slots) (SN : List Addr) (hSN : ∀ x ∈ SN, x ∈ SF ∧ h0.size ≤ x) (hQ : Q (some (.int z)) h SN) : Go l Z EL n0 nr kn y bytes mL ret R h0 WS Q SF h k n pc Ls (.int z :: st) :=
  Go.retW hd hr0 rfl (Or.inl ⟨rfl, Or.inl rfl, z, rfl⟩) hk hn SN hSN hQ
theorem Go.retA {v : Value} {ty : FieldType} (hd : decode bytes pc = .ok (.areturn, 1)) (hr0 : ret = some ty) (hty : ty.isReference = true) (hv : v.isRef = true) (hk : k ≤ R.cells) (hn : n ≤ R.slots) (SN : List Addr) (hSN : ∀ x ∈ SN, x ∈ SF ∧ h0.size ≤ x) (hQ : Q (some v) h SN) : Go l Z EL n0 nr kn y bytes mL ret R h0 WS Q SF h k n pc Ls (v :: st) :=
  Go.retW hd hr0 (by cases ty <;> first | (cases hty; done) | (rcases ref_cases hv with rfl | ⟨a, rfl⟩ <;> rfl)) (Or.inr (Or.inr (Or.inr (Or.inr ⟨rfl, hty, hv⟩)))) hk hn SN hSN hQ
theorem Go.retS {z : Int32} {ty : FieldType} (hd : decode bytes pc = .ok (.ireturn, 1)) (hr0 : ret = some ty) (hty : ty = .boolean ∨ ty = .byte ∨ ty = .char ∨ ty = .short) (hnw : narrow ty (.int z) = .int z) (hk : k ≤ R.cells) (hn : n ≤ R.slots) (SN : List Addr) (hSN : ∀ x ∈ SN, x ∈ SF ∧ h0.size ≤ x) (hQ : Q (some (.int z)) h SN) : Go l Z EL n0 nr kn y bytes mL ret R h0 WS Q SF h k n pc Ls (.int z :: st) :=
  Go.retW hd hr0 hnw (Or.inl ⟨rfl, Or.inr hty, z, rfl⟩) hk hn SN hSN hQ
theorem Met.of_go {as' : Array Value} (hpl : plainFor y = true) (hef : ∀ m, entryFrame m as' mL = mkF m 0 Ls []) (G : (Z.heap.size = n0 ∧ Ext Z.heap h0) → (∀ x ∈ WS, n0 ≤ x ∧ x < h0.size) → Go l Z EL n0 nr kn y bytes mL ret R h0 WS Q WS h0 0 0 0 Ls []) : Met l Z EL n0 nr kn y bytes mL ret R WS as' h0 Q := by
  intro ws
  refine MetFree.of_bodySF hpl hisR ?_
  intro p e s m args below meth c s₁ Bd hml0 hP hK
  obtain ⟨rfl, hZ, hh, hC, hS, hO, hEL⟩ := hP
  have X0 : Stand p l e R s m args below meth c s₁ [] 0 0 := Stand.of_body Bd
  have e0 : s₁.heap = h0 := by rw [← hh, Bd.state]; rfl
  have hnm := (name_of_methodNamed Bd.named Bd.method).1
  rw [hef m]
  exact G hO (fun x hx => (hS x hx).1) p e s m args below meth c s₁ ⟨⟨Bd.exec, Bd.bytes, hml0, findClass_of_methodNamed Bd.named, hnm, Bd.returns, BodyLoose.notSynchronized Bd, hK⟩, s.vm, 0, [], X0, e0,
    hZ, ⟨(State.WarmedH.refl s).since 0, Nat.zero_le _⟩, Fr.nil n0, CHr.refl hC, fun x hx => ⟨⟨(hS x hx).1.1, (hS x hx).1.2, Or.inl hx⟩, (hS x hx).2⟩, fun _ => State.WarmedH.refl s, hO, Keep.refl _ _, hh, hEL⟩
theorem Pays.of_met {z : MethodName} {zb : ByteArray} {zL : Nat} {zr : Option FieldType} {rm : Room} {len W : Nat} {ws : List Addr} {as' : Array Value} {Q' : Option Value → Heap → List Addr → Prop} (M : Met l Z EL n0 nr kn z zb zL zr rm ws as' h Q') (wc : (Jvm.Cond.code z zb zL zr).before a0 Z = true) (wz : (Jvm.Cond.initialized z.cls).before a0 Z = true) (hf : rm.frames + 1 ≤ R.frames) (hl : W + (zL + 11) + rm.locals ≤ R.locals) :
    Pays l Z EL n0 nr kn R len z W rm.cells rm.slots ws as' h Q' := by
  intro p e below s args vm0 hx hZ hC hS hO hEL hkn
  obtain ⟨a1, hE1⟩ := hEL
  refine BackS.of_freeWG (bytes := zb) (maxL := zL) (ret := zr) (E := fun _ first o t L kk nn => kk = rm.cells ∧ nn = rm.slots ∧ ∃ v SN, o = .returned v ∧ Q' v t.heap SN ∧ Fr n0 L ∧ Keep h t.heap ws ∧ (∀ x ∈ SN, (h.size ≤ x ∧ x < t.heap.size) ∧ Safe Z EL t.vm t.heap x) ∧ CHr Z EL first.vm h t.vm t.heap ∧ (nr = true → first.WarmedH t.vm)) (M []) hf hl ?_ ?_ ?_ ?_ ?_
  · intro m meth c A a Y hp
    have hU : Z.Warmed39 A.U.vm := wtrans (s := s.setVm vm0) hZ Y.warmed
    exact ⟨by show (Jvm.Cond.and _ .tt).before a A.U = true; rw [Cond.before_and, mv hU wc]; rfl, mv hU wc, mv hU wz, hp.2.2.1, hp.2.2.2⟩
  · intro m meth c A a g mk Y hp
    have A1 := CHv.at Y hZ hE1 hC
    exact ⟨hp.1, wtrans (s := s.setVm vm0) hZ Y.warmed, hp.2.1, A1.1, fun x hx => ⟨(hS x hx).1, A1.safe (hS x hx).1.2 (hS x hx).2⟩, hO, a1, hE1⟩
  · intro m meth c A a g mk Y hp hg q
    exact known_frames Y hg (hkn q).1 (hkn q).2
  · rintro a first o t ⟨v, L, SN, h1, h2, h3, h4, h5, h6, h7, h8⟩
    exact ⟨L, _, _, h8, rfl, rfl, v, SN, h1, h2, h3, h4, h5, h6, h7⟩
  · rintro m meth c A a g mk v t L kk nn Y hp - - ⟨e1, e2, v', SN, e3, e4, e5, e6, e7, e8, e9⟩
    cases e3
    subst e1 e2
    exact ⟨L, SN, e4, e5, e6, e7, (CHv.at Y hZ hE1 hC).trans e8, fun q => State.WarmedH.trans (t := A.U) Y.warmed (e9 q), rfl, rfl, rfl⟩
theorem Pays.of_back {z : MethodName} {len W ck cn : Nat} {ws : List Addr} {as' : Array Value} {Q' : Option Value → Heap → List Addr → Prop}
    (B : ∀ (p : Program) (e : Env) (below : List Frame) (s : State) (args : Array Value), p.tables.exec = Jvm.exec → Z.Warmed39 s.vm → (Z.heap.size = n0 ∧ Ext Z.heap h) → (∀ x ∈ ws, n0 ≤ x ∧ x < h.size) → Back l R p e below s args z len W (fun A a => a = as' ∧ A.U.heap = h ∧ A.cells + ck ≤ R.cells ∧ A.slots + cn ≤ R.slots) (fun A _ v B => ∃ L, Q' v B.U.heap [] ∧ Fr n0 L ∧ Keep h B.U.heap ws ∧ B.locs = A.locs ++ L ∧ B.cells = A.cells + ck ∧ B.slots = A.slots + cn)) :
    Pays l Z EL n0 nr kn R len z W ck cn ws as' h Q' := by
  intro p e below s args vm0 hx hZ hC hS hO hEL hkn
  obtain ⟨a1, hE1⟩ := hEL
  intro m meth c A g ig mk a X hg hsize hdg hW hn hp
  obtain ⟨v, B', X', ⟨L, q1, q2, q3, q4, q5, q6⟩, hst⟩ := B p e below (s.setVm vm0) args hx hZ hO (fun x hx => (hS x hx).1) m meth c A g ig mk a X hg hsize hdg hW hn hp
  have A1 : CHr Z EL vm0 h vm0 B'.U.heap := CHr.keep q3 (fun x hx => (hS x hx).2) hC
  have A2 := CHv.at X' hZ hE1 A1.1
  exact ⟨v, B', X'.retabled X'.warmed.wide, X'.warmed.since _, by rw [hp.2.1]; exact q3.1, ⟨L, [], q1, q2, q3, fun x hx => (nomatch hx), A1.trans A2, fun _ => X'.warmed, q4, q5, q6⟩, hst⟩
theorem Go.after {p : Program} {e : Env} {m : MethodId} {args : Array Value} {below : List Frame} {meth : Method} {c : Code} {T : State} {len ck cn : Nat} {ws : List Addr} {as' : Array Value} {Q' : Option Value → Heap → List Addr → Prop} {s₀ : State}
    (hA : p.tables.exec = Jvm.exec ∧ c.code = bytes ∧ c.maxLocals = mL ∧ s.vm.findClass y.cls = some m.cls ∧ meth.name = y.name ∧ meth.sig.returnType = ret ∧ meth.locks = false ∧ (kn = true → s.vm.MethodsKnown ∧ s.vm.FramesKnown below)) (e0 : T.heap = h) (C : Cor Z EL n0 nr h0 WS SF h s vm0 k0 locs) (hws : ∀ x ∈ ws, x ∈ SF)
    (H : ∃ (v : Option Value) (vm₁ : Vm) (B : Pt), (s.setVm vm0).WarmedH vm₁ ∧ Stand p l e R ((s.setVm vm0).setVm B.U.vm) m args below meth c B.U B.locs B.cells B.slots ∧ (s.setVm vm0).Since B.U.vm B.U.heap.size ∧ T.heap.size ≤ B.U.heap.size ∧ (∃ L SN, Q' v B.U.heap SN ∧ Fr n0 L ∧ Keep h B.U.heap ws ∧ (∀ x ∈ SN, (h.size ≤ x ∧ x < B.U.heap.size) ∧ Safe Z EL B.U.vm B.U.heap x) ∧ CHr Z EL vm0 h B.U.vm B.U.heap ∧ (nr = true → (s.setVm vm0).WarmedH B.U.vm) ∧ B.locs = locs ++ L ∧ B.cells = k + ck ∧ B.slots = n + cn) ∧
      Steps p.tables e below s₀ (B.U.setTop { mkF m pc Ls st with pc := pc + len, stack := v.toList ++ rest }))
    (hq : pc + len = pc') (K : ∀ v h' SN, Keep h h' ws → h0.size ≤ h.size → Q' v h' SN → Go l Z EL n0 nr kn y bytes mL ret R h0 WS Q (SN ++ SF) h' (k + ck) (n + cn) pc' Ls (v.toList ++ rest)) : ∃ t o, Steps p.tables e below s₀ t ∧ t.status = .running ∧ Ended t below o ∧ Pst Z EL n0 nr R h0 WS Q s o t := by
  obtain ⟨v, vm₁, ⟨T', L', kk, nn⟩, -, X', hS, hle, ⟨L, SN, h1, h2, h3, h4, h5, h6, h7, h8, h9⟩, hst⟩ := H
  dsimp only [Pt.U, Pt.locs, Pt.cells, Pt.slots] at X' hS hle h1 h3 h4 h5 h6 h7 h8 h9 hst
  subst h7 h8 h9 hq
  obtain ⟨t, o, hs, r⟩ := K v T'.heap SN h3 C.2.2.2.2.2.2.2.1.1 h1 p e s m args below meth c T' ⟨hA, T'.vm, T'.heap.size, _, X', rfl, C.keep h3 hws h2 h5 (State.Warmed39.trans (t := s.setVm vm0) C.1 hS.1) (C.2.1.1.trans hS (Nat.le_trans C.2.1.2 h3.1)) (Nat.le_refl _) (fun q => State.WarmedH.trans (t := s.setVm vm0) (C.2.2.2.2.2.1 q) (h6 q)) h4⟩
  exact ⟨t, o, hst.trans hs, r⟩
theorem Go.callS {ck cn W : Nat} {ws : List Addr} {as' : Array Value} {Q' : Option Value → Heap → List Addr → Prop} {index : Nat} {z : MethodName} {zb : ByteArray} {zL : Nat} {zr : Option FieldType} {argsL : List Value} (hd : decode bytes pc = .ok (.invokestatic index, 3)) (hq : pc + 3 = pc') (w1 : (Jvm.Cond.methodLink y.cls index z).before a0 Z = true) (w2 : (Jvm.Cond.static z).before a0 Z = true) (w3 : (Jvm.Cond.initialized z.cls).before a0 Z = true) (w4 : (Jvm.Cond.code z zb zL zr).before a0 Z = true) (hy : z.cls ≠ "java/lang/invoke/MethodHandle" ∧ z.cls ≠ "java/lang/invoke/VarHandle") (PP : Pays l Z EL n0 nr kn R 3 z W ck cn ws as' h Q') (hsz : Ls.size = mL) (hst : st = argsL.reverse ++ rest) (hlen : ∀ sig, parseMethodDescriptor z.desc = some sig → argsL.length = sig.parameters.length) (has : argsL.toArray = as') (hW : (rest.map fun v => v.category).sum ≤ W) (hws : ∀ x ∈ ws, x ∈ SF) (hc : k + ck ≤ R.cells) (hl : n + cn ≤ R.slots)
    (K : ∀ v h' SN, Keep h h' ws → h0.size ≤ h.size → Q' v h' SN → Go l Z EL n0 nr kn y bytes mL ret R h0 WS Q (SN ++ SF) h' (k + ck) (n + cn) pc' Ls (v.toList ++ rest)) : Go l Z EL n0 nr kn y bytes mL ret R h0 WS Q SF h k n pc Ls st := by
  intro p e s m args below meth c T hR
  obtain ⟨⟨hx, hby, hml, hown, hnm, hret, hlk, hkn⟩, vm0, k0, locs, X, e0, C⟩ := hR
  have hZ : Z.Warmed39 (s.setVm vm0).vm := C.1
  have hown' : (s.setVm vm0).vm.findClass y.cls = some m.cls := by rw [show (s.setVm vm0).vm = vm0 from rfl, C.2.1.1.1.alike.findClass]; exact hown
  have hBK := PP p e below s args vm0 hx C.1 C.2.2.2.1.1 (fun x hx => ⟨⟨(C.2.2.2.2.1 x (hws x hx)).1.1, (C.2.2.2.2.1 x (hws x hx)).1.2.1⟩, (C.2.2.2.2.1 x (hws x hx)).2⟩) C.2.2.2.2.2.2.1 C.2.2.2.2.2.2.2.2.2 (fun q => ⟨Vm.MethodsKnown.alikeC C.2.1.1.1.alike (hkn q).1, Vm.FramesKnown.alikeC C.2.1.1.1.alike (hkn q).2⟩)
  refine Go.after (st := st) (args := args) (ck := ck) (cn := cn) (ws := ws) (as' := as') (Q' := Q') (rest := rest) ⟨hx, hby, hml, hown, hnm, hret, hlk, hkn⟩ e0 C hws ?_ hq K
  exact callSS X hx (y := z) hown' (mvT hZ w1) (mvT hZ w2) (mvT hZ w3) (mvT hZ w4) hy hBK (g := mkF m pc Ls st) rfl (by rw [hml]; exact hsz) (argsL := argsL) (rest := rest) hlen hst (by show 2 * 0 + _ ≤ _; rw [Nat.mul_zero, Nat.zero_add]; exact hW) (hb hby hd) (fun _ _ => ⟨has, e0, hc, hl⟩)
theorem Go.callI {ck cn W : Nat} {ws : List Addr} {as' : Array Value} {Q' : Option Value → Heap → List Addr → Prop} {index : Nat} {z : MethodName} {zb : ByteArray} {zL : Nat} {a : Addr} {argsL : List Value} (hd : decode bytes pc = .ok (.invokespecial index, 3)) (hq : pc + 3 = pc') (hi : z.name = "<init>") (w1 : (Jvm.Cond.methodLink y.cls index z).before a0 Z = true) (w2 : (Jvm.Cond.instanceMethod z).before a0 Z = true) (w4 : (Jvm.Cond.code z zb zL none).before a0 Z = true) (hy : z.cls ≠ "java/lang/invoke/MethodHandle" ∧ z.cls ≠ "java/lang/invoke/VarHandle") (PP : Pays l Z EL n0 nr kn R 3 z W ck cn ws as' h Q') (hsz : Ls.size = mL) (hst : st = argsL.reverse ++ .ref a :: rest) (hlen : ∀ sig, parseMethodDescriptor z.desc = some sig → argsL.length = sig.parameters.length) (has : (.ref a :: argsL).toArray = as') (hW : (rest.map fun v => v.category).sum ≤ W) (hws : ∀ x ∈ ws, x ∈ SF) (hc : k + ck ≤ R.cells) (hl : n + cn ≤ R.slots)
    (K : ∀ v h' SN, Keep h h' ws → h0.size ≤ h.size → Q' v h' SN → Go l Z EL n0 nr kn y bytes mL ret R h0 WS Q (SN ++ SF) h' (k + ck) (n + cn) pc' Ls (v.toList ++ rest)) : Go l Z EL n0 nr kn y bytes mL ret R h0 WS Q SF h k n pc Ls st := by
  intro p e s m args below meth c T hR
  obtain ⟨⟨hx, hby, hml, hown, hnm, hret, hlk, hkn⟩, vm0, k0, locs, X, e0, C⟩ := hR
  have hZ : Z.Warmed39 (s.setVm vm0).vm := C.1
  have hown' : (s.setVm vm0).vm.findClass y.cls = some m.cls := by rw [show (s.setVm vm0).vm = vm0 from rfl, C.2.1.1.1.alike.findClass]; exact hown
  have hBK := PP p e below s args vm0 hx C.1 C.2.2.2.1.1 (fun x hx => ⟨⟨(C.2.2.2.2.1 x (hws x hx)).1.1, (C.2.2.2.2.1 x (hws x hx)).1.2.1⟩, (C.2.2.2.2.1 x (hws x hx)).2⟩) C.2.2.2.2.2.2.1 C.2.2.2.2.2.2.2.2.2 (fun q => ⟨Vm.MethodsKnown.alikeC C.2.1.1.1.alike (hkn q).1, Vm.FramesKnown.alikeC C.2.1.1.1.alike (hkn q).2⟩)
  refine Go.after (st := st) (args := args) (ck := ck) (cn := cn) (ws := ws) (as' := as') (Q' := Q') (rest := rest) ⟨hx, hby, hml, hown, hnm, hret, hlk, hkn⟩ e0 C hws ?_ hq K
  exact X.specialBackS hx (y := z) hi hown' (mvT hZ w1) (mvT hZ w2) (mvT hZ w4) hy hBK (g := mkF m pc Ls st) rfl (by rw [hml]; exact hsz) (Steps.refl _) (a := a) (argsL := argsL) (rest := rest) hlen hst (by show 2 * 0 + _ ≤ _; rw [Nat.mul_zero, Nat.zero_add]; exact hW) (hb hby hd) (fun _ _ => ⟨has, e0, hc, hl⟩)
theorem Go.callV {ck cn W : Nat} {ws : List Addr} {as' : Array Value} {Q' : Option Value → Heap → List Addr → Prop} {index : Nat} {u z : MethodName} {CC : String} {a : Addr} {argsL : List Value} (hd : decode bytes pc = .ok (.invokevirtual index, 3)) (hq : pc + 3 = pc') (w1 : (Jvm.Cond.methodLink y.cls index u).before a0 Z = true) (w2 : (Jvm.Cond.declares u).before a0 Z = true) (hnf : ∀ (s : State), Z.Warmed39 s.vm → NotFace s u) (w3 : (Jvm.Cond.selects CC u z).before a0 Z = true) (w4 : (Jvm.Cond.instanceMethod z).before a0 Z = true) (hy : u.cls ≠ "java/lang/invoke/MethodHandle" ∧ u.cls ≠ "java/lang/invoke/VarHandle") (E : Exa Z h a CC) (PP : Pays l Z EL n0 nr kn R 3 z W ck cn ws as' h Q') (hsz : Ls.size = mL) (hst : st = argsL.reverse ++ .ref a :: rest) (hlen : ∀ sig, parseMethodDescriptor u.desc = some sig → argsL.length = sig.parameters.length) (has : (.ref a :: argsL).toArray = as') (hW : (rest.map fun v => v.category).sum ≤ W) (hws : ∀ x ∈ ws, x ∈ SF) (hc : k + ck ≤ R.cells) (hl : n + cn ≤ R.slots)
    (K : ∀ v h' SN, Keep h h' ws → h0.size ≤ h.size → Q' v h' SN → Go l Z EL n0 nr kn y bytes mL ret R h0 WS Q (SN ++ SF) h' (k + ck) (n + cn) pc' Ls (v.toList ++ rest)) : Go l Z EL n0 nr kn y bytes mL ret R h0 WS Q SF h k n pc Ls st := by
  intro p e s m args below meth c T hR
  obtain ⟨⟨hx, hby, hml, hown, hnm, hret, hlk, hkn⟩, vm0, k0, locs, X, e0, C⟩ := hR
  have hZ : Z.Warmed39 (s.setVm vm0).vm := C.1
  have hown' : (s.setVm vm0).vm.findClass y.cls = some m.cls := by rw [show (s.setVm vm0).vm = vm0 from rfl, C.2.1.1.1.alike.findClass]; exact hown
  have hBK := PP p e below s args vm0 hx C.1 C.2.2.2.1.1 (fun x hx => ⟨⟨(C.2.2.2.2.1 x (hws x hx)).1.1, (C.2.2.2.2.1 x (hws x hx)).1.2.1⟩, (C.2.2.2.2.1 x (hws x hx)).2⟩) C.2.2.2.2.2.2.1 C.2.2.2.2.2.2.2.2.2 (fun q => ⟨Vm.MethodsKnown.alikeC C.2.1.1.1.alike (hkn q).1, Vm.FramesKnown.alikeC C.2.1.1.1.alike (hkn q).2⟩)
  obtain ⟨cB, kB, qa, qb, qc⟩ := isOf hZ e0 E
  refine Go.after (st := st) (args := args) (ck := ck) (cn := cn) (ws := ws) (as' := as') (Q' := Q') (rest := rest) ⟨hx, hby, hml, hown, hnm, hret, hlk, hkn⟩ e0 C hws ?_ hq K
  exact X.virtualBackS hx (y := u) (z := z) hown' (mvT hZ w1) (mvT hZ w2) (hnf _ hZ) (mvT hZ w3) (mvT hZ w4) hy hBK qa qc (g := mkF m pc Ls st) rfl (by rw [hml]; exact hsz) (Steps.refl _) (argsL := argsL) (rest := rest) hlen hst (by show 2 * 0 + _ ≤ _; rw [Nat.mul_zero, Nat.zero_add]; exact hW) (hb hby hd) (fun _ _ => ⟨has, e0, hc, hl⟩)
theorem Go.callU {ck cn W : Nat} {ws : List Addr} {as' : Array Value} {Q' : Option Value → Heap → List Addr → Prop} {index : Nat} {u z : MethodName} {CC owner : String} {a : Addr} {argsL : List Value} (hd : decode bytes pc = .ok (.invokevirtual index, 3)) (hq : pc + 3 = pc') (w1 : (Jvm.Cond.methodLink y.cls index u).before a0 Z = true) (w5 : (Jvm.Cond.sameMethod u.cls owner u.name u.desc).before a0 Z = true) (w2 : (Jvm.Cond.declares ⟨owner, u.name, u.desc⟩).before a0 Z = true) (ho : owner ≠ "java/lang/invoke/MethodHandle" ∧ owner ≠ "java/lang/invoke/VarHandle") (w3 : (Jvm.Cond.selects CC u z).before a0 Z = true) (w4 : (Jvm.Cond.instanceMethod z).before a0 Z = true) (E : Exa Z h a CC) (PP : Pays l Z EL n0 nr kn R 3 z W ck cn ws as' h Q') (hsz : Ls.size = mL) (hst : st = argsL.reverse ++ .ref a :: rest) (hlen : ∀ sig, parseMethodDescriptor u.desc = some sig → argsL.length = sig.parameters.length) (has : (.ref a :: argsL).toArray = as') (hW : (rest.map fun v => v.category).sum ≤ W) (hws : ∀ x ∈ ws, x ∈ SF) (hc : k + ck ≤ R.cells) (hl : n + cn ≤ R.slots)
    (K : ∀ v h' SN, Keep h h' ws → h0.size ≤ h.size → Q' v h' SN → Go l Z EL n0 nr kn y bytes mL ret R h0 WS Q (SN ++ SF) h' (k + ck) (n + cn) pc' Ls (v.toList ++ rest)) : Go l Z EL n0 nr kn y bytes mL ret R h0 WS Q SF h k n pc Ls st := by
  intro p e s m args below meth c T hR
  obtain ⟨⟨hx, hby, hml, hown, hnm, hret, hlk, hkn⟩, vm0, k0, locs, X, e0, C⟩ := hR
  have hZ : Z.Warmed39 (s.setVm vm0).vm := C.1
  have hown' : (s.setVm vm0).vm.findClass y.cls = some m.cls := by rw [show (s.setVm vm0).vm = vm0 from rfl, C.2.1.1.1.alike.findClass]; exact hown
  have hBK := PP p e below s args vm0 hx C.1 C.2.2.2.1.1 (fun x hx => ⟨⟨(C.2.2.2.2.1 x (hws x hx)).1.1, (C.2.2.2.2.1 x (hws x hx)).1.2.1⟩, (C.2.2.2.2.1 x (hws x hx)).2⟩) C.2.2.2.2.2.2.1 C.2.2.2.2.2.2.2.2.2 (fun q => ⟨Vm.MethodsKnown.alikeC C.2.1.1.1.alike (hkn q).1, Vm.FramesKnown.alikeC C.2.1.1.1.alike (hkn q).2⟩)
  obtain ⟨cB, kB, qa, qb, qc⟩ := isOf hZ e0 E
  refine Go.after (st := st) (args := args) (ck := ck) (cn := cn) (ws := ws) (as' := as') (Q' := Q') (rest := rest) ⟨hx, hby, hml, hown, hnm, hret, hlk, hkn⟩ e0 C hws ?_ hq K
  exact X.virtualBackUpS hx (x := u) (y := z) (owner := owner) hown' (mvT hZ w1) (mvT hZ w5) (mvT hZ w2) ho (mvT hZ w3) (mvT hZ w4) hBK qa qc (g := mkF m pc Ls st) rfl (by rw [hml]; exact hsz) (Steps.refl _) (argsL := argsL) (rest := rest) hlen hst (by show 2 * 0 + _ ≤ _; rw [Nat.mul_zero, Nat.zero_add]; exact hW) (hb hby hd) (fun _ _ => ⟨has, e0, hc, hl⟩)
theorem Go.callF {ck cn W : Nat} {ws : List Addr} {as' : Array Value} {Q' : Option Value → Heap → List Addr → Prop} {index count : Nat} {u z : MethodName} {CC : String} {a : Addr} {argsL : List Value} (hd : decode bytes pc = .ok (.invokeinterface index count, 5)) (hq : pc + 5 = pc') (w1 : (Jvm.Cond.methodLink y.cls index u).before a0 Z = true) (w2 : (Jvm.Cond.declares u).before a0 Z = true) (w5 : (Jvm.Cond.interfaceMethod u.cls u.cls u.name u.desc).before a0 Z = true) (w3 : (Jvm.Cond.selects CC u z).before a0 Z = true) (w4 : (Jvm.Cond.instanceMethod z).before a0 Z = true) (w6 : (Jvm.Cond.publicMethod z).before a0 Z = true) (w7 : (Jvm.Cond.unhidden CC u.name u.desc).before a0 Z = true) (w8 : (Jvm.Cond.castable CC u.cls).before a0 Z = true) (hy : u.cls ≠ "java/lang/invoke/MethodHandle" ∧ u.cls ≠ "java/lang/invoke/VarHandle") (E : Exa Z h a CC) (PP : Pays l Z EL n0 nr kn R 5 z W ck cn ws as' h Q') (hsz : Ls.size = mL) (hst : st = argsL.reverse ++ .ref a :: rest) (hlen : ∀ sig, parseMethodDescriptor u.desc = some sig → argsL.length = sig.parameters.length) (has : (.ref a :: argsL).toArray = as') (hW : (rest.map fun v => v.category).sum ≤ W) (hws : ∀ x ∈ ws, x ∈ SF) (hc : k + ck ≤ R.cells) (hl : n + cn ≤ R.slots)
    (K : ∀ v h' SN, Keep h h' ws → h0.size ≤ h.size → Q' v h' SN → Go l Z EL n0 nr kn y bytes mL ret R h0 WS Q (SN ++ SF) h' (k + ck) (n + cn) pc' Ls (v.toList ++ rest)) : Go l Z EL n0 nr kn y bytes mL ret R h0 WS Q SF h k n pc Ls st := by
  intro p e s m args below meth c T hR
  obtain ⟨⟨hx, hby, hml, hown, hnm, hret, hlk, hkn⟩, vm0, k0, locs, X, e0, C⟩ := hR
  have hZ : Z.Warmed39 (s.setVm vm0).vm := C.1
  have hown' : (s.setVm vm0).vm.findClass y.cls = some m.cls := by rw [show (s.setVm vm0).vm = vm0 from rfl, C.2.1.1.1.alike.findClass]; exact hown
  have hBK := PP p e below s args vm0 hx C.1 C.2.2.2.1.1 (fun x hx => ⟨⟨(C.2.2.2.2.1 x (hws x hx)).1.1, (C.2.2.2.2.1 x (hws x hx)).1.2.1⟩, (C.2.2.2.2.1 x (hws x hx)).2⟩) C.2.2.2.2.2.2.1 C.2.2.2.2.2.2.2.2.2 (fun q => ⟨Vm.MethodsKnown.alikeC C.2.1.1.1.alike (hkn q).1, Vm.FramesKnown.alikeC C.2.1.1.1.alike (hkn q).2⟩)
  obtain ⟨cB, kB, qa, qb, qc⟩ := isOf hZ e0 E
  refine Go.after (st := st) (args := args) (ck := ck) (cn := cn) (ws := ws) (as' := as') (Q' := Q') (rest := rest) ⟨hx, hby, hml, hown, hnm, hret, hlk, hkn⟩ e0 C hws ?_ hq K
  exact X.interfaceBackS hx (xi := u) (y := z) hown' (mvT hZ w1) (mvT hZ w2) (mvT hZ w5 (by simp [Cond.onTables, Cond.keepsFace, Cond.keeps, Cond.steady, Cond.faceAtom]; exact hy)) (mvT hZ w3) (mvT hZ w4) (mvT hZ w6) (mvT hZ w7) (mvT hZ w8) hy hBK qa qb qc (g := mkF m pc Ls st) rfl (by rw [hml]; exact hsz) (Steps.refl _) (argsL := argsL) (rest := rest) hlen hst (by show 2 * 0 + _ ≤ _; rw [Nat.mul_zero, Nat.zero_add]; exact hW) (hb hby hd) (fun _ _ => ⟨has, e0, hc, hl⟩)
theorem Go.callP {ck cn W : Nat} {ws : List Addr} {as' : Array Value} {Q' : Option Value → Heap → List Addr → Prop} {index : Nat} {z : MethodName} {zb : ByteArray} {zL : Nat} {zr : Option FieldType} {CC : String} {a : Addr} {argsL : List Value} (hd : decode bytes pc = .ok (.invokevirtual index, 3)) (hq : pc + 3 = pc') (w1 : (Jvm.Cond.methodLink y.cls index z).before a0 Z = true) (w2 : (Jvm.Cond.instanceMethod z).before a0 Z = true) (w3 : (Jvm.Cond.selects z.cls z z).before a0 Z = true) (w5 : (Jvm.Cond.privateMethod z).before a0 Z = true) (w4 : (Jvm.Cond.code z zb zL zr).before a0 Z = true) (hy : z.cls ≠ "java/lang/invoke/MethodHandle" ∧ z.cls ≠ "java/lang/invoke/VarHandle") (E : Exa Z h a CC) (PP : Pays l Z EL n0 nr kn R 3 z W ck cn ws as' h Q') (hsz : Ls.size = mL) (hst : st = argsL.reverse ++ .ref a :: rest) (hlen : ∀ sig, parseMethodDescriptor z.desc = some sig → argsL.length = sig.parameters.length) (has : (.ref a :: argsL).toArray = as') (hW : (rest.map fun v => v.category).sum ≤ W) (hws : ∀ x ∈ ws, x ∈ SF) (hc : k + ck ≤ R.cells) (hl : n + cn ≤ R.slots)
    (K : ∀ v h' SN, Keep h h' ws → h0.size ≤ h.size → Q' v h' SN → Go l Z EL n0 nr kn y bytes mL ret R h0 WS Q (SN ++ SF) h' (k + ck) (n + cn) pc' Ls (v.toList ++ rest)) : Go l Z EL n0 nr kn y bytes mL ret R h0 WS Q SF h k n pc Ls st := by
  intro p e s m args below meth c T hR
  obtain ⟨⟨hx, hby, hml, hown, hnm, hret, hlk, hkn⟩, vm0, k0, locs, X, e0, C⟩ := hR
  have hZ : Z.Warmed39 (s.setVm vm0).vm := C.1
  have hown' : (s.setVm vm0).vm.findClass y.cls = some m.cls := by rw [show (s.setVm vm0).vm = vm0 from rfl, C.2.1.1.1.alike.findClass]; exact hown
  have hBK := PP p e below s args vm0 hx C.1 C.2.2.2.1.1 (fun x hx => ⟨⟨(C.2.2.2.2.1 x (hws x hx)).1.1, (C.2.2.2.2.1 x (hws x hx)).1.2.1⟩, (C.2.2.2.2.1 x (hws x hx)).2⟩) C.2.2.2.2.2.2.1 C.2.2.2.2.2.2.2.2.2 (fun q => ⟨Vm.MethodsKnown.alikeC C.2.1.1.1.alike (hkn q).1, Vm.FramesKnown.alikeC C.2.1.1.1.alike (hkn q).2⟩)
  obtain ⟨cq, q1, q2⟩ := E.cell
  refine Go.after (st := st) (args := args) (ck := ck) (cn := cn) (ws := ws) (as' := as') (Q' := Q') (rest := rest) ⟨hx, hby, hml, hown, hnm, hret, hlk, hkn⟩ e0 C hws ?_ hq K
  exact X.privateBackS hx (y := z) hown' (mvT hZ w1) (mvT hZ w2) (mvT hZ w3) (Cond.privateMethod_at (mvP hZ w5 (args := #[]))) (mvT hZ w4) hy hBK (g := mkF m pc Ls st) rfl (by rw [hml]; exact hsz) (Steps.refl _) (a := a) (by rw [e0]; exact q1) q2 (argsL := argsL) (rest := rest) hlen hst (by show 2 * 0 + _ ≤ _; rw [Nat.mul_zero, Nat.zero_add]; exact hW) (hb hby hd) (fun _ _ => ⟨has, e0, hc, hl⟩)
theorem Go.callSp {ck cn W : Nat} {ws : List Addr} {as' : Array Value} {Q' : Option Value → Heap → List Addr → Prop} {index : Nat} {z : MethodName} {zb : ByteArray} {zL : Nat} {zr : Option FieldType} {K0 : String} {a : Addr} {argsL : List Value} (hd : decode bytes pc = .ok (.invokespecial index, 3)) (hq : pc + 3 = pc') (w1 : (Jvm.Cond.methodLink y.cls index z).before a0 Z = true) (w2 : (Jvm.Cond.sameMethod z.cls z.cls z.name z.desc).before a0 Z = true) (w3 : (Jvm.Cond.instanceMethod z).before a0 Z = true) (w5 : (Jvm.Cond.superclass y.cls z.cls).before a0 Z = true) (w4 : (Jvm.Cond.code z zb zL zr).before a0 Z = true) (hni : z.name ≠ "<init>") (F : Ins Z h a K0 true) (PP : Pays l Z EL n0 nr kn R 3 z W ck cn ws as' h Q') (hsz : Ls.size = mL) (hst : st = argsL.reverse ++ .ref a :: rest) (hlen : ∀ sig, parseMethodDescriptor z.desc = some sig → argsL.length = sig.parameters.length) (has : (.ref a :: argsL).toArray = as') (hW : (rest.map fun v => v.category).sum ≤ W) (hws : ∀ x ∈ ws, x ∈ SF) (hc : k + ck ≤ R.cells) (hl : n + cn ≤ R.slots)
    (K : ∀ v h' SN, Keep h h' ws → h0.size ≤ h.size → Q' v h' SN → Go l Z EL n0 nr kn y bytes mL ret R h0 WS Q (SN ++ SF) h' (k + ck) (n + cn) pc' Ls (v.toList ++ rest)) : Go l Z EL n0 nr kn y bytes mL ret R h0 WS Q SF h k n pc Ls st := by
  intro p e s m args below meth c T hR
  obtain ⟨⟨hx, hby, hml, hown, hnm, hret, hlk, hkn⟩, vm0, k0, locs, X, e0, C⟩ := hR
  have hZ : Z.Warmed39 (s.setVm vm0).vm := C.1
  have hown' : (s.setVm vm0).vm.findClass y.cls = some m.cls := by rw [show (s.setVm vm0).vm = vm0 from rfl, C.2.1.1.1.alike.findClass]; exact hown
  have hBK := PP p e below s args vm0 hx C.1 C.2.2.2.1.1 (fun x hx => ⟨⟨(C.2.2.2.2.1 x (hws x hx)).1.1, (C.2.2.2.2.1 x (hws x hx)).1.2.1⟩, (C.2.2.2.2.1 x (hws x hx)).2⟩) C.2.2.2.2.2.2.1 C.2.2.2.2.2.2.2.2.2 (fun q => ⟨Vm.MethodsKnown.alikeC C.2.1.1.1.alike (hkn q).1, Vm.FramesKnown.alikeC C.2.1.1.1.alike (hkn q).2⟩)
  refine Go.after (st := st) (args := args) (ck := ck) (cn := cn) (ws := ws) (as' := as') (Q' := Q') (rest := rest) ⟨hx, hby, hml, hown, hnm, hret, hlk, hkn⟩ e0 C hws ?_ hq K
  exact superBackS X hx hZ (y := z) hown' w1 w2 w3 w5 hni hBK e0 F (g := mkF m pc Ls st) rfl (by rw [hml]; exact hsz) w4 (argsL := argsL) (rest := rest) hlen hst (by show 2 * 0 + _ ≤ _; rw [Nat.mul_zero, Nat.zero_add]; exact hW) (hb hby hd) (fun _ _ => ⟨has, e0, hc, hl⟩)
theorem nf {u z : MethodName} {CC : String} (w : (Jvm.Cond.selects CC u z).before a0 Z = true) (e : u = z) : ∀ (s : State), Z.Warmed39 s.vm → NotFace s u := fun s hZ => by
  subst e
  exact notFace_of_selects (args := #[]) (mvT hZ w)
theorem mem0 {SF : List Addr} : ∀ x ∈ ([] : List Addr), x ∈ SF := fun _ q => nomatch q
theorem memS {SF L : List Addr} {a : Addr} (q : a ∈ SF) (r : ∀ x ∈ L, x ∈ SF) : ∀ x ∈ a :: L, x ∈ SF := fun x z => (List.mem_cons.mp z).elim (fun u => u ▸ q) (r x)
theorem sn0 {SF : List Addr} {h0 : Heap} : ∀ x ∈ ([] : List Addr), x ∈ SF ∧ h0.size ≤ x := fun _ q => nomatch q
theorem snS {SF L : List Addr} {h0 : Heap} {a : Addr} (q : a ∈ SF ∧ h0.size ≤ a) (r : ∀ x ∈ L, x ∈ SF ∧ h0.size ≤ x) : ∀ x ∈ a :: L, x ∈ SF ∧ h0.size ≤ x := fun x z => (List.mem_cons.mp z).elim (fun u => u ▸ q) (r x)
theorem Ext.refl (h : Heap) : Ext h h := ⟨Nat.le_refl _, fun _ _ q => q⟩
theorem Ext.trans {h1 h2 h3 : Heap} (E : Ext h1 h2) (F : Ext h2 h3) : Ext h1 h3 := ⟨Nat.le_trans E.1 F.1, fun a c q => F.2 a c (E.2 a c q)⟩
theorem Keep.toExt {h1 h2 : Heap} (K : Keep h1 h2 []) : Ext h1 h2 := ⟨K.1, fun a c q => K.2.1 a c q (fun z => nomatch z)⟩
end Rules
end Jvm.OwnK
namespace Jvm.OwnK
open Jvm Sem ClassFile Op Lib Jvm.Free Jvm.Stand Jvm.LawKit Jvm.RoadKit Bundle
/-! plain facts on numbers and lists -/
def lowV (c : Int32) : Value := .int c.toInt8.toInt32
theorem byte_idem (c : Int32) : c.toInt8.toInt32.toInt8.toInt32 = c.toInt8.toInt32 := by
  rw [Int8.toInt8_toInt32]
theorem nar_byte (c : Int32) : nar .byte c.toInt8.toInt32 = c.toInt8.toInt32 := byte_idem c
theorem shr0 (x : Int32) : x >>> ((0 : Int32) &&& 31) = x := by
  apply Int32.toInt_inj.mp
  rw [c_ishr x 0 0 (by decide)]
  simp
theorem mask255 (x : Int32) : ¬ (x &&& 255) < 0 ∧ ¬ 255 < (x &&& 255) := by
  have h := c_and x 255 (by decide)
  rw [Int32.lt_iff_toInt_lt, Int32.lt_iff_toInt_lt]
  have e1 : (255 : Int32).toInt = 255 := by decide
  have e0 : (0 : Int32).toInt = 0 := by decide
  omega
theorem i2c_in {x : Int32} (h1 : ¬ x < 0) (h2 : ¬ 65535 < x) : x.toUInt32.toUInt16.toUInt32.toInt32 = x := by
  apply Int32.toInt_inj.mp
  have h := c_i2c x
  rw [Int32.lt_iff_toInt_lt] at h1 h2
  have e1 : (65535 : Int32).toInt = 65535 := by decide
  have e0 : (0 : Int32).toInt = 0 := by decide
  omega
theorem nar_char {x : Int32} (h1 : ¬ x < 0) (h2 : ¬ 65535 < x) : nar .char x = x := i2c_in h1 h2
theorem le255 {x : Int32} (h : ¬ 255 < x) : ¬ 65535 < x := by
  rw [Int32.lt_iff_toInt_lt] at h ⊢
  have e1 : (65535 : Int32).toInt = 65535 := by decide
  have e0 : (255 : Int32).toInt = 255 := by decide
  omega
theorem own_lowback {c : Int32} (h1 : ¬ c < 0) (h2 : ¬ 255 < c) : (c.toInt8.toInt32 &&& 255).toUInt32.toUInt16.toUInt32.toInt32 = c := by
  have m := mask255 c.toInt8.toInt32
  rw [i2c_in m.1 (le255 m.2)]
  apply Int32.toInt_inj.mp
  have e := c_mask c.toInt8.toInt32 255 8 (by decide) (by decide)
  have b := c_i2b c
  rw [Int32.lt_iff_toInt_lt] at h1 h2
  have e1 : (255 : Int32).toInt = 255 := by decide
  have e0 : (0 : Int32).toInt = 0 := by decide
  have e2 : ((2 ^ 8 : Nat) : Int) = 256 := by decide
  rw [e, e2]
  omega
theorem ofNat_succ (i : Nat) : Int32.ofNat i + 1 = Int32.ofNat (i + 1) := by
  rw [Int32.ofNat_add]; rfl
theorem ofNat_toInt {i : Nat} (h : i < 2 ^ 31) : (Int32.ofNat i).toInt = i := Int32.toInt_ofNat_small h
theorem ofNat_clamp {i : Nat} (h : i < 2 ^ 31) : (Int32.ofNat i).toNatClampNeg = i := by
  simp only [Int32.toNatClampNeg, ofNat_toInt h, Int.toNat_natCast]
theorem ofNat_nn {i : Nat} (h : i < 2 ^ 31) : ¬ Int32.ofNat i < 0 := by
  rw [Int32.lt_iff_toInt_lt, ofNat_toInt h]
  have e0 : (0 : Int32).toInt = 0 := by decide
  omega
theorem clamp_toInt {z : Int32} (h : ¬ z < 0) : z.toInt = z.toNatClampNeg := nat_of h
theorem ofNat_lt {i : Nat} {z : Int32} (hz : ¬ z < 0) (h : i < z.toNatClampNeg) : Int32.ofNat i < z := by
  have q := (back32 hz).2
  rw [Int32.lt_iff_toInt_lt, ofNat_toInt (by omega), clamp_toInt hz]
  omega
theorem ofNat_ge {i : Nat} {z : Int32} (hz : ¬ z < 0) (hi : i < 2 ^ 31) (h : z.toNatClampNeg ≤ i) : ¬ Int32.ofNat i < z := by
  rw [Int32.lt_iff_toInt_lt, ofNat_toInt hi, clamp_toInt hz]
  omega
theorem arv_nn {Z : State} {h : Heap} {a : Addr} {k : ClassId} {ty : FieldType} {z : Int32} {vs : List Value} {d : Value} (F : Arv Z h a k ty z vs d) : ¬ z < 0 := by obtain ⟨_, _, _, _, q, _⟩ := F; exact q
theorem getD_int (cs : List Int32) (i : Nat) : (cs.map Value.int).getD i (.int 0) = .int (cs.getD i 0) := by
  simp only [List.getD_eq_getElem?_getD, List.getElem?_map]
  cases cs[i]? <;> rfl
theorem getD_low (cs : List Int32) (i : Nat) (h : i < cs.length) : (cs.map lowV).getD i (.int 0) = .int (cs.getD i 0).toInt8.toInt32 := by
  simp only [List.getD_eq_getElem?_getD, List.getElem?_map, List.getElem?_eq_getElem h]
  rfl
theorem set_low (cs : List Int32) (i m : Nat) (h : i < cs.length) (z : Value) : ((cs.take i).map lowV ++ List.replicate (m + 1) z).set i (lowV (cs.getD i 0)) = (cs.take (i + 1)).map lowV ++ List.replicate m z := by
  have hl : ((cs.take i).map lowV).length = i := by simp; omega
  have e : cs.getD i 0 = cs[i] := by simp [List.getD_eq_getElem?_getD, List.getElem?_eq_getElem h]
  rw [List.set_append_right _ _ (by omega), hl, Nat.sub_self, List.replicate_succ, List.set_cons_zero, List.take_succ_eq_append_getElem h, List.map_append, List.append_assoc, e]
  rfl
theorem getD_mem {cs : List Int32} {P : Int32 → Prop} (h : ∀ x ∈ cs, P x) {i : Nat} (hi : i < cs.length) : P (cs.getD i 0) := by
  have e : cs.getD i 0 = cs[i] := by simp [List.getD_eq_getElem?_getD, List.getElem?_eq_getElem hi]
  rw [e]; exact h _ (List.getElem_mem hi)
theorem own_back (x : Int32) : x + (128 : Int32) - (128 : Int32) = x := Int32.add_sub_cancel x 128
theorem own_cache {x : Int32} {n : Nat} (h1 : ¬ x < (-128 : Int32)) (h2 : ¬ (127 : Int32) < x) (hn : n = (256 : Int32).toNatClampNeg) : ¬ (x + (128 : Int32) < 0 ∨ n ≤ (x + (128 : Int32)).toNatClampNeg) := by
  have c := c_iadd x 128
  have r := rng32 (x + 128)
  rw [Int32.lt_iff_toInt_lt] at h1 h2 ⊢
  have e1 : (-128 : Int32).toInt = -128 := by decide
  have e2 : (127 : Int32).toInt = 127 := by decide
  have e3 : (128 : Int32).toInt = 128 := by decide
  have e0 : (0 : Int32).toInt = 0 := by decide
  have e4 : (256 : Int32).toNatClampNeg = 256 := by decide
  simp only [Int32.toNatClampNeg] at hn e4 ⊢
  omega
theorem own_coder0 {z : Int32} : ((z - z).toUInt32 >>> ((31 : Int32) &&& 31).toUInt32).toInt32.toInt8.toInt32 = (0 : Int32) := by
  rw [Int32.sub_self]; decide
theorem own_nz {z : Int32} {cs : List Int32} (hz : z.toNatClampNeg = cs.length) (h : cs ≠ []) : ¬ z = (0 : Int32) := fun e => by
  subst e
  have : (0 : Int32).toNatClampNeg = 0 := by decide
  rw [this] at hz
  exact h (List.length_eq_zero_iff.mp hz.symm)
theorem own_narc (u : Int32) : narrow .char (.int (u &&& (255 : Int32)).toUInt32.toUInt16.toUInt32.toInt32) = .int (u &&& (255 : Int32)).toUInt32.toUInt16.toUInt32.toInt32 := by
  show Value.int _ = _
  have m := mask255 u
  rw [i2c_in m.1 (le255 m.2), i2c_in m.1 (le255 m.2)]
theorem own_one {P : Int32 → Prop} {a : Int32} (h : P a) : ∀ x ∈ [a], P x := fun x hx => by cases List.mem_singleton.mp hx; exact h
theorem own_cons {P : Int32 → Prop} {a : Int32} {L : List Int32} (h : P a) (r : ∀ x ∈ L, P x) : ∀ x ∈ a :: L, P x := fun x hx => (List.mem_cons.mp hx).elim (fun e => e ▸ h) (r x)
theorem own_two {P : Int32 → Prop} {a b : Int32} (h : P a) (h' : P b) : ∀ x ∈ [a, b], P x := own_cons h (own_one h')
def stRef (Z : State) (C n d : String) : Addr := match (Term.static C n d).eval #[] Z none [] Z with
  | some (.ref a) => a
  | _ => 0
theorem stRef_of {Z : State} {args : Array Value} {C n d : String} {a : Addr} (h : (Term.static C n d).eval args Z none [] Z = some (.ref a)) : stRef Z C n d = a := by
  have q : (Term.static C n d).eval #[] Z none [] Z = some (.ref a) := h
  simp only [stRef, q]
theorem arv_of_arr {Z : State} {h : Heap} {a : Addr} {cl : Cell} {ty : FieldType} {z : Int32} {vs : List Value} {d : Value} (A : Arr Z h a cl ty) (hz : ¬ z < 0) (hs : cl.slots.size = z.toNatClampNeg) (H : ∀ i, i < cl.slots.size → cl.slots[i]? = some (vs.getD i d) ∧ fits ty (vs.getD i d) = true) : Arv Z h a cl.cls ty z vs d :=
  ⟨cl, A, rfl, hs, hz, fun i hi => (H i hi).1, fun i hi => (H i hi).2⟩
theorem arv_ext {Z : State} {h h' : Heap} {a : Addr} {k : ClassId} {ty : FieldType} {z : Int32} {vs : List Value} {d : Value} (F : Arv Z h a k ty z vs d) (E : Ext h h') : Arv Z h' a k ty z vs d := F.ext E
theorem own_len {Z : State} {args : Array Value} {t : Term} {a : Addr} {cl : Cell} {ty : FieldType} {z : Int32} (e : t.eval args Z none [] Z = some (.ref a)) (A : Arr Z Z.heap a cl ty) (h : (Term.length t).eval args Z none [] Z = some (.int z)) : cl.slots.size < 2 ^ 31 ∧ cl.slots.size.toInt32 = z := by
  have q := A.fin (Vm.Alike.refl _)
  simp only [Term.eval, e, q, Option.bind_eq_bind, Option.bind_some] at h
  split at h
  · rename_i hl
    exact ⟨hl, by simpa using h⟩
  · cases h
theorem own_sto {Z : State} {h : Heap} {a y : Addr} {k : ClassId} {ty : FieldType} {z : Int32} {vs : List Value} {d : Value} {C : String} (F : Arv Z h a k ty z vs d) (O : Ovr Z k C) (I : Ins Z h y C true) : Sto Z h a (.ref y) := by
  obtain ⟨cl, A, q, -⟩ := F
  exact Sto.ofV A q O I
def NFc (Z : State) (K : String) : Prop := ∃ t kt, Z.vm.findClass K = some t ∧ Z.vm.classes[t]? = some kt ∧ kt.isInterface = false
theorem own_face_inst {Z : State} {a0 : Array Value} {K : String} {n : Nat} (w : (Jvm.Cond.instantiable K n).before a0 Z = true) : NFc Z K := by
  obtain ⟨c, k, h1, h2, -, h4, -⟩ := Cond.instantiable_spec w
  exact ⟨c, k, h1, h2, by simpa using (Bool.or_eq_false_iff.mp h4).1⟩
theorem own_face_sel {Z : State} {a0 : Array Value} {K : String} {u z : MethodName} (w : (Jvm.Cond.selects K u z).before a0 Z = true) : NFc Z z.cls := by
  obtain ⟨c, r, m, -, -, h3, -, mk, h5, h6⟩ := Cond.selects_spec w
  exact ⟨m.cls, mk, findClass_of_methodNamed h3, h5, h6⟩
theorem own_root {Z : State} {a0 : Array Value} {O K : String} (w : (Jvm.Cond.noSuperclass O).before a0 Z = true) (hk : NFc Z K) (hn : O ≠ K) : NS Z O K := by
  obtain ⟨c, k, h1, h2, h3, -, -⟩ := Cond.noSuperclass_spec w
  obtain ⟨t, kt, g1, -⟩ := hk
  have ne := ids_ne h1 g1 hn
  refine ⟨c, t, h1, g1, fun fuel => ?_⟩
  cases fuel with
  | zero => rfl
  | succ f => simp [Vm.isSubclassAux, ne, h2, h3]
theorem own_nsno {Z : State} {a0 : Array Value} {C K : String} {n : Nat} (w : (Jvm.Cond.instantiable C n).before a0 Z = true) (hk : NFc Z K) (ns : NS Z C K) (hn : C ≠ K) : ∃ c t, Z.vm.findClass C = some c ∧ Z.vm.findClass K = some t ∧ Z.vm.assignable c t = false := by
  obtain ⟨c, t, h0, g0, n3⟩ := ns
  obtain ⟨c', k, h1, h2, h5, -⟩ := Cond.instantiable_spec w
  cases h0.symm.trans h1
  obtain ⟨t', kt, g1, g2, g7⟩ := hk
  cases g0.symm.trans g1
  have ne := ids_ne h0 g0 hn
  refine ⟨c, t, h0, g0, ?_⟩
  show Z.vm.assignableAux (255 + 1) c t = false
  cases hkk : kt.kind <;> simp [Vm.assignableAux, ne, h2, g2, h5, hkk, g7, Vm.isSubclass, n3]
theorem own_arv0 {Z : State} {h : Heap} {a : Addr} {cl : Cell} {ty : FieldType} {d : Value} (A : Arr Z h a cl ty) (l : cl.slots.size < 2 ^ 31 ∧ cl.slots.size.toInt32 = (0 : Int32)) : Arv Z h a cl.cls ty (0 : Int32) [] d := by
  have e : cl.slots.size = 0 := by
    have q := len_toInt l.1
    rw [l.2] at q
    have : (0 : Int32).toInt = 0 := by decide
    omega
  refine ⟨cl, A, rfl, by rw [e]; decide, by decide, fun i hi => ?_, fun i hi => ?_⟩ <;> (rw [e] at hi; exact absurd hi (Nat.not_lt_zero _))
theorem own_cat {v : Value} (h : v.isRef = true) : v.category = 1 := by rcases ref_cases h with rfl | ⟨_, rfl⟩ <;> rfl
theorem unt_ext {h h' : Heap} {a : Addr} (E : Ext h h') (U : Unt h a) : Unt h' a := by obtain ⟨c, q, r⟩ := U; exact ⟨c, E.2 _ _ q, r⟩
theorem own_selP {Z : State} {a0 : Array Value} {z u v : MethodName} {K : String} (w3 : (Jvm.Cond.selects K u v).before a0 Z = true) (he : v.cls = z.cls) (hx : z.cls ≠ "java/lang/invoke/MethodHandle" ∧ z.cls ≠ "java/lang/invoke/VarHandle") (w2 : (Jvm.Cond.instanceMethod z).before a0 Z = true) (w5 : (Jvm.Cond.privateMethod z).before a0 Z = true) : (Jvm.Cond.selects z.cls z z).before a0 Z = true := by
  obtain ⟨mk, methM, hnamed, hmethM, hstM, habM⟩ := Cond.instanceMethod_spec w2
  obtain ⟨c2, r2, m2, q1, q2, q3, q4, kP, hkP, hkPi⟩ := Cond.selects_spec w3
  have e1 := findClass_of_methodNamed hnamed
  have e3 := findClass_of_methodNamed q3
  have hp := Cond.privateMethod_at w5 mk methM hnamed hmethM
  rw [he, e1] at e3
  have e4 := Option.some.inj e3
  rw [← e4] at hkP
  have hf := State.methodFound?_of_named hnamed hx
  have hs : selectMethod {} Z.vm mk.cls mk = .method mk := selectMethod_private hmethM hp
  show Cond.holds _ _ _ _ _ _ = true
  simp [Cond.holds, Cond.value, e1, hf, hnamed, hs, hkP, hkPi]
theorem own_elem {Z : State} {args : Array Value} {t : Term} {a : Addr} {cl : Cell} {ty : FieldType} {j : Int32} {v : Value} (e : t.eval args Z none [] Z = some (.ref a)) (A : Arr Z Z.heap a cl ty) (h : (Term.elem t (Term.int j)).eval args Z none [] Z = some v) : cl.slots[j.toNatClampNeg]? = some v := by
  have q := A.fin (Vm.Alike.refl _)
  simp only [Term.eval, e, q, Option.bind_eq_bind, Option.bind_some] at h
  split at h
  · cases h
  · exact h
theorem own_eqr {Z : State} {args : Array Value} {X F : Term} {y : Addr} (hF : F.eval args Z none [] Z = some (.ref y)) (h : (Cond.eq X F).value args Z none Z [] = some true) : X.eval args Z none [] Z = some (.ref y) := by
  simp only [Cond.value, hF] at h
  cases hX : X.eval args Z none [] Z with
  | none => simp [hX] at h
  | some x => cases x <;> simp [hX] at h ⊢; exact h
theorem own_eqn {Z : State} {args : Array Value} {X : Term} (h : (Cond.eq X Term.null).value args Z none Z [] = some true) : X.eval args Z none [] Z = some .null := by
  simp only [Cond.value, Term.eval] at h
  cases hX : X.eval args Z none [] Z with
  | none => simp [hX] at h
  | some x => cases x <;> simp [hX] at h ⊢
def own_eqb (us ws : List Int32) : Int32 := if us = ws then 1 else 0
theorem own_take_succ {us ws : List Int32} {i : Nat} (hu : i < us.length) (hw : i < ws.length) (h : us.take i = ws.take i) (e : us.getD i 0 = ws.getD i 0) : us.take (i + 1) = ws.take (i + 1) := by
  rw [List.take_succ_eq_append_getElem hu, List.take_succ_eq_append_getElem hw, h]
  simp [List.getD_eq_getElem?_getD, List.getElem?_eq_getElem hu, List.getElem?_eq_getElem hw] at e
  rw [e]
theorem own_low_map (cs : List Int32) : cs.map lowV = (cs.map (fun c => c.toInt8.toInt32)).map Value.int := by simp [lowV]
theorem own_eqb_pos {us ws : List Int32} (h : us = ws) : own_eqb us ws = 1 := if_pos h
theorem own_eqb_neg {us ws : List Int32} (h : ¬ us = ws) : own_eqb us ws = 0 := if_neg h
theorem own_eqb0 {us ws : List Int32} (h : own_eqb us ws = 0) : ¬ us = ws := fun e => by rw [own_eqb_pos e] at h; exact absurd h (by decide)
theorem own_eqb1 {us ws : List Int32} (h : ¬ own_eqb us ws = 0) : us = ws := Classical.byContradiction fun e => h (own_eqb_neg e)
theorem own_eqb0' {us ws : List Int32} (h : own_eqb ws us = 0) : ¬ us = ws := fun e => own_eqb0 h e.symm
theorem own_eqb_nar (us ws : List Int32) : narrow .boolean (.int (own_eqb us ws)) = .int (own_eqb us ws) := by
  by_cases h : us = ws
  · rw [own_eqb_pos h]; rfl
  · rw [own_eqb_neg h]; rfl
theorem own_idx {j z : Int32} (h1 : ¬ j < 0) (h2 : j < z) : j.toNatClampNeg < z.toNatClampNeg := by
  have e := clamp_toInt h1
  rw [Int32.lt_iff_toInt_lt] at h2
  simp only [Int32.toNatClampNeg] at e ⊢
  omega
theorem own_clamp_inj {x z : Int32} (h1 : ¬ x < 0) (h2 : ¬ z < 0) (h : x.toNatClampNeg = z.toNatClampNeg) : x = z := by
  have e1 := clamp_toInt h1
  have e2 := clamp_toInt h2
  apply Int32.toInt_inj.mp
  omega
theorem own_pad0 (m i : Nat) : ((List.replicate m (0 : Int32)).map Value.int).getD i (.int (0 : Int32)) = ([] : List Value).getD i (.int (0 : Int32)) := by
  simp only [List.map_replicate, List.getD_eq_getElem?_getD, List.getElem?_replicate]
  split <;> rfl
theorem own_set_mem {cs : List Int32} {P : Int32 → Prop} {i : Nat} {x : Int32} (h : ∀ y ∈ cs, P y) (hx : P x) : ∀ y ∈ cs.set i x, P y := fun y hy => by
  rcases List.mem_or_eq_of_mem_set hy with q | q
  · exact h y q
  · rw [q]; exact hx
theorem own_set_map (cs : List Int32) (i : Nat) (x : Int32) : (cs.map Value.int).set i (.int x) = (cs.set i x).map Value.int := by rw [List.map_set]
theorem own_arv_uniq {Z : State} {h : Heap} {t : Addr} {k k' : ClassId} {ty ty' : FieldType} {z z' : Int32} {us ws : List Int32} {d d' : Value} (A : Arv Z h t k ty z (us.map Value.int) d) (B : Arv Z h t k' ty' z' (ws.map Value.int) d') (hu : z.toNatClampNeg = us.length) (hw : z'.toNatClampNeg = ws.length) : us = ws := by
  obtain ⟨c, A1, -, A2, -, A3, -⟩ := A
  obtain ⟨c', B1, -, B2, -, B3, -⟩ := B
  cases A1.1.symm.trans B1.1
  apply List.ext_getElem (by omega)
  intro i h1 h2
  have q1 := A3 i (by omega)
  have q2 := B3 i (by omega)
  have q := Option.some.inj (q1.symm.trans q2)
  simp [List.getD_eq_getElem?_getD, List.getElem?_map, List.getElem?_eq_getElem h1, List.getElem?_eq_getElem h2] at q
  exact q
theorem own_fld_uniq {Z : State} {h : Heap} {a : Addr} {C n d : String} {x y : Addr} (F : Fld Z h a C n d (.ref x)) (G : Fld Z h a C n d (.ref y)) : x = y := Classical.byContradiction fun q => Fld.ne F G (fun e => q (Value.ref.inj e)) rfl
theorem own_rem {x : Int32} {m : Int32} (h : ¬ x < 0) (hm : (0 : Int32) < m) : ¬ x % m < 0 ∧ x % m < m := by
  have e := (c_iremV x m).1
  rw [Int32.lt_iff_toInt_lt] at h hm ⊢
  rw [Int32.lt_iff_toInt_lt]
  have e0 : (0 : Int32).toInt = 0 := by decide
  rw [e0] at h hm ⊢
  have := e (by omega) hm
  omega
theorem own_maskn (x m : Int32) (h : ¬ m < 0) : ¬ (x &&& m) < 0 := by
  have e0 : (0 : Int32).toInt = 0 := by decide
  rw [Int32.lt_iff_toInt_lt, e0] at h ⊢
  have q := c_and x m (by omega)
  omega
theorem own_remcap {x m : Int32} {c : Nat} (h : ¬ x < 0) (hm : (0 : Int32) < m) (hc : m.toNatClampNeg ≤ c + 1) : (x % m).toNatClampNeg ≤ c := by
  have q := own_rem h hm
  have r := own_idx q.1 q.2
  omega
theorem own_same {Z : State} {a0 : Array Value} {z u v : MethodName} {K : String} (w3 : (Jvm.Cond.selects K u v).before a0 Z = true) (he : v.cls = z.cls) (hx : z.cls ≠ "java/lang/invoke/MethodHandle" ∧ z.cls ≠ "java/lang/invoke/VarHandle") (w2 : (Jvm.Cond.instanceMethod z).before a0 Z = true) : (Jvm.Cond.sameMethod z.cls z.cls z.name z.desc).before a0 Z = true := by
  obtain ⟨mk, methM, hnamed, hmethM, hstM, habM⟩ := Cond.instanceMethod_spec w2
  obtain ⟨c2, r2, m2, q1, q2, q3, q4, kP, hkP, hkPi⟩ := Cond.selects_spec w3
  have e1 := findClass_of_methodNamed hnamed
  have e3 := findClass_of_methodNamed q3
  rw [he, e1] at e3
  rw [← Option.some.inj e3] at hkP
  have hf := State.methodFound?_of_named hnamed hx
  have hn' : Z.methodNamed? ⟨z.cls, z.name, z.desc⟩ = some mk := hnamed
  show Cond.holds _ _ _ _ _ _ = true
  simp [Cond.holds, Cond.value, e1, hf, hn', hkP, hkPi]
theorem own_nf {s : State} {args : Array Value} {z u v : MethodName} {K : String} (w3 : (Jvm.Cond.selects K u v).before args s = true) (he : v.cls = z.cls) : NotFace s z := fun r0 h0 => by
  obtain ⟨c2, r2, m2, q1, q2, q3, q4, kP, hkP, hkPi⟩ := Cond.selects_spec w3
  have e1 := findClass_of_methodNamed h0
  have e3 := findClass_of_methodNamed q3
  rw [he, e1] at e3
  exact ⟨kP, by rw [Option.some.inj e3]; exact hkP, hkPi⟩
end Jvm.OwnK
namespace Jvm.OwnK
open Jvm Sem ClassFile Op Lib Jvm.Free Jvm.Stand Jvm.LawKit Jvm.RoadKit Bundle
/-! plain facts on UTF16 bytes -/
def ub0 (c : Int32) : Int32 := (c >>> ((0 : Int32) &&& 31)).toInt8.toInt32
def ub1 (c : Int32) : Int32 := (c >>> ((8 : Int32) &&& 31)).toInt8.toInt32
def udec (x y : Int32) : Int32 := (((x &&& (255 : Int32)) <<< ((0 : Int32) &&& 31)) ||| ((y &&& (255 : Int32)) <<< ((8 : Int32) &&& 31))).toUInt32.toUInt16.toUInt32.toInt32
theorem own_udec {c : Int32} (h1 : ¬ c < 0) (h2 : ¬ 65535 < c) : udec (ub0 c) (ub1 c) = c := by
  have e0 : (0 : Int32).toInt = 0 := by decide
  have e1 : (65535 : Int32).toInt = 65535 := by decide
  rw [Int32.lt_iff_toInt_lt] at h1 h2
  rw [e0] at h1
  rw [e1] at h2
  apply Int32.toInt_inj.mp
  have s0 := c_ishr c 0 0 (by decide)
  have s8 := c_ishr c 8 8 (by decide)
  have p0 : ((2 ^ 0 : Nat) : Int) = 1 := by decide
  have p8 : ((2 ^ 8 : Nat) : Int) = 256 := by decide
  rw [p0] at s0
  rw [p8] at s8
  have i0 := c_i2b (c >>> ((0 : Int32) &&& 31))
  have i8 := c_i2b (c >>> ((8 : Int32) &&& 31))
  have m0 := c_mask (ub0 c) 255 8 (by decide) (by decide)
  have m8 := c_mask (ub1 c) 255 8 (by decide) (by decide)
  rw [p8] at m0 m8
  have l0 := c_ishl (ub0 c &&& 255) 0 0 (by decide)
  have l8 := c_ishl (ub1 c &&& 255) 8 8 (by decide)
  rw [p0] at l0
  rw [p8] at l8
  have r0 := rng32 ((ub0 c &&& 255) <<< ((0 : Int32) &&& 31))
  have r8 := rng32 ((ub1 c &&& 255) <<< ((8 : Int32) &&& 31))
  have q0 : (ub0 c).toInt = (c >>> ((0 : Int32) &&& 31)).toInt8.toInt32.toInt := rfl
  have q8 : (ub1 c).toInt = (c >>> ((8 : Int32) &&& 31)).toInt8.toInt32.toInt := rfl
  have v0 : ((ub0 c &&& 255) <<< ((0 : Int32) &&& 31)).toInt = c.toInt % 256 := by omega
  have v8 : ((ub1 c &&& 255) <<< ((8 : Int32) &&& 31)).toInt = (c.toInt / 256) * 256 := by omega
  have o := c_or' ((ub0 c &&& 255) <<< ((0 : Int32) &&& 31)) ((ub1 c &&& 255) <<< ((8 : Int32) &&& 31)) 8 (by decide) 256 (by decide) (by omega) (by omega) (by omega)
  have ro := rng32 (((ub0 c &&& 255) <<< ((0 : Int32) &&& 31)) ||| ((ub1 c &&& 255) <<< ((8 : Int32) &&& 31)))
  have cc := c_i2c (((ub0 c &&& 255) <<< ((0 : Int32) &&& 31)) ||| ((ub1 c &&& 255) <<< ((8 : Int32) &&& 31)))
  show (udec (ub0 c) (ub1 c)).toInt = c.toInt
  unfold udec
  omega
def Enc (bs cs : List Int32) (n : Nat) : Prop := bs.length = 2 * cs.length ∧ ∀ j, j < n → bs.getD (2 * j) 0 = ub0 (cs.getD j 0) ∧ bs.getD (2 * j + 1) 0 = ub1 (cs.getD j 0)
theorem own_getD_set (bs : List Int32) (i j : Nat) (x : Int32) (hi : i < bs.length) : (bs.set i x).getD j 0 = if i = j then x else bs.getD j 0 := by
  simp only [List.getD_eq_getElem?_getD, List.getElem?_set]
  by_cases h : i = j
  · subst h; simp [hi]
  · simp [h]
theorem Enc.step {bs cs : List Int32} {i : Nat} (h : Enc bs cs i) (hi : i < cs.length) : Enc ((bs.set (2 * i) (ub0 (cs.getD i 0))).set (2 * i + 1) (ub1 (cs.getD i 0))) cs (i + 1) := by
  refine ⟨by simp only [List.length_set]; exact h.1, fun j hj => ?_⟩
  have hl := h.1
  have A := fun k => own_getD_set (bs.set (2 * i) (ub0 (cs.getD i 0))) (2 * i + 1) k (ub1 (cs.getD i 0)) (by rw [List.length_set]; omega)
  have B := fun k => own_getD_set bs (2 * i) k (ub0 (cs.getD i 0)) (by omega)
  rw [A, A, B, B]
  by_cases e : j = i
  · subst e
    simp
  · have hj2 : j < i := by omega
    obtain ⟨q1, q2⟩ := h.2 j hj2
    rw [if_neg (by omega), if_neg (by omega), if_neg (by omega), if_neg (by omega)]
    exact ⟨q1, q2⟩
theorem own_shl1 {j : Int32} (h1 : ¬ j < 0) (h2 : j.toNatClampNeg < 1073741824) : ¬ (j <<< ((1 : Int32) &&& 31)) < 0 ∧ (j <<< ((1 : Int32) &&& 31)).toNatClampNeg = 2 * j.toNatClampNeg := by
  have e0 : (0 : Int32).toInt = 0 := by decide
  have n := clamp_toInt h1
  have l := c_ishl j 1 1 (by decide)
  have p1 : ((2 ^ 1 : Nat) : Int) = 2 := by decide
  rw [p1] at l
  have r := rng32 (j <<< ((1 : Int32) &&& 31))
  have v : (j <<< ((1 : Int32) &&& 31)).toInt = 2 * j.toInt := by omega
  rw [Int32.lt_iff_toInt_lt, e0, v]
  refine ⟨by omega, ?_⟩
  simp only [Int32.toNatClampNeg] at n h2 ⊢
  rw [v]
  omega
theorem own_shr1 {z : Int32} (h1 : ¬ z < 0) (h2 : z.toNatClampNeg < 1073741824) : ((z <<< ((1 : Int32) &&& 31)) >>> ((1 : Int32) &&& 31)) = z := by
  have n := clamp_toInt h1
  have q := own_shl1 h1 h2
  have n2 := clamp_toInt q.1
  apply Int32.toInt_inj.mp
  have s := c_ishr (z <<< ((1 : Int32) &&& 31)) 1 1 (by decide)
  have p1 : ((2 ^ 1 : Nat) : Int) = 2 := by decide
  rw [p1] at s
  omega
theorem own_coder1 {z : Int32} (h1 : ¬ z < 0) (h0 : ¬ z = 0) (h2 : z.toNatClampNeg < 1073741824) : ((z - (z <<< ((1 : Int32) &&& 31))).toUInt32 >>> ((31 : Int32) &&& 31).toUInt32).toInt32.toInt8.toInt32 = (1 : Int32) := by
  have n := clamp_toInt h1
  have q := own_shl1 h1 h2
  have n2 := clamp_toInt q.1
  have sb := c_isub z (z <<< ((1 : Int32) &&& 31))
  have r := rng32 (z - (z <<< ((1 : Int32) &&& 31)))
  have u := c_iushr (z - (z <<< ((1 : Int32) &&& 31))) 31 31 (by decide) (by decide)
  have p31 : ((2 ^ 31 : Nat) : Int) = 2147483648 := by decide
  rw [p31] at u
  have zn : z.toInt ≠ 0 := fun e => h0 (Int32.toInt_inj.mp (e.trans (by decide)))
  have v : ((z - (z <<< ((1 : Int32) &&& 31))).toUInt32 >>> ((31 : Int32) &&& 31).toUInt32).toInt32 = 1 := by
    apply Int32.toInt_inj.mp
    rw [u]
    have e1 : (1 : Int32).toInt = 1 := by decide
    rw [e1]
    omega
  rw [v]
  decide
theorem own_succ {j z : Int32} (h1 : ¬ j < 0) (h : j.toNatClampNeg + 1 < 2147483648) : ¬ (j + 1) < 0 ∧ (j + 1).toNatClampNeg = j.toNatClampNeg + 1 := by
  have e0 : (0 : Int32).toInt = 0 := by decide
  have e1 : (1 : Int32).toInt = 1 := by decide
  have n := clamp_toInt h1
  have a := c_iadd j 1
  have r := rng32 (j + 1)
  have v : (j + 1).toInt = j.toInt + 1 := by omega
  rw [Int32.lt_iff_toInt_lt, e0, v]
  refine ⟨by omega, ?_⟩
  simp only [Int32.toNatClampNeg] at n h ⊢
  rw [v]
  omega
theorem own_ltc {j z : Int32} (h1 : ¬ j < 0) (h2 : ¬ z < 0) (h : j.toNatClampNeg < z.toNatClampNeg) : j < z := by
  rw [Int32.lt_iff_toInt_lt, clamp_toInt h1, clamp_toInt h2]; omega
theorem own_gec {j z : Int32} (h1 : ¬ j < 0) (h2 : ¬ z < 0) (h : z.toNatClampNeg ≤ j.toNatClampNeg) : ¬ j < z := by
  rw [Int32.lt_iff_toInt_lt, clamp_toInt h1, clamp_toInt h2]; omega
end Jvm.OwnK
namespace Jvm.OwnK
open Jvm Sem ClassFile Op Lib Jvm.Free Jvm.Stand Jvm.LawKit Jvm.RoadKit Bundle
theorem own_ltle {i z zc : Int32} (h : i < z) (hle : ¬ zc < z) : i < zc := by
  rw [Int32.lt_iff_toInt_lt] at *; omega
theorem own_take_all {cs : List Int32} {P : Int32 → Prop} {i : Nat} (hi : i < cs.length) (h : ∀ x ∈ cs.take i, P x) (hp : P (cs.getD i 0)) : ∀ x ∈ cs.take (i + 1), P x := fun x hx => by
  rw [List.take_succ_eq_append_getElem hi] at hx
  have e : cs.getD i 0 = cs[i] := by simp [List.getD_eq_getElem?_getD, List.getElem?_eq_getElem hi]
  rcases List.mem_append.mp hx with q | q
  · exact h x q
  · rw [List.mem_singleton.mp q, ← e]; exact hp
theorem own_nar_i2c (x : Int32) : narrow .char (.int x.toUInt32.toUInt16.toUInt32.toInt32) = .int x.toUInt32.toUInt16.toUInt32.toInt32 := by
  show Value.int _ = _
  have h := c_i2c x
  have e0 : (0 : Int32).toInt = 0 := by decide
  have e1 : (65535 : Int32).toInt = 65535 := by decide
  rw [i2c_in (by rw [Int32.lt_iff_toInt_lt, e0]; omega) (by rw [Int32.lt_iff_toInt_lt, e1]; omega)]
theorem arv_nnz {z : Int32} (h : ¬ z < 0) : ¬ z < 0 := h
end Jvm.OwnK
namespace Jvm.OwnK
open Jvm Sem ClassFile Op Lib Jvm.Free Jvm.Stand Jvm.LawKit Jvm.RoadKit Bundle
theorem own_lt_ne {r z : Int32} (h : r < z) : ¬ r = z := fun e => by subst e; rw [Int32.lt_iff_toInt_lt] at h; omega
theorem own_enc_at {bs cs : List Int32} {r : Nat} (hE : Enc bs cs cs.length) (hr : r < cs.length) (h16 : ∀ x ∈ cs, ¬ x < 0 ∧ ¬ 65535 < x) : udec (bs.getD (2 * r) 0) (bs.getD (2 * r + 1) 0) = cs.getD r 0 := by
  obtain ⟨q1, q2⟩ := hE.2 r hr
  have m := getD_mem h16 hr
  rw [q1, q2, own_udec m.1 m.2]
theorem own_nar16 {cs : List Int32} {r : Nat} (h16 : ∀ x ∈ cs, ¬ x < 0 ∧ ¬ 65535 < x) (hr : r < cs.length) : narrow .char (.int (cs.getD r 0)) = .int (cs.getD r 0) := by
  have m := getD_mem h16 hr
  show Value.int _ = _
  rw [i2c_in m.1 m.2]
theorem own_or3 {z zc : Int32} (h1 : ¬ z < 0) (h2 : ¬ zc < 0) : ¬ ((zc ||| (0 : Int32)) ||| z) < 0 := by
  have e0 : (0 : Int32).toInt = 0 := by decide
  rw [Int32.lt_iff_toInt_lt, e0] at h1 h2 ⊢
  have a := (c_orS zc 0).1 (by omega) (by rw [e0]; omega)
  have b := (c_orS (zc ||| 0) z).1 a (by omega)
  omega
theorem own_lt_irr (z : Int32) : ¬ z < z := by rw [Int32.lt_iff_toInt_lt]; omega
theorem own_sub0 {z : Int32} : z - (0 : Int32) = z := Int32.sub_zero z
end Jvm.OwnK
namespace Jvm.OwnK
open Jvm Sem ClassFile Op Lib Jvm.Free Jvm.Stand Jvm.LawKit Jvm.RoadKit Bundle
theorem own_fill {cs : List Int32} {i M : Nat} (hi : i < cs.length) (hM : i < M) : (cs.take i ++ List.replicate (M - i) (0 : Int32)).set i (cs.getD i 0) = cs.take (i + 1) ++ List.replicate (M - (i + 1)) (0 : Int32) := by
  have hl : (cs.take i).length = i := by rw [List.length_take]; omega
  have e : cs.getD i 0 = cs[i] := by simp [List.getD_eq_getElem?_getD, List.getElem?_eq_getElem hi]
  obtain ⟨k, hk⟩ : ∃ k, M - i = k + 1 := ⟨M - i - 1, by omega⟩
  have hk2 : M - (i + 1) = k := by omega
  rw [hk, hk2, List.set_append_right _ _ (by omega), hl, Nat.sub_self, List.replicate_succ, List.set_cons_zero, List.take_succ_eq_append_getElem hi, List.append_assoc, e]
  rfl
theorem own_padr (l : List Int32) (k i : Nat) : (l.map Value.int).getD i (.int (0 : Int32)) = ((l ++ List.replicate k (0 : Int32)).map Value.int).getD i (.int (0 : Int32)) := by
  rw [List.map_append, List.map_replicate]
  exact (pad_rep _ _ k i).symm
end Jvm.OwnK
namespace Jvm.OwnK
open Jvm Sem ClassFile Op Lib Jvm.Free Jvm.Stand Jvm.LawKit Jvm.RoadKit Bundle
theorem own_range_all (cs : List Int32) (k : Nat) (hl : cs.length = k) : cs.map Value.int = (List.range k).map fun i => (cs.map Value.int).getD (0 + i) (.int (0 : Int32)) := by
  subst hl
  apply List.ext_getElem (by simp)
  intro i h1 h2
  simp at h1 h2
  simp [List.getD_eq_getElem?_getD, h2]
theorem own_room1 {len zc : Int32} (h0 : ¬ len < 0) (hc : ¬ zc < 0) (h : len < zc) : ¬ (zc - len) < (1 : Int32) := by
  have e0 : (0 : Int32).toInt = 0 := by decide
  have e1 : (1 : Int32).toInt = 1 := by decide
  have r1 := rng32 zc
  have r2 := rng32 len
  have s := c_isub zc len
  have r := rng32 (zc - len)
  rw [Int32.lt_iff_toInt_lt] at h0 hc h ⊢
  omega
theorem own_push {cs : List Int32} {d : Int32} {m : Nat} (h : 0 < m) : (cs ++ List.replicate m (0 : Int32)).set cs.length d = (cs ++ [d]) ++ List.replicate (m - 1) (0 : Int32) := by
  obtain ⟨k, rfl⟩ : ∃ k, m = k + 1 := ⟨m - 1, by omega⟩
  rw [List.set_append_right _ _ (Nat.le_refl _), Nat.sub_self, List.replicate_succ, List.set_cons_zero, List.append_assoc]
  rfl
theorem own_0add {n : Int32} : (0 : Int32) + (n - (0 : Int32)) = n := by rw [own_sub0, Int32.zero_add]
end Jvm.OwnK
namespace Jvm.OwnK
open Jvm Sem ClassFile Op Lib Jvm.Free Jvm.Stand Jvm.LawKit Jvm.RoadKit Bundle
theorem own_addn {n k : Int32} (h0 : ¬ n < 0) (h : n.toNatClampNeg ≤ 256) (hk : ¬ k < 0) (hk2 : k.toNatClampNeg ≤ 2) : ¬ (n + k) < 0 ∧ (n + k).toNatClampNeg = n.toNatClampNeg + k.toNatClampNeg := by
  have e0 : (0 : Int32).toInt = 0 := by decide
  have n1 := clamp_toInt h0
  have n2 := clamp_toInt hk
  have a := c_iadd n k
  have r := rng32 (n + k)
  have v : (n + k).toInt = n.toInt + k.toInt := by omega
  rw [Int32.lt_iff_toInt_lt, e0, v]
  refine ⟨by omega, ?_⟩
  simp only [Int32.toNatClampNeg] at n1 n2 h hk2 ⊢
  rw [v]
  omega
theorem own_add1 {n : Int32} (h0 : ¬ n < 0) (h : n.toNatClampNeg ≤ 256) : ¬ (n + (1 : Int32)) < 0 ∧ (n + (1 : Int32)).toNatClampNeg = n.toNatClampNeg + 1 := own_addn (k := 1) h0 h (by decide) (by decide)
theorem own_add2 {n : Int32} (h0 : ¬ n < 0) (h : n.toNatClampNeg ≤ 256) : ¬ (n + (2 : Int32)) < 0 ∧ (n + (2 : Int32)).toNatClampNeg = n.toNatClampNeg + 2 := own_addn (k := 2) h0 h (by decide) (by decide)
theorem own_pos {n : Int32} (p : (0 : Int32) < n) : 0 < n.toNatClampNeg := by
  have e0 : (0 : Int32).toInt = 0 := by decide
  rw [Int32.lt_iff_toInt_lt, e0] at p
  simp only [Int32.toNatClampNeg]
  omega
theorem own_subn {n : Int32} (p : (0 : Int32) < n) (h : n.toNatClampNeg ≤ 256) : ¬ (n - (1 : Int32)) < 0 ∧ (n - (1 : Int32)).toNatClampNeg = n.toNatClampNeg - 1 := by
  have e0 : (0 : Int32).toInt = 0 := by decide
  have e1 : (1 : Int32).toInt = 1 := by decide
  have q := own_pos p
  rw [Int32.lt_iff_toInt_lt, e0] at p
  have a := c_isub n 1
  have r := rng32 (n - 1)
  have rn := rng32 n
  have v : (n - 1).toInt = n.toInt - 1 := by omega
  rw [Int32.lt_iff_toInt_lt, e0, v]
  refine ⟨by omega, ?_⟩
  simp only [Int32.toNatClampNeg]
  rw [v]
  omega
theorem own_add11 (n : Int32) : n + (1 : Int32) + (1 : Int32) = n + (2 : Int32) := by rw [Int32.add_assoc]; rfl
theorem own_all2 {K : List Int32} {P : Int32 → Prop} {c d : Int32} (h : ∀ x ∈ K, P x) (hc : P c) (hd : P d) : ∀ x ∈ (K ++ [c]) ++ [d], P x := fun x hx => by
  rcases List.mem_append.mp hx with q | q
  · rcases List.mem_append.mp q with q | q
    · exact h x q
    · rw [List.mem_singleton.mp q]; exact hc
  · rw [List.mem_singleton.mp q]; exact hd
theorem own_cases256 {n : Int32} (h0 : ¬ n < 0) (h : n.toNatClampNeg ≤ 256) : n.toNatClampNeg < 255 ∨ n.toNatClampNeg = 255 ∨ n.toNatClampNeg = 256 := by omega
theorem own_ne0 {x : Int32} {k : Nat} (h : x.toNatClampNeg = k + 2) : ¬ x = 0 := fun e => by
  rw [e] at h
  have e0 : (0 : Int32).toNatClampNeg = 0 := by decide
  omega
theorem own_T1 {K : List Int32} {k : Nat} {c d : Int32} (h : k = K.length) : ((K ++ [c]) ++ [d]).getD k 0 = c := by
  subst h; simp [List.getD_eq_getElem?_getD]
theorem own_T2 {K : List Int32} {k : Nat} {c d : Int32} (h : k = K.length) : ((K ++ [c]) ++ [d]).getD (k + 1) 0 = d := by
  subst h; simp [List.getD_eq_getElem?_getD]
theorem own_Tlt {K : List Int32} {j : Nat} {c d : Int32} (h : j < K.length) : ((K ++ [c]) ++ [d]).getD j 0 = K.getD j 0 := by
  simp only [List.getD_eq_getElem?_getD]
  rw [List.getElem?_append_left (by simp; omega), List.getElem?_append_left h]
theorem own_T3 {K : List Int32} {k : Nat} {c d : Int32} (h : k = K.length) (hp : 0 < k) : ((K ++ [c]) ++ [d]).getD (k - 1) 0 = K.getD (k - 1) 0 := own_Tlt (by omega)
theorem own_T4 {K : List Int32} {k : Nat} {c d : Int32} (h : k = K.length) (hp : 0 < k) : ((K ++ [c]) ++ [d]).getD 0 0 = K.getD 0 0 := own_Tlt (by omega)
theorem own_takeD {D : List Int32} {j k : Nat} (h : j < k) : (D.take k).getD j 0 = D.getD j 0 := by
  simp only [List.getD_eq_getElem?_getD, List.getElem?_take, h, if_true]
theorem own_D3 {k : Nat} {fi la : Int32} (hp : 0 < k) (h : k ≤ 256) : (((List.replicate 256 (0 : Int32)).set 0 fi).set (k - 1) la).getD (k - 1) 0 = la := by
  rw [own_getD_set _ _ _ _ (by rw [List.length_set, List.length_replicate]; omega), if_pos rfl]
theorem own_D4 {n : Int32} {fi la : Int32} (h0 : ¬ n < 0) (hp : 0 < n.toNatClampNeg) (h : n.toNatClampNeg ≤ 256) : (((List.replicate 256 (0 : Int32)).set 0 fi).set (n.toNatClampNeg - 1) la).getD 0 0 = if n = (1 : Int32) then la else fi := by
  rw [own_getD_set _ _ _ _ (by rw [List.length_set, List.length_replicate]; omega), own_getD_set _ _ _ _ (by rw [List.length_replicate]; decide)]
  have e1 : (1 : Int32).toNatClampNeg = 1 := by decide
  by_cases e : n = (1 : Int32)
  · subst e
    rw [if_pos (show (1 : Int32).toNatClampNeg - 1 = 0 by rw [e1]), if_pos rfl]
  · have : ¬ n.toNatClampNeg - 1 = 0 := fun q => e (own_clamp_inj h0 (by decide) (by rw [e1]; omega))
    rw [if_neg this, if_pos rfl, if_neg e]
theorem mask65535 (x : Int32) : ¬ (x &&& 65535) < 0 ∧ ¬ 65535 < (x &&& 65535) := by
  have h := c_and x 65535 (by decide)
  rw [Int32.lt_iff_toInt_lt, Int32.lt_iff_toInt_lt]
  have e1 : (65535 : Int32).toInt = 65535 := by decide
  have e0 : (0 : Int32).toInt = 0 := by decide
  omega
end Jvm.OwnK
namespace Jvm.OwnK
open Jvm Sem ClassFile Op Lib Jvm.Free Jvm.Stand Jvm.LawKit Jvm.RoadKit Bundle
theorem own_getD_in {cs : List Int32} {i : Nat} (h : i < cs.length) : cs.getD i 0 ∈ cs := by
  have e : cs.getD i 0 = cs[i] := by simp [List.getD_eq_getElem?_getD, List.getElem?_eq_getElem h]
  rw [e]; exact List.getElem_mem h
theorem own_take_len {cs : List Int32} {n : Nat} (h : cs.length ≤ n) : cs.take n = cs := List.take_of_length_le h
theorem Enc.uniq {bs bs' cs : List Int32} (h : Enc bs cs cs.length) (h' : Enc bs' cs cs.length) : bs = bs' := by
  have l1 := h.1
  have l2 := h'.1
  apply List.ext_getElem (by omega)
  intro i h1 h2
  have g : ∀ (l : List Int32) (hi : i < l.length), l.getD i 0 = l[i] := fun l hi => by simp [List.getD_eq_getElem?_getD, List.getElem?_eq_getElem hi]
  rw [← g bs h1, ← g bs' h2]
  obtain ⟨k, hk⟩ : ∃ k, i = 2 * k ∨ i = 2 * k + 1 := ⟨i / 2, by omega⟩
  rcases hk with rfl | rfl
  · rw [(h.2 k (by omega)).1, (h'.2 k (by omega)).1]
  · rw [(h.2 k (by omega)).2, (h'.2 k (by omega)).2]
theorem own_255D {h t : Int32} : (((List.replicate 255 (0 : Int32)).set 0 h).set 254 t).getD 0 0 = h ∧ (((List.replicate 255 (0 : Int32)).set 0 h).set 254 t).getD 1 0 = 0 ∧ (((List.replicate 255 (0 : Int32)).set 0 h).set 254 t).getD 254 0 = t := by
  have A := fun k => own_getD_set ((List.replicate 255 (0 : Int32)).set 0 h) 254 k t (by rw [List.length_set, List.length_replicate]; decide)
  have B := fun k => own_getD_set (List.replicate 255 (0 : Int32)) 0 k h (by rw [List.length_replicate]; decide)
  refine ⟨?_, ?_, ?_⟩
  · rw [A, if_neg (by decide), B, if_pos rfl]
  · rw [A, if_neg (by decide), B, if_neg (by decide)]; rfl
  · rw [A, if_pos rfl]
theorem own_ap_lt {K : List Int32} {d : Int32} {j : Nat} (h : j < K.length) : (K ++ [d]).getD j 0 = K.getD j 0 := by
  simp only [List.getD_eq_getElem?_getD]
  rw [List.getElem?_append_left h]
theorem own_ap_eq {K : List Int32} {d : Int32} {j : Nat} (h : j = K.length) : (K ++ [d]).getD j 0 = d := by
  subst h; simp [List.getD_eq_getElem?_getD]
theorem own_ap_all {K : List Int32} {P : Int32 → Prop} {d : Int32} (h : ∀ x ∈ K, P x) (hd : P d) : ∀ x ∈ K ++ [d], P x := fun x hx => by
  rcases List.mem_append.mp hx with q | q
  · exact h x q
  · rw [List.mem_singleton.mp q]; exact hd
theorem own_and3 (x : Int32) : (x &&& (3 : Int32)) = (0 : Int32) ∨ (x &&& (3 : Int32)) = (1 : Int32) ∨ (x &&& (3 : Int32)) = (2 : Int32) ∨ (x &&& (3 : Int32)) = (3 : Int32) := by
  have h := c_and x 3 (by decide)
  simp only [← Int32.toInt_inj]
  have e0 : (0 : Int32).toInt = 0 := by decide
  have e1 : (1 : Int32).toInt = 1 := by decide
  have e2 : (2 : Int32).toInt = 2 := by decide
  have e3 : (3 : Int32).toInt = 3 := by decide
  omega
end Jvm.OwnK
namespace Jvm.OwnK
open Jvm Sem ClassFile Op Lib Jvm.Free Jvm.Stand Jvm.LawKit Jvm.RoadKit Bundle
theorem own_shl0 (x : Int32) : x <<< ((0 : Int32) &&& 31) = x := by
  apply Int32.toInt_inj.mp
  have l := c_ishl x 0 0 (by decide)
  have p0 : ((2 ^ 0 : Nat) : Int) = 1 := by decide
  rw [p0] at l
  have r := rng32 (x <<< ((0 : Int32) &&& 31))
  have r2 := rng32 x
  omega
theorem own_sbcat {us ws : List Int32} {k j m : Nat} (hk : k = us.length) (hj : j = ws.length) (i : Nat) : ((us ++ ws).map Value.int).getD i (Value.int (0 : Int32)) = ((us.map Value.int ++ List.replicate m (Value.int (0 : Int32))).take k ++ ws.map Value.int ++ (us.map Value.int ++ List.replicate m (Value.int (0 : Int32))).drop (k + j)).getD i (Value.int (0 : Int32)) := by
  subst hk hj
  have e1 : (us.map Value.int ++ List.replicate m (Value.int (0 : Int32))).take us.length = us.map Value.int := by
    rw [List.take_append_of_le_length (by simp), List.take_of_length_le (by simp)]
  have e2 : (us.map Value.int ++ List.replicate m (Value.int (0 : Int32))).drop (us.length + ws.length) = List.replicate (m - ws.length) (Value.int (0 : Int32)) := by
    rw [List.drop_append, List.drop_of_length_le (by simp), List.nil_append, List.drop_replicate]
    congr 1
    simp
  rw [e1, e2, ← List.map_append]
  exact (pad_rep _ _ _ i).symm
end Jvm.OwnK
namespace Jvm.OwnK
open Jvm Sem ClassFile Op Lib Jvm.Free Jvm.Stand Jvm.LawKit Jvm.RoadKit Bundle
theorem own_fit34 {cnt z2 : Int32} (h1 : ¬ cnt < 0) (h2 : ¬ z2 < 0) (h : cnt.toNatClampNeg + z2.toNatClampNeg ≤ 34) : ¬ (0 : Int32) < (cnt + z2 - (34 : Int32)) := by
  have n1 := clamp_toInt h1
  have n2 := clamp_toInt h2
  have e0 : (0 : Int32).toInt = 0 := by decide
  have e34 : (34 : Int32).toInt = 34 := by decide
  have a := c_iadd cnt z2
  have r := rng32 (cnt + z2)
  have b := c_isub (cnt + z2) 34
  have r2 := rng32 (cnt + z2 - 34)
  rw [Int32.lt_iff_toInt_lt, e0]
  omega
end Jvm.OwnK
namespace Jvm.OwnK
open Jvm Sem ClassFile Op Lib Jvm.Free Jvm.Stand Jvm.LawKit Jvm.RoadKit Bundle
theorem own_min34 {cnt : Int32} (h0 : ¬ cnt < 0) (h : cnt.toNatClampNeg ≤ 34) : (if cnt < (34 : Int32) then cnt else (34 : Int32)) = cnt := by
  by_cases q : cnt < (34 : Int32)
  · rw [if_pos q]
  · rw [if_neg q]
    have n := clamp_toInt h0
    have e : (34 : Int32).toInt = 34 := by decide
    rw [Int32.lt_iff_toInt_lt, e] at q
    apply Int32.toInt_inj.mp
    rw [e]
    omega
theorem own_cpall {us : List Int32} {k : Nat} (hk : k = us.length) (i : Nat) : (us.map Value.int).getD i (Value.int (0 : Int32)) = ((List.replicate us.length (Value.int (0 : Int32))).take (0 : Int32).toNatClampNeg ++ us.map Value.int ++ (List.replicate us.length (Value.int (0 : Int32))).drop ((0 : Int32).toNatClampNeg + k)).getD i (Value.int (0 : Int32)) := by
  have e : (0 : Int32).toNatClampNeg = 0 := by decide
  rw [e, List.take_zero, List.nil_append, List.drop_of_length_le (by simp; omega), List.append_nil]
theorem own_addc {c z : Int32} (h1 : ¬ c < 0) (h2 : ¬ z < 0) (h : c.toNatClampNeg + z.toNatClampNeg < 1000) : ¬ (c + z) < 0 ∧ (c + z).toNatClampNeg = c.toNatClampNeg + z.toNatClampNeg := by
  have n1 := clamp_toInt h1
  have n2 := clamp_toInt h2
  have e0 : (0 : Int32).toInt = 0 := by decide
  have a := c_iadd c z
  have r := rng32 (c + z)
  have q : ¬ (c + z) < 0 := by
    rw [Int32.lt_iff_toInt_lt, e0]
    omega
  have n3 := clamp_toInt q
  exact ⟨q, by omega⟩
end Jvm.OwnK
namespace Jvm.OwnK
open Jvm Sem ClassFile Op Lib Jvm.Free Jvm.Stand Jvm.LawKit Jvm.RoadKit Bundle Jvm.Free.Exc
open LibCode.Throwable
theorem own_params {d : String} {sig : MethodDescriptor} {ps : List FieldType} (h : parseMethodDescriptor d = some sig) (e : (parseMethodDescriptor d).map (·.parameters) = some ps) : sig.parameters = ps := by
  rw [h] at e; exact Option.some.inj e
/-- Throwable's parts at s, where the layout of suppressedExceptions is told of the class rc only -/
theorem own_links {s : State} {args : Array Value} {pl : Platform} {rc : String} (howns : pl.frameOwnsMonitors = true) (hfin : pl.finalization = false) (hpl : pl.magicAccessors = ({} : Platform).magicAccessors)
    (wI : (Jvm.Cond.initialized tN).before args s = true) (wSup : (Jvm.Cond.superclass tN "java/lang/Object").before args s = true)
    (wF : (Jvm.Cond.instanceMethod tFill).before args s = true) (wFc : (Jvm.Cond.codeSync tFill Fill.code 1 (some (.object tN))).before args s = true) (w0 : (Jvm.Cond.instanceMethod tFill0).before args s = true) (w0n : (Jvm.Cond.native tFill0).before args s = true)
    (wO : (Jvm.Cond.instanceMethod oInit).before args s = true) (wOc : (Jvm.Cond.code oInit ⟨#[0xb1]⟩ 1 none).before args s = true)
    (m1 : (Jvm.Cond.methodLink tN 1 oInit).before args s = true) (m27 : (Jvm.Cond.methodLink tN 27 tFill).before args s = true) (m202 : (Jvm.Cond.methodLink tN 202 tFill0).before args s = true)
    (f7 : (Jvm.Cond.fieldLink tN 7 tN "cause" thD).before args s = true) (f17 : (Jvm.Cond.fieldLink tN 17 tN "stackTrace" steD).before args s = true) (f24 : (Jvm.Cond.fieldLink tN 24 tN "suppressedExceptions" listD).before args s = true) (f13 : (Jvm.Cond.fieldLink tN 13 tN "UNASSIGNED_STACK" steD).before args s = true) (f20 : (Jvm.Cond.fieldLink tN 20 tN "SUPPRESSED_SENTINEL" listD).before args s = true)
    (l7 : (Jvm.Cond.lays rc tN "cause" thD).before args s = true) (l17 : (Jvm.Cond.lays rc tN "stackTrace" steD).before args s = true) (l24 : (Jvm.Cond.lays rc tN "suppressedExceptions" listD).before args s = true) (lM : (Jvm.Cond.lays rc tN "detailMessage" msgD).before args s = true)
    {c13 c20 i13 i20 : Nat} {k13 k20 : Class} {g13 g20 : Field} {aS : Addr} (u13 : s.fieldFound? tN "UNASSIGNED_STACK" steD = some (c13, k13, i13, g13)) (t13 : g13.isStatic = true) (d13 : s.vm.findClass tN = some c13) (sS : k13.statics = some aS)
    (u20 : s.fieldFound? tN "SUPPRESSED_SENTINEL" listD = some (c20, k20, i20, g20)) (t20 : g20.isStatic = true) (d20 : s.vm.findClass tN = some c20) :
    ∃ (T : ThrowableC) (iS : Nat), T.Links pl s ∧ s.vm.findClass tN = some T.cT ∧ s.methodNamed? tFill = some T.fill ∧ s.methodNamed? tFill0 = some T.fill0 ∧ s.fieldFound? tN "stackTrace" steD = some (T.cT, T.kT, iS, T.fStack) ∧ T.fStack.name = "stackTrace" ∧ T.fStack.type = .array (.object "java/lang/StackTraceElement") ∧ T.fUnassigned = g13 ∧ T.aS = aS := by
  obtain ⟨k, hk, hname⟩ := Vm.findClass_spec d13
  obtain rfl : k13 = k := Option.some.inj ((State.fieldFound?_spec u13).1.symm.trans hk)
  obtain rfl : c20 = c13 := Option.some.inj (d20.symm.trans d13)
  obtain rfl : k20 = k13 := Option.some.inj ((State.fieldFound?_spec u20).1.symm.trans hk)
  have hinit := Cond.initialized_spec d13 hk wI
  have hni : k20.isInterface = false := by
    obtain ⟨_, k1, _, _, hk1, _, _, _, _, q⟩ := Cond.superclass_spec d13 wSup
    cases hk.symm.trans hk1
    exact q
  -- the two methods
  obtain ⟨iF, mF, nF, vF, aF, sF, bF, -, -⟩ := Cond.ownMethod (x := tFill) d13 hk wF
  obtain ⟨mF', cF, vF', eF, yF, lF, rF, kF, -, gF⟩ := Cond.codeSync_spec nF wFc
  cases vF.symm.trans vF'
  obtain ⟨i0, m0, n0, v0, a0, s0, b0, nm0, ds0⟩ := Cond.ownMethod (x := tFill0) d13 hk w0
  obtain ⟨id0, m0', n0', v0', na0, c0, lk0, g0⟩ := Cond.native_spec w0n
  cases n0.symm.trans n0'
  cases v0.symm.trans v0'
  -- Object's constructor
  obtain ⟨mO, mthO, nO, vO, sO, bO⟩ := Cond.instanceMethod_spec wO
  obtain ⟨mthO', cO, vO', eO, yO, lO, -, kO, -, gO⟩ := Cond.code_spec nO wOc
  cases vO.symm.trans vO'
  obtain ⟨kOb, hkO, hnO⟩ := Vm.findClass_spec (findClass_of_methodNamed nO)
  obtain ⟨nmO, dsO⟩ := name_of_methodNamed nO vO
  -- the links
  obtain ⟨ci1, n1, cf, hl1, hr1, hcf, hp1⟩ := Cond.linkedMethod d13 hk nO m1 pl hpl
  obtain ⟨ci27, n27, cf27, hl27, hr27, hcf27, hp27⟩ := Cond.linkedMethod d13 hk nF m27 pl hpl
  cases hcf.symm.trans hcf27
  obtain ⟨ci202, n202, cf202, hl202, hr202, hcf202, hp202⟩ := Cond.linkedMethod d13 hk n0 m202 pl hpl
  cases hcf.symm.trans hcf202
  obtain ⟨ci7, i7, g7, A7, B7, C7, D7, E7, F7, G7, H7⟩ := Cond.ownField (t := .object tN) d13 hk (by decide +kernel) f7 l7 pl hpl
  obtain ⟨ci17, i17, g17, A17, B17, C17, D17, E17, F17, G17, H17⟩ := Cond.ownField (t := .array (.object "java/lang/StackTraceElement")) d13 hk (by decide +kernel) f17 l17 pl hpl
  obtain ⟨ci24, i24, g24, A24, B24, C24, D24, E24, F24, G24, H24⟩ := Cond.ownField (t := .object "java/util/List") d13 hk (by decide +kernel) f24 l24 pl hpl
  obtain ⟨ci13, x1, x2, x3, x4, x5, A13, B13⟩ := Cond.fieldLink_spec d13 f13 pl hpl
  cases u13.symm.trans x5
  obtain ⟨ci20, y1, y2, y3, y4, y5, A20, B20⟩ := Cond.fieldLink_spec d13 f20 pl hpl
  cases u20.symm.trans y5
  obtain ⟨cR, kR, cM, kM, iM, gM, hcR, hkR, hfM, sM, fM, -⟩ := Cond.lays_spec lM
  have apart : g17.slot ≠ g24.slot := by
    obtain ⟨-, p, p1, p2⟩ := Cond.laysAt hcR hkR H17 l17
    obtain ⟨-, r, r1, r2⟩ := Cond.laysAt hcR hkR H24 l24
    exact Cond.laysApart p1 r1 p2 r2 (by rw [F17, F24]; decide)
  refine ⟨{ cT := c20, kT := k20, cO := c20, aS := aS, fillIdx := iF, fill0Idx := i0, initSIdx := iF, obj := mO, kObj := kOb, methFill := mF, methFill0 := m0, methInitS := mF, methObj := mthO, codeFill := cF, codeInitS := cF, codeObj := cO, fBack := g7, fDepth := g7, fStack := g17, fCause := g7, fSupp := g24, fMsg := gM, fUnassigned := g13, fSentinel := g20, cfT := cf, ci1 := ci1, n1 := n1, ci27 := ci27, n27 := n27, ci202 := ci202, n202 := n202, ci7 := ci7, i7 := i7, ci13 := ci13, i13 := i13, ci17 := ci17, i17 := i17, ci20 := ci20, i20 := i20, ci24 := ci24, i24 := i24 }, i17, ?_, d13, nF, n0, H17, F17, G17, rfl, rfl⟩
  constructor
  all_goals first
    | assumption
    | exact hname
    | exact Vm.findClass_boot d13 hk
    | exact nm0
    | exact ds0
    | exact (State.fieldFound?_spec u13).2
    | exact (State.fieldFound?_spec u20).2
    | exact own_params gF (by decide +kernel)
    | exact own_params g0 (by decide +kernel)
    | (show mthO.sig.parameters.length = 0; rw [own_params gO (ps := []) (by decide +kernel)]; rfl)
    | (show lookupSpecial s.vm mO.cls "<init>" mthO.desc = .method mO; rw [dsO]; exact lookupSpecial_of_named nO vO sO)
end Jvm.OwnK
namespace Jvm.OwnK
open Jvm Sem ClassFile Op Lib Jvm.Free Jvm.Stand Jvm.LawKit Jvm.RoadKit Bundle Jvm.Free.Exc
theorem own_ff {Z s : State} {vm0 : Vm} {C n d : String} {c i : Nat} {k : Class} {f : Field} (al : Z.vm.Alike vm0) (h : Z.fieldFound? C n d = some (c, k, i, f)) : ∃ k', (s.setVm vm0).fieldFound? C n d = some (c, k', i, f) ∧ k'.statics = k.statics := by
  obtain ⟨k', h1, h2⟩ := State.fieldFound?_setVm al h
  exact ⟨k', h1, by rw [h2]⟩
theorem own_unt_wr {h h' : Heap} {a b : Addr} {sl : Nat} {v : Value} (W : Wr h h' b sl v) (U : Unt h a) : Unt h' a := by
  obtain ⟨cell, q1, q2, q3⟩ := U
  obtain ⟨c0, w1, w2, w3, rfl⟩ := W
  by_cases e : b = a
  · subst e
    cases q1.symm.trans w1
    refine ⟨cell.setSlot sl v, ?_, q2, q3⟩
    have lt := (Array.getElem?_eq_some_iff.mp q1).1
    simp [Array.getElem?_setIfInBounds, lt]
  · exact ⟨cell, by rw [Array.getElem?_setIfInBounds_ne e]; exact q1, q2, q3⟩
theorem own_unt_keep {h h' : Heap} {a : Addr} {ws : List Addr} (K : Keep h h' ws) (q : a ∉ ws) (U : Unt h a) : Unt h' a := by
  obtain ⟨cell, q1, q2, q3⟩ := U
  exact ⟨cell, K.2.1 _ _ q1 q, q2, q3⟩
end Jvm.OwnK

namespace Jvm.OwnK
open Jvm Sem ClassFile Op Lib Jvm.Free Jvm.Stand Jvm.LawKit Jvm.RoadKit Bundle Jvm.Free.Exc
/-- what the sheet says of Throwable and of the exception's class rc -/
def ThrWL (rc : String) (nn : Nat) : List Jvm.Cond := [(Jvm.Cond.initialized tN), (Jvm.Cond.superclass tN "java/lang/Object"), (Jvm.Cond.instanceMethod tFill), (Jvm.Cond.codeSync tFill LibCode.Throwable.Fill.code 1 (some (.object tN))), (Jvm.Cond.instanceMethod tFill0), (Jvm.Cond.native tFill0), (Jvm.Cond.instanceMethod oInit), (Jvm.Cond.code oInit ⟨#[0xb1]⟩ 1 none), (Jvm.Cond.methodLink tN 1 oInit), (Jvm.Cond.methodLink tN 27 tFill), (Jvm.Cond.methodLink tN 202 tFill0), (Jvm.Cond.fieldLink tN 7 tN "cause" thD), (Jvm.Cond.fieldLink tN 17 tN "stackTrace" steD), (Jvm.Cond.fieldLink tN 24 tN "suppressedExceptions" listD), (Jvm.Cond.fieldLink tN 13 tN "UNASSIGNED_STACK" steD), (Jvm.Cond.fieldLink tN 20 tN "SUPPRESSED_SENTINEL" listD), (Jvm.Cond.fieldLink tN 198 tN "backtrace" obD), (Jvm.Cond.lays rc tN "cause" thD), (Jvm.Cond.lays rc tN "stackTrace" steD), (Jvm.Cond.lays rc tN "suppressedExceptions" listD), (Jvm.Cond.lays rc tN "detailMessage" msgD), (Jvm.Cond.lays rc tN "backtrace" obD), (Jvm.Cond.lays rc tN "depth" "I"), (Jvm.Cond.soleField tN "backtrace"), (Jvm.Cond.soleField tN "depth"), (Jvm.Cond.arrayOver (.object "java/lang/Object")), (Jvm.Cond.selects rc tFill0 tFill0), (Jvm.Cond.instantiable rc nn), (Jvm.Cond.laysStatic tN "UNASSIGNED_STACK" steD), (Jvm.Cond.laysStatic tN "SUPPRESSED_SENTINEL" listD)]
def ThrW (Z : State) (a0 : Array Value) (rc : String) (nn : Nat) : Prop := ∀ d ∈ ThrWL rc nn, d.before a0 Z = true
theorem ThrW.wI {Z : State} {a0 : Array Value} {rc : String} {nn : Nat} (w : ThrW Z a0 rc nn) : (Jvm.Cond.initialized tN).before a0 Z = true := w _ (List.mem_of_getElem? (i := 0) rfl)
theorem ThrW.wSup {Z : State} {a0 : Array Value} {rc : String} {nn : Nat} (w : ThrW Z a0 rc nn) : (Jvm.Cond.superclass tN "java/lang/Object").before a0 Z = true := w _ (List.mem_of_getElem? (i := 1) rfl)
theorem ThrW.wF {Z : State} {a0 : Array Value} {rc : String} {nn : Nat} (w : ThrW Z a0 rc nn) : (Jvm.Cond.instanceMethod tFill).before a0 Z = true := w _ (List.mem_of_getElem? (i := 2) rfl)
theorem ThrW.wFc {Z : State} {a0 : Array Value} {rc : String} {nn : Nat} (w : ThrW Z a0 rc nn) : (Jvm.Cond.codeSync tFill LibCode.Throwable.Fill.code 1 (some (.object tN))).before a0 Z = true := w _ (List.mem_of_getElem? (i := 3) rfl)
theorem ThrW.w0 {Z : State} {a0 : Array Value} {rc : String} {nn : Nat} (w : ThrW Z a0 rc nn) : (Jvm.Cond.instanceMethod tFill0).before a0 Z = true := w _ (List.mem_of_getElem? (i := 4) rfl)
theorem ThrW.w0n {Z : State} {a0 : Array Value} {rc : String} {nn : Nat} (w : ThrW Z a0 rc nn) : (Jvm.Cond.native tFill0).before a0 Z = true := w _ (List.mem_of_getElem? (i := 5) rfl)
theorem ThrW.wO {Z : State} {a0 : Array Value} {rc : String} {nn : Nat} (w : ThrW Z a0 rc nn) : (Jvm.Cond.instanceMethod oInit).before a0 Z = true := w _ (List.mem_of_getElem? (i := 6) rfl)
theorem ThrW.wOc {Z : State} {a0 : Array Value} {rc : String} {nn : Nat} (w : ThrW Z a0 rc nn) : (Jvm.Cond.code oInit ⟨#[0xb1]⟩ 1 none).before a0 Z = true := w _ (List.mem_of_getElem? (i := 7) rfl)
theorem ThrW.m1 {Z : State} {a0 : Array Value} {rc : String} {nn : Nat} (w : ThrW Z a0 rc nn) : (Jvm.Cond.methodLink tN 1 oInit).before a0 Z = true := w _ (List.mem_of_getElem? (i := 8) rfl)
theorem ThrW.m27 {Z : State} {a0 : Array Value} {rc : String} {nn : Nat} (w : ThrW Z a0 rc nn) : (Jvm.Cond.methodLink tN 27 tFill).before a0 Z = true := w _ (List.mem_of_getElem? (i := 9) rfl)
theorem ThrW.m202 {Z : State} {a0 : Array Value} {rc : String} {nn : Nat} (w : ThrW Z a0 rc nn) : (Jvm.Cond.methodLink tN 202 tFill0).before a0 Z = true := w _ (List.mem_of_getElem? (i := 10) rfl)
theorem ThrW.f7 {Z : State} {a0 : Array Value} {rc : String} {nn : Nat} (w : ThrW Z a0 rc nn) : (Jvm.Cond.fieldLink tN 7 tN "cause" thD).before a0 Z = true := w _ (List.mem_of_getElem? (i := 11) rfl)
theorem ThrW.f17 {Z : State} {a0 : Array Value} {rc : String} {nn : Nat} (w : ThrW Z a0 rc nn) : (Jvm.Cond.fieldLink tN 17 tN "stackTrace" steD).before a0 Z = true := w _ (List.mem_of_getElem? (i := 12) rfl)
theorem ThrW.f24 {Z : State} {a0 : Array Value} {rc : String} {nn : Nat} (w : ThrW Z a0 rc nn) : (Jvm.Cond.fieldLink tN 24 tN "suppressedExceptions" listD).before a0 Z = true := w _ (List.mem_of_getElem? (i := 13) rfl)
theorem ThrW.f13 {Z : State} {a0 : Array Value} {rc : String} {nn : Nat} (w : ThrW Z a0 rc nn) : (Jvm.Cond.fieldLink tN 13 tN "UNASSIGNED_STACK" steD).before a0 Z = true := w _ (List.mem_of_getElem? (i := 14) rfl)
theorem ThrW.f20 {Z : State} {a0 : Array Value} {rc : String} {nn : Nat} (w : ThrW Z a0 rc nn) : (Jvm.Cond.fieldLink tN 20 tN "SUPPRESSED_SENTINEL" listD).before a0 Z = true := w _ (List.mem_of_getElem? (i := 15) rfl)
theorem ThrW.f198 {Z : State} {a0 : Array Value} {rc : String} {nn : Nat} (w : ThrW Z a0 rc nn) : (Jvm.Cond.fieldLink tN 198 tN "backtrace" obD).before a0 Z = true := w _ (List.mem_of_getElem? (i := 16) rfl)
theorem ThrW.l7 {Z : State} {a0 : Array Value} {rc : String} {nn : Nat} (w : ThrW Z a0 rc nn) : (Jvm.Cond.lays rc tN "cause" thD).before a0 Z = true := w _ (List.mem_of_getElem? (i := 17) rfl)
theorem ThrW.l17 {Z : State} {a0 : Array Value} {rc : String} {nn : Nat} (w : ThrW Z a0 rc nn) : (Jvm.Cond.lays rc tN "stackTrace" steD).before a0 Z = true := w _ (List.mem_of_getElem? (i := 18) rfl)
theorem ThrW.l24 {Z : State} {a0 : Array Value} {rc : String} {nn : Nat} (w : ThrW Z a0 rc nn) : (Jvm.Cond.lays rc tN "suppressedExceptions" listD).before a0 Z = true := w _ (List.mem_of_getElem? (i := 19) rfl)
theorem ThrW.lM {Z : State} {a0 : Array Value} {rc : String} {nn : Nat} (w : ThrW Z a0 rc nn) : (Jvm.Cond.lays rc tN "detailMessage" msgD).before a0 Z = true := w _ (List.mem_of_getElem? (i := 20) rfl)
theorem ThrW.lB {Z : State} {a0 : Array Value} {rc : String} {nn : Nat} (w : ThrW Z a0 rc nn) : (Jvm.Cond.lays rc tN "backtrace" obD).before a0 Z = true := w _ (List.mem_of_getElem? (i := 21) rfl)
theorem ThrW.lD {Z : State} {a0 : Array Value} {rc : String} {nn : Nat} (w : ThrW Z a0 rc nn) : (Jvm.Cond.lays rc tN "depth" "I").before a0 Z = true := w _ (List.mem_of_getElem? (i := 22) rfl)
theorem ThrW.sB {Z : State} {a0 : Array Value} {rc : String} {nn : Nat} (w : ThrW Z a0 rc nn) : (Jvm.Cond.soleField tN "backtrace").before a0 Z = true := w _ (List.mem_of_getElem? (i := 23) rfl)
theorem ThrW.sD {Z : State} {a0 : Array Value} {rc : String} {nn : Nat} (w : ThrW Z a0 rc nn) : (Jvm.Cond.soleField tN "depth").before a0 Z = true := w _ (List.mem_of_getElem? (i := 24) rfl)
theorem ThrW.wA {Z : State} {a0 : Array Value} {rc : String} {nn : Nat} (w : ThrW Z a0 rc nn) : (Jvm.Cond.arrayOver (.object "java/lang/Object")).before a0 Z = true := w _ (List.mem_of_getElem? (i := 25) rfl)
theorem ThrW.wS {Z : State} {a0 : Array Value} {rc : String} {nn : Nat} (w : ThrW Z a0 rc nn) : (Jvm.Cond.selects rc tFill0 tFill0).before a0 Z = true := w _ (List.mem_of_getElem? (i := 26) rfl)
theorem ThrW.wi {Z : State} {a0 : Array Value} {rc : String} {nn : Nat} (w : ThrW Z a0 rc nn) : (Jvm.Cond.instantiable rc nn).before a0 Z = true := w _ (List.mem_of_getElem? (i := 27) rfl)
theorem ThrW.s13 {Z : State} {a0 : Array Value} {rc : String} {nn : Nat} (w : ThrW Z a0 rc nn) : (Jvm.Cond.laysStatic tN "UNASSIGNED_STACK" steD).before a0 Z = true := w _ (List.mem_of_getElem? (i := 28) rfl)
theorem ThrW.s20 {Z : State} {a0 : Array Value} {rc : String} {nn : Nat} (w : ThrW Z a0 rc nn) : (Jvm.Cond.laysStatic tN "SUPPRESSED_SENTINEL" listD).before a0 Z = true := w _ (List.mem_of_getElem? (i := 29) rfl)
set_option maxHeartbeats 4000000 in
theorem own_fillPays {l : Launch} {Z : State} {EL : List (String × Nat)} {n0 : Nat} {nr : Bool} {R : Room} {a0 : Array Value} {rc : String} {nn W : Nat} {h : Heap} {a u0 : Addr} (hl : l.stackTraces = true) (w : ThrW Z a0 rc nn)
    (hU : Sta Z Z.heap tN "UNASSIGNED_STACK" steD (.ref u0)) (E : Exa Z h a rc) (N : Unt h a) (FS : Fld Z h a tN "stackTrace" steD (.ref u0)) (FB : Fld Z h a tN "backtrace" obD .null) (hR1 : 2 < R.frames) (hR2 : W + 42 ≤ R.locals) :
    Pays l Z EL n0 nr true R 3 tFill W 1 2752 [a] #[.ref a] h (fun v h' SN => v = some (.ref a) ∧ SN = [] ∧ Exa Z h' a rc ∧ ∀ x, Fld Z h a tN "detailMessage" msgD x → Fld Z h' a tN "detailMessage" msgD x) := by
  intro p e below s args vm0 hx hZ hC hSf hO hEL hkn
  obtain ⟨hTK, hBl⟩ := hkn rfl
  obtain ⟨a1, hE1⟩ := hEL
  intro m meth c A g ig mk a' X hg hsize hdg hW hn hp
  have hZ' : Z.Warmed39 (s.setVm vm0).vm := hZ
  have al : Z.vm.Alike vm0 := hZ.alike
  have hpl : e.platform.magicAccessors = ({} : Platform).magicAccessors := by rw [X.admits.platform]
  have htr : e.platform.stackTraces = true := by rw [X.admits.platform]; exact hl
  have howns : e.platform.frameOwnsMonitors = true := by rw [X.admits.platform]
  have hfin : e.platform.finalization = false := by rw [X.admits.platform]
  obtain ⟨c13, k13, i13, g13, aS, cellS, hc13, hi13, t13, sS, hcS, hiss, hcls, hlt, hty⟩ := Cond.laysStatic_spec w.s13
  obtain ⟨c20, k20, i20, g20, aS2, cellS2, hc20, hi20, t20, sS2, -⟩ := Cond.laysStatic_spec w.s20
  obtain ⟨k13', u13, e13⟩ := own_ff (s := s) al hi13
  obtain ⟨k20', u20, e20⟩ := own_ff (s := s) al hi20
  have d13 : (s.setVm vm0).vm.findClass tN = some c13 := by show vm0.findClass tN = _; rw [al.findClass]; exact hc13
  have d20 : (s.setVm vm0).vm.findClass tN = some c20 := by show vm0.findClass tN = _; rw [al.findClass]; exact hc20
  obtain ⟨T, iS, L, q1, q2, q3, q4, q5, q6, q7, q8⟩ := own_links (s := s.setVm vm0) (args := args) (pl := e.platform) (rc := rc) howns hfin hpl (mvT hZ' w.wI) (mvT hZ' w.wSup) (mvT hZ' w.wF) (mvT hZ' w.wFc) (mvT hZ' w.w0) (mvT hZ' w.w0n) (mvT hZ' w.wO) (mvT hZ' w.wOc) (mvT hZ' w.m1) (mvT hZ' w.m27) (mvT hZ' w.m202) (mvT hZ' w.f7) (mvT hZ' w.f17) (mvT hZ' w.f24) (mvT hZ' w.f13) (mvT hZ' w.f20) (mvT hZ' w.l7) (mvT hZ' w.l17) (mvT hZ' w.l24) (mvT hZ' w.lM) u13 t13 d13 (e13.trans sS) u20 t20 d20
  obtain ⟨cell, hcell, hvm, hmon⟩ := N
  obtain ⟨cellE, kX, hE2, hfc, hkX, hstE, hszE⟩ := E
  cases hcell.symm.trans hE2
  obtain ⟨cI, kI, hI1, hI2, hord, -, -, hIsz⟩ := Cond.instantiable_spec w.wi
  cases hI1.symm.trans hfc
  cases hI2.symm.trans hkX
  obtain ⟨kX', hk', hek⟩ := al.2.2 _ _ hkX
  have hord' : kX'.kind = .ordinary := by rw [hek]; exact hord
  have hsz' : cell.slots.size = kX'.instanceTypes.size := by rw [hek]; exact hszE hord
  have hfc' : (s.setVm vm0).vm.findClass rc = some cell.cls := by show vm0.findClass rc = _; rw [al.findClass]; exact hfc
  obtain ⟨ci198, i198, fB, A1, A2, A3, A4, A5, A6, A7, A8⟩ := Cond.ownField (t := .object "java/lang/Object") q1 L.cls (by decide +kernel) (mvT hZ' w.f198 (args := args)) (mvT hZ' w.lB (args := args)) e.platform hpl
  have lD' : (Jvm.Cond.lays rc tN "depth" "I").before args (s.setVm vm0) = true := mvT hZ' w.lD
  obtain ⟨_, _, cD, kD, iD, fD, -, -, D3, D4, D5, -⟩ := Cond.lays_spec lD'
  cases Option.some.inj ((Cond.lays_declared lD' D3).symm.trans q1)
  obtain ⟨hkD, hatD⟩ := State.fieldFound?_spec D3
  cases hkD.symm.trans L.cls
  obtain ⟨hnD, htD⟩ := State.fieldFound?_type D3 (t := .int) (by decide +kernel)
  have hfb := Cond.soleField_find q1 L.cls (mvT hZ' w.sB (args := args)) A3 A6 A4
  have hfd := Cond.soleField_find q1 L.cls (mvT hZ' w.sD (args := args)) hatD hnD D4
  obtain ⟨comp, cO, kO, -, -, hkO, hkindO, hOb⟩ := Cond.arrayOver_spec (Cond.arrayOver_alike (a' := args) (U' := s.setVm vm0) al w.wA)
  obtain ⟨tyS, dS, hdS, hdnS⟩ := Cond.laysAt hfc' hk' q4 (mvT hZ' w.l17 (args := args))
  obtain ⟨tyB, dB, hdB, hdnB⟩ := Cond.laysAt hfc' hk' A8 (mvT hZ' w.lB (args := args))
  obtain ⟨tyD, dD, hdD, hdnD⟩ := Cond.laysAt hfc' hk' D3 lD'
  have tk : ∀ {f : Field} {v : Value}, kX'.instanceTypes[f.slot]? = some f.type → fits f.type v = true → Jvm.Takes (s.setVm vm0) cell f v := fun {f v} h1 h2 => by
    obtain ⟨r1, r2⟩ := Takes.of_laid (s := s.setVm vm0) (v := v) hk' hord' h1 h2
    exact ⟨by rw [hsz']; simpa using r1, by rw [hvm]; exact r2⟩
  obtain ⟨c1, _, _, _, f1, g1, g2, -, -, -, -, hvS⟩ := FS
  cases hcell.symm.trans g1
  obtain ⟨k1', u1, -⟩ := own_ff (s := s) al g2
  cases u1.symm.trans q4
  obtain ⟨c2, _, _, _, f2, g3, g4, -, -, -, -, hvB⟩ := FB
  cases hcell.symm.trans g3
  obtain ⟨k2', u2, -⟩ := own_ff (s := s) al g4
  cases u2.symm.trans A8
  have hcSh : h[aS]? = some cellS := hO.2.2 _ _ hcS
  obtain ⟨_, _, _, f3, st3, cell3, g5, -, -, g6, g7, -, hvU⟩ := hU
  cases g5.symm.trans hi13
  cases g6.symm.trans sS
  cases g7.symm.trans hcS
  have hneS : T.aS ≠ a := fun e => by
    rw [q8] at e; subst e
    cases hcSh.symm.trans hcell
    rw [hvm] at hiss; cases hiss
  have hsel0 : selectMethod e.platform (s.setVm vm0).vm cell.cls T.fill0 = .method T.fill0 := by
    obtain ⟨c9, r9, m9, z1, z2, z3, z4, -⟩ := Cond.selects_spec (mvT hZ' w.wS (args := args))
    cases Option.some.inj (z1.symm.trans hfc')
    cases Option.some.inj (z2.symm.trans (State.methodFound?_of_named q3 (by decide)))
    cases Option.some.inj (z3.symm.trans q3)
    rw [Launch.admits_selectMethod X.admits]; exact z4
  have FP := Jvm.Free.Str.fillPays (l := l) (R := R) (p := p) (e := e) (below := below) (s := s.setVm vm0) (sargs := args) (len := 3) (W := W) hx htr T L q2 (u0 := ⟨.ref u0, rfl⟩) (fun e => by cases e) (self := a) (cell := cell) (cellS := cellS) (fun _ => by rw [hvm]; simp) (by rw [hvm]; simp) (by rw [hmon]) (by rw [hmon]) hvS hsel0 hneS (fun e => by rw [e] at hiss; cases hiss) (by rw [q7]; exact hvU) (tk tyS (by rw [q6]; rfl))
    ⟨{ ci198 := ci198, i198 := i198, fBack := fB }, ⟨A1, A2, A3, A4⟩, hvB⟩ hTK hBl q1 hOb hkO hkindO hfb hfd (fun x => tk tyB (by rw [A7]; rfl)) (fun x => tk tyD (by rw [htD]; rfl)) hR1 hR2
  obtain ⟨v, ⟨U', L', cc, ss⟩, X', ⟨hv, vm', lines, hlines, hW', hU', hL', hc', hn'⟩, hst⟩ := FP m meth c A g ig mk a' X hg hsize hdg hW hn ⟨hp.1, hp.2.2.1, hp.2.2.2, by rw [hp.2.1]; exact hcell, by rw [q8, hp.2.1]; exact hcSh⟩
  dsimp only [Pt.U, Pt.locs, Pt.cells, Pt.slots] at X' hU' hL' hc' hn' hst
  have hb : (traceHolder cO lines).slots.size ≤ 2752 := Nat.le_trans (traceHolder_size_le cO hlines) (by decide)
  have lt : a < h.size := (Array.getElem?_eq_some_iff.mp hcell).1
  have hA : A.U.heap = h := hp.2.1
  generalize hCC : Jvm.Free.Str.filledOn T.toThrowableT fB fD cell ⟨.ref u0, rfl⟩ A.U.heap.size lines.length.toInt32 = C at hU'
  have hh : U'.heap = (h.push (traceHolder cO lines)).setIfInBounds a C := by rw [hU', ← hA]; rfl
  have ha1 : U'.heap[a]? = some C := by rw [hh]; simp [Array.getElem?_setIfInBounds, Array.size_push, Nat.lt_succ_of_lt lt]
  have hoth : ∀ (x : Addr) (cx : Cell), h[x]? = some cx → x ≠ a → U'.heap[x]? = some cx := fun x cx q ne => by
    rw [hh, Array.getElem?_setIfInBounds_ne (Ne.symm ne), Array.getElem?_push_lt (Array.getElem?_eq_some_iff.mp q).1]
    exact congrArg some (Array.getElem?_eq_some_iff.mp q).2
  have hsz2 : h.size ≤ U'.heap.size := by rw [hh]; simp
  have C1 : C.cls = cell.cls := by rw [← hCC]; rfl
  have C2 : C.vm = cell.vm := by rw [← hCC]; rfl
  have C3 : C.slots.size = cell.slots.size := by rw [← hCC]; simp [Jvm.Free.Str.filledOn, Cell.setSlot]
  have K : Keep h U'.heap [a] := ⟨hsz2, fun x cx q nm => hoth x cx q (fun e => nm (by rw [e]; exact List.mem_singleton.mpr rfl)), fun x cx q => by
    by_cases e : x = a
    · subst e
      cases hcell.symm.trans q
      exact ⟨C, ha1, C1, C2, C3⟩
    · exact ⟨cx, hoth x cx q e, rfl, rfl, rfl⟩⟩
  have B1 : CHr Z EL vm0 h vm0 U'.heap := CHr.keep K (fun x hx => (hSf x hx).2) hC
  have X2 := X'.more (Nat.le_refl cc) (show ss ≤ A.slots + 2752 by rw [hn']; exact Nat.add_le_add_left hb _)
  have B2 := CHv.at X2 hZ hE1 B1.1
  refine ⟨v, ⟨U', L', cc, A.slots + 2752⟩, X2.retabled X2.warmed.wide, X2.warmed.since _, by rw [hA]; exact hsz2, ⟨_, [], ⟨hv, rfl, ⟨C, kX, ha1, by rw [C1]; exact hfc, by rw [C1]; exact hkX, by rw [C2]; exact hstE, fun ho => by rw [C3]; exact hszE ho⟩, ?_⟩, ?_, K, fun x hx => (nomatch hx), B1.trans B2, fun _ => X2.warmed, hL', hc', rfl⟩, hst⟩
  · rintro x ⟨c7, cf7, k7, i7, f7, r1, r2, r3, r4, r5, r6, r7⟩
    cases hcell.symm.trans r1
    obtain ⟨k8, u8, -⟩ := own_ff (s := s) al r2
    obtain ⟨-, d8, hd8, hdn8⟩ := Cond.laysAt hfc' hk' u8 (mvT hZ' w.lM (args := args))
    have n8 := (State.fieldFound?_type u8 (t := .object "java/lang/String") (by decide +kernel)).1
    have x1 := Cond.laysApart hd8 hdB hdn8 hdnB (by rw [n8, A6]; decide)
    have x2 := Cond.laysApart hd8 hdD hdn8 hdnD (by rw [n8, hnD]; decide)
    have x3 := Cond.laysApart hd8 hdS hdn8 hdnS (by rw [n8, q5]; decide)
    refine ⟨C, cf7, k7, i7, f7, ha1, r2, r3, by rw [C2]; exact r4, by rw [C2]; exact r5, by rw [C1]; exact r6, ?_⟩
    rw [← hCC]
    simpa [Jvm.Free.Str.filledOn, Cell.setSlot, Array.getElem?_setIfInBounds, Ne.symm x1, Ne.symm x2, Ne.symm x3] using r7
  · have ge : n0 ≤ a := (hSf a (List.mem_singleton.mpr rfl)).1.1
    intro y hy
    simp only [List.mem_cons, List.not_mem_nil, or_false] at hy
    rcases hy with rfl | rfl | rfl <;> exact ge
end Jvm.OwnK

namespace Jvm.Pilot.@@N@@
open Jvm Jvm.ClassFile Sem Op Lib Jvm.Free Jvm.Stand Jvm.LawKit Jvm.RoadKit Bundle Jvm.OwnK Jvm.Pilot.@@N@@.Jvm.D
abbrev EL0 : List (String × Nat) := [("com/example/slackline/slackline/TooLargeException", 14), ("com/example/slackline/slackline/TooLargeException", 20), ("java/lang/String", 7)]
abbrev NR0 : Bool := false
abbrev KN0 : Bool := true
abbrev CAP : Nat := 2
abbrev PFX : List Int32 := [(110 : Int32), (101 : Int32), (116 : Int32), (119 : Int32), (111 : Int32), (114 : Int32), (107 : Int32), (32 : Int32), (116 : Int32), (111 : Int32), (111 : Int32), (32 : Int32), (108 : Int32), (97 : Int32), (114 : Int32), (103 : Int32), (101 : Int32), (32 : Int32), (102 : Int32), (111 : Int32), (114 : Int32), (32 : Int32)]
def Stat (Z : State) : Prop := (∃ zc : Int32, Sta Z Z.heap "java/lang/String" "COMPACT_STRINGS" "Z" (.int zc) ∧ ¬ zc = 0) ∧ (∃ fm : Value, Sta Z Z.heap "jdk/internal/util/Preconditions" "SIOOBE_FORMATTER" "Ljava/util/function/BiFunction;" fm ∧ fm.isRef = true) ∧ ((∃ u0 : Addr, Sta Z Z.heap "java/lang/Throwable" "UNASSIGNED_STACK" "[Ljava/lang/StackTraceElement;" (.ref u0)) ∧ ∃ v0 : Addr, Sta Z Z.heap "java/lang/Throwable" "SUPPRESSED_SENTINEL" "Ljava/util/List;" (.ref v0)) ∧ True
theorem hs_c {Z : State} (h : Stat Z) : (∃ zc : Int32, Sta Z Z.heap "java/lang/String" "COMPACT_STRINGS" "Z" (.int zc) ∧ ¬ zc = 0) := h.1
theorem hs_f {Z : State} (h : Stat Z) : (∃ fm : Value, Sta Z Z.heap "jdk/internal/util/Preconditions" "SIOOBE_FORMATTER" "Ljava/util/function/BiFunction;" fm ∧ fm.isRef = true) := h.2.1
theorem hs_T {Z : State} (h : Stat Z) : ((∃ u0 : Addr, Sta Z Z.heap "java/lang/Throwable" "UNASSIGNED_STACK" "[Ljava/lang/StackTraceElement;" (.ref u0)) ∧ ∃ v0 : Addr, Sta Z Z.heap "java/lang/Throwable" "SUPPRESSED_SENTINEL" "Ljava/util/List;" (.ref v0)) := h.2.2.1
theorem own_lt3 {r : Int32} (h : ¬ r < 0 ∧ r < 3) : r = (0 : Int32) ∨ r = (1 : Int32) ∨ r = (2 : Int32) := by
  have e0 : (0 : Int32).toInt = 0 := by decide
  have e1 : (1 : Int32).toInt = 1 := by decide
  have e2 : (2 : Int32).toInt = 2 := by decide
  have e3 : (3 : Int32).toInt = 3 := by decide
  rw [Int32.lt_iff_toInt_lt, Int32.lt_iff_toInt_lt] at h
  simp only [← Int32.toInt_inj]
  omega
abbrev N_0 : MethodName := ⟨"java/lang/AbstractStringBuilder", "<init>", "(I)V"⟩
abbrev N_1 : MethodName := ⟨"java/lang/StringBuilder", "<init>", "()V"⟩
abbrev N_2 : MethodName := ⟨"java/lang/Math", "max", "(II)I"⟩
abbrev N_3 : MethodName := ⟨"java/lang/Math", "min", "(II)I"⟩
abbrev N_4 : MethodName := ⟨"java/lang/AbstractStringBuilder", "ensureCapacityInternal", "(I)V"⟩
abbrev N_5 : MethodName := ⟨"jdk/internal/util/ArraysSupport", "newLength", "(III)I"⟩
abbrev N_6 : MethodName := ⟨"java/lang/AbstractStringBuilder", "newCapacity", "(I)I"⟩
abbrev N_7 : MethodName := ⟨"java/util/Arrays", "copyOf", "([BI)[B"⟩
abbrev N_8 : MethodName := ⟨"java/lang/String", "coder", "()B"⟩
abbrev N_9 : MethodName := ⟨"java/lang/String", "getBytes", "([BIB)V"⟩
abbrev N_10 : MethodName := ⟨"java/lang/AbstractStringBuilder", "inflateIfNeededFor", "(Ljava/lang/String;)V"⟩
abbrev N_11 : MethodName := ⟨"java/lang/AbstractStringBuilder", "putStringAt", "(ILjava/lang/String;)V"⟩
abbrev N_12 : MethodName := ⟨"java/lang/String", "length", "()I"⟩
abbrev N_13 : MethodName := ⟨"java/lang/AbstractStringBuilder", "append", "(Ljava/lang/String;)Ljava/lang/AbstractStringBuilder;"⟩
abbrev N_14 : MethodName := ⟨"java/lang/StringBuilder", "append", "(Ljava/lang/String;)Ljava/lang/StringBuilder;"⟩
abbrev N_15 : MethodName := ⟨"java/lang/AbstractStringBuilder", "getValue", "()[B"⟩
abbrev N_16 : MethodName := ⟨"java/lang/AbstractStringBuilder", "length", "()I"⟩
abbrev N_17 : MethodName := ⟨"java/lang/StringBuilder", "length", "()I"⟩
abbrev N_18 : MethodName := ⟨"java/lang/AbstractStringBuilder", "isLatin1", "()Z"⟩
abbrev N_19 : MethodName := ⟨"java/util/Arrays", "checkLength", "(II)V"⟩
abbrev N_20 : MethodName := ⟨"java/util/Arrays", "copyOfRangeByte", "([BII)[B"⟩
abbrev N_21 : MethodName := ⟨"java/util/Arrays", "copyOfRange", "([BII)[B"⟩
abbrev N_22 : MethodName := ⟨"java/lang/String", "<init>", "(Ljava/lang/AbstractStringBuilder;Ljava/lang/Void;)V"⟩
abbrev N_23 : MethodName := ⟨"java/lang/String", "<init>", "(Ljava/lang/StringBuilder;)V"⟩
abbrev N_24 : MethodName := ⟨"java/lang/StringBuilder", "toString", "()Ljava/lang/String;"⟩
abbrev N_25 : MethodName := ⟨"java/lang/Throwable", "fillInStackTrace", "()Ljava/lang/Throwable;"⟩
abbrev N_26 : MethodName := ⟨"java/lang/Throwable", "<init>", "(Ljava/lang/String;)V"⟩
abbrev N_27 : MethodName := ⟨"java/lang/Exception", "<init>", "(Ljava/lang/String;)V"⟩
abbrev N_28 : MethodName := ⟨"com/example/slackline/slackline/TooLargeException", "<init>", "(Ljava/lang/String;)V"⟩
abbrev N_29 : MethodName := ⟨"java/lang/Throwable", "getMessage", "()Ljava/lang/String;"⟩
abbrev N_30 : MethodName := ⟨"com/example/slackline/slackline/TooLargeException", "forMethod", "(Ljava/lang/String;Ljava/lang/String;)Lcom/example/slackline/slackline/TooLargeException;"⟩
abbrev N_31 : MethodName := ⟨"java/lang/StringUTF16", "compress", "([CI[BII)I"⟩
abbrev N_32 : MethodName := ⟨"java/lang/StringUTF16", "compress", "([CII)[B"⟩
abbrev N_33 : MethodName := ⟨"java/lang/StringUTF16", "coderFromArrayLen", "([BI)B"⟩
abbrev N_34 : MethodName := ⟨"java/lang/String", "<init>", "([CIILjava/lang/Void;)V"⟩
abbrev N_35 : MethodName := ⟨"java/lang/String", "<init>", "([C)V"⟩
abbrev N_36 : MethodName := ⟨"java/lang/String", "isLatin1", "()Z"⟩
abbrev N_37 : MethodName := ⟨"jdk/internal/util/Preconditions", "checkIndex", "(IILjava/util/function/BiFunction;)I"⟩
abbrev N_38 : MethodName := ⟨"java/lang/String", "checkIndex", "(II)V"⟩
abbrev N_39 : MethodName := ⟨"java/lang/StringLatin1", "charAt", "([BI)C"⟩
abbrev N_40 : MethodName := ⟨"java/lang/String", "charAt", "(I)C"⟩
abbrev N_41 : MethodName := ⟨"java/lang/StringLatin1", "canEncode", "(C)Z"⟩
abbrev N_42 : MethodName := ⟨"java/lang/StringLatin1", "toBytes", "(C)[B"⟩
abbrev N_43 : MethodName := ⟨"java/lang/String", "<init>", "([BB)V"⟩
abbrev N_44 : MethodName := ⟨"java/lang/String", "valueOf", "(C)Ljava/lang/String;"⟩
abbrev N_45 : MethodName := ⟨"com/example/slackline/slackline/TooLargeExceptionForMethodPinLaw", "mk", "(ICC)Ljava/lang/String;"⟩
abbrev N_46 : MethodName := ⟨"com/example/slackline/slackline/TooLargeExceptionForMethodPinLaw", "prefixOk", "(Ljava/lang/String;)Z"⟩
abbrev N_47 : MethodName := ⟨"com/example/slackline/slackline/TooLargeException", "getMessage", "()Ljava/lang/String;"⟩
theorem pd_0 : parseMethodDescriptor "(I)V" = some ⟨[.int], none⟩ := by decide +kernel
theorem pd_1 : parseMethodDescriptor "(II)I" = some ⟨[.int, .int], some .int⟩ := by decide +kernel
theorem pd_2 : parseMethodDescriptor "(III)I" = some ⟨[.int, .int, .int], some .int⟩ := by decide +kernel
theorem pd_3 : parseMethodDescriptor "(I)I" = some ⟨[.int], some .int⟩ := by decide +kernel
theorem pd_4 : parseMethodDescriptor "([BI)[B" = some ⟨[(.array .byte), .int], some (.array .byte)⟩ := by decide +kernel
theorem pd_5 : parseMethodDescriptor "()B" = some ⟨[], some .byte⟩ := by decide +kernel
theorem pd_6 : parseMethodDescriptor "(Ljava/lang/String;)V" = some ⟨[(.object "java/lang/String")], none⟩ := by decide +kernel
theorem pd_7 : parseMethodDescriptor "([BIB)V" = some ⟨[(.array .byte), .int, .byte], none⟩ := by decide +kernel
theorem pd_8 : parseMethodDescriptor "()I" = some ⟨[], some .int⟩ := by decide +kernel
theorem pd_9 : parseMethodDescriptor "(ILjava/lang/String;)V" = some ⟨[.int, (.object "java/lang/String")], none⟩ := by decide +kernel
theorem pd_10 : parseMethodDescriptor "(Ljava/lang/String;)Ljava/lang/AbstractStringBuilder;" = some ⟨[(.object "java/lang/String")], some (.object "java/lang/AbstractStringBuilder")⟩ := by decide +kernel
theorem pd_11 : parseMethodDescriptor "(II)V" = some ⟨[.int, .int], none⟩ := by decide +kernel
theorem pd_12 : parseMethodDescriptor "([BII)[B" = some ⟨[(.array .byte), .int, .int], some (.array .byte)⟩ := by decide +kernel
theorem pd_13 : parseMethodDescriptor "()[B" = some ⟨[], some (.array .byte)⟩ := by decide +kernel
theorem pd_14 : parseMethodDescriptor "()Z" = some ⟨[], some .boolean⟩ := by decide +kernel
theorem pd_15 : parseMethodDescriptor "(Ljava/lang/AbstractStringBuilder;Ljava/lang/Void;)V" = some ⟨[(.object "java/lang/AbstractStringBuilder"), (.object "java/lang/Void")], none⟩ := by decide +kernel
theorem pd_16 : parseMethodDescriptor "(Ljava/lang/StringBuilder;)V" = some ⟨[(.object "java/lang/StringBuilder")], none⟩ := by decide +kernel
theorem pd_17 : parseMethodDescriptor "()Ljava/lang/Throwable;" = some ⟨[], some (.object "java/lang/Throwable")⟩ := by decide +kernel
theorem pd_18 : parseMethodDescriptor "()V" = some ⟨[], none⟩ := by decide +kernel
theorem pd_19 : parseMethodDescriptor "(Ljava/lang/String;)Ljava/lang/StringBuilder;" = some ⟨[(.object "java/lang/String")], some (.object "java/lang/StringBuilder")⟩ := by decide +kernel
theorem pd_20 : parseMethodDescriptor "()Ljava/lang/String;" = some ⟨[], some (.object "java/lang/String")⟩ := by decide +kernel
theorem pd_21 : parseMethodDescriptor "([CI[BII)I" = some ⟨[(.array .char), .int, (.array .byte), .int, .int], some .int⟩ := by decide +kernel
theorem pd_22 : parseMethodDescriptor "([CII)[B" = some ⟨[(.array .char), .int, .int], some (.array .byte)⟩ := by decide +kernel
theorem pd_23 : parseMethodDescriptor "([BI)B" = some ⟨[(.array .byte), .int], some .byte⟩ := by decide +kernel
theorem pd_24 : parseMethodDescriptor "([CIILjava/lang/Void;)V" = some ⟨[(.array .char), .int, .int, (.object "java/lang/Void")], none⟩ := by decide +kernel
theorem pd_25 : parseMethodDescriptor "(IILjava/util/function/BiFunction;)I" = some ⟨[.int, .int, (.object "java/util/function/BiFunction")], some .int⟩ := by decide +kernel
theorem pd_26 : parseMethodDescriptor "([BI)C" = some ⟨[(.array .byte), .int], some .char⟩ := by decide +kernel
theorem pd_27 : parseMethodDescriptor "(C)Z" = some ⟨[.char], some .boolean⟩ := by decide +kernel
theorem pd_28 : parseMethodDescriptor "(C)[B" = some ⟨[.char], some (.array .byte)⟩ := by decide +kernel
theorem pd_29 : parseMethodDescriptor "([BB)V" = some ⟨[(.array .byte), .byte], none⟩ := by decide +kernel
theorem pd_30 : parseMethodDescriptor "([C)V" = some ⟨[(.array .char)], none⟩ := by decide +kernel
theorem pd_31 : parseMethodDescriptor "(C)Ljava/lang/String;" = some ⟨[.char], some (.object "java/lang/String")⟩ := by decide +kernel
theorem pd_32 : parseMethodDescriptor "(I)C" = some ⟨[.int], some .char⟩ := by decide +kernel
theorem pd_33 : parseMethodDescriptor "(Ljava/lang/String;)Z" = some ⟨[(.object "java/lang/String")], some .boolean⟩ := by decide +kernel
theorem pd_34 : parseMethodDescriptor "(ICC)Ljava/lang/String;" = some ⟨[.int, .char, .char], some (.object "java/lang/String")⟩ := by decide +kernel
theorem pd_35 : parseMethodDescriptor "(Ljava/lang/String;Ljava/lang/String;)Lcom/example/slackline/slackline/TooLargeException;" = some ⟨[(.object "java/lang/String"), (.object "java/lang/String")], some (.object "com/example/slackline/slackline/TooLargeException")⟩ := by decide +kernel
theorem lit_0 : (∀ c ∈ ("network too large for " : String).toList, c.toNat < 256) ∧ ("network too large for " : String).toList.map (fun c => Value.int (Jvm.Lit.byteI c.toNat.toUInt16)) = [(.int (110 : Int32)), (.int (101 : Int32)), (.int (116 : Int32)), (.int (119 : Int32)), (.int (111 : Int32)), (.int (114 : Int32)), (.int (107 : Int32)), (.int (32 : Int32)), (.int (116 : Int32)), (.int (111 : Int32)), (.int (111 : Int32)), (.int (32 : Int32)), (.int (108 : Int32)), (.int (97 : Int32)), (.int (114 : Int32)), (.int (103 : Int32)), (.int (101 : Int32)), (.int (32 : Int32)), (.int (102 : Int32)), (.int (111 : Int32)), (.int (114 : Int32)), (.int (32 : Int32))] := ⟨by decide +kernel, by decide +kernel⟩
theorem lit_1 : (∀ c ∈ (": " : String).toList, c.toNat < 256) ∧ (": " : String).toList.map (fun c => Value.int (Jvm.Lit.byteI c.toNat.toUInt16)) = [(.int (58 : Int32)), (.int (32 : Int32))] := ⟨by decide +kernel, by decide +kernel⟩
theorem lit_2 : (∀ c ∈ ("" : String).toList, c.toNat < 256) ∧ ("" : String).toList.map (fun c => Value.int (Jvm.Lit.byteI c.toNat.toUInt16)) = [] := ⟨by decide +kernel, by decide +kernel⟩
theorem ic_0 : Int32.ofInt (0) = (0 : Int32) := by decide
theorem ic_1 : Int32.ofInt (1) = (1 : Int32) := by decide
theorem ic_2 : Int32.ofInt (2) = (2 : Int32) := by decide
theorem ic_3 : Int32.ofInt (3) = (3 : Int32) := by decide
theorem ic_4 : Int32.ofInt (4) = (4 : Int32) := by decide
theorem ic_5 : Int32.ofInt (5) = (5 : Int32) := by decide
theorem icb_6 : (Int8.ofInt (6)).toInt32 = (6 : Int32) := by decide
theorem icb_7 : (Int8.ofInt (7)).toInt32 = (7 : Int32) := by decide
theorem icb_8 : (Int8.ofInt (8)).toInt32 = (8 : Int32) := by decide
theorem icb_9 : (Int8.ofInt (9)).toInt32 = (9 : Int32) := by decide
theorem icb_10 : (Int8.ofInt (10)).toInt32 = (10 : Int32) := by decide
theorem icb_11 : (Int8.ofInt (11)).toInt32 = (11 : Int32) := by decide
theorem icb_12 : (Int8.ofInt (12)).toInt32 = (12 : Int32) := by decide
theorem icb_13 : (Int8.ofInt (13)).toInt32 = (13 : Int32) := by decide
theorem icb_14 : (Int8.ofInt (14)).toInt32 = (14 : Int32) := by decide
theorem icb_15 : (Int8.ofInt (15)).toInt32 = (15 : Int32) := by decide
theorem icb_16 : (Int8.ofInt (16)).toInt32 = (16 : Int32) := by decide
theorem icb_17 : (Int8.ofInt (17)).toInt32 = (17 : Int32) := by decide
theorem icb_18 : (Int8.ofInt (18)).toInt32 = (18 : Int32) := by decide
theorem icb_19 : (Int8.ofInt (19)).toInt32 = (19 : Int32) := by decide
theorem icb_20 : (Int8.ofInt (20)).toInt32 = (20 : Int32) := by decide
theorem icb_21 : (Int8.ofInt (21)).toInt32 = (21 : Int32) := by decide
theorem icb_22 : (Int8.ofInt (22)).toInt32 = (22 : Int32) := by decide
theorem icb_23 : (Int8.ofInt (23)).toInt32 = (23 : Int32) := by decide
theorem icb_24 : (Int8.ofInt (24)).toInt32 = (24 : Int32) := by decide
theorem icb_25 : (Int8.ofInt (25)).toInt32 = (25 : Int32) := by decide
theorem icb_31 : (Int8.ofInt (31)).toInt32 = (31 : Int32) := by decide
theorem icb_32 : (Int8.ofInt (32)).toInt32 = (32 : Int32) := by decide
theorem icb_58 : (Int8.ofInt (58)).toInt32 = (58 : Int32) := by decide
theorem icb_97 : (Int8.ofInt (97)).toInt32 = (97 : Int32) := by decide
theorem icb_101 : (Int8.ofInt (101)).toInt32 = (101 : Int32) := by decide
theorem icb_102 : (Int8.ofInt (102)).toInt32 = (102 : Int32) := by decide
theorem icb_103 : (Int8.ofInt (103)).toInt32 = (103 : Int32) := by decide
theorem icb_107 : (Int8.ofInt (107)).toInt32 = (107 : Int32) := by decide
theorem icb_108 : (Int8.ofInt (108)).toInt32 = (108 : Int32) := by decide
theorem icb_110 : (Int8.ofInt (110)).toInt32 = (110 : Int32) := by decide
theorem icb_111 : (Int8.ofInt (111)).toInt32 = (111 : Int32) := by decide
theorem icb_114 : (Int8.ofInt (114)).toInt32 = (114 : Int32) := by decide
theorem icb_116 : (Int8.ofInt (116)).toInt32 = (116 : Int32) := by decide
theorem icb_119 : (Int8.ofInt (119)).toInt32 = (119 : Int32) := by decide
theorem ics_255 : (Int16.ofInt (255)).toInt32 = (255 : Int32) := by decide
theorem d_prog_52_method_1_0 : decode prog_52_method_1_code 0 = .ok (.aload_n 0, 1) := by decide +kernel
theorem d_prog_52_method_1_1 : decode prog_52_method_1_code 1 = .ok (.aload_n 1, 1) := by decide +kernel
theorem d_prog_52_method_1_2 : decode prog_52_method_1_code 2 = .ok (.invokespecial 1, 3) := by decide +kernel
theorem d_prog_52_method_1_5 : decode prog_52_method_1_code 5 = .ok (.return_, 1) := by decide +kernel
theorem d_prog_52_method_2_0 : decode prog_52_method_2_code 0 = .ok (.new 7, 3) := by decide +kernel
theorem d_prog_52_method_2_3 : decode prog_52_method_2_code 3 = .ok (.dup, 1) := by decide +kernel
theorem d_prog_52_method_2_4 : decode prog_52_method_2_code 4 = .ok (.new 9, 3) := by decide +kernel
theorem d_prog_52_method_2_7 : decode prog_52_method_2_code 7 = .ok (.dup, 1) := by decide +kernel
theorem d_prog_52_method_2_8 : decode prog_52_method_2_code 8 = .ok (.invokespecial 11, 3) := by decide +kernel
theorem d_prog_52_method_2_11 : decode prog_52_method_2_code 11 = .ok (.ldc 14, 2) := by decide +kernel
theorem d_prog_52_method_2_13 : decode prog_52_method_2_code 13 = .ok (.invokevirtual 16, 3) := by decide +kernel
theorem d_prog_52_method_2_16 : decode prog_52_method_2_code 16 = .ok (.aload_n 0, 1) := by decide +kernel
theorem d_prog_52_method_2_17 : decode prog_52_method_2_code 17 = .ok (.invokevirtual 16, 3) := by decide +kernel
theorem d_prog_52_method_2_20 : decode prog_52_method_2_code 20 = .ok (.ldc 20, 2) := by decide +kernel
theorem d_prog_52_method_2_22 : decode prog_52_method_2_code 22 = .ok (.invokevirtual 16, 3) := by decide +kernel
theorem d_prog_52_method_2_25 : decode prog_52_method_2_code 25 = .ok (.aload_n 1, 1) := by decide +kernel
theorem d_prog_52_method_2_26 : decode prog_52_method_2_code 26 = .ok (.invokevirtual 16, 3) := by decide +kernel
theorem d_prog_52_method_2_29 : decode prog_52_method_2_code 29 = .ok (.invokevirtual 22, 3) := by decide +kernel
theorem d_prog_52_method_2_32 : decode prog_52_method_2_code 32 = .ok (.invokespecial 26, 3) := by decide +kernel
theorem d_prog_52_method_2_35 : decode prog_52_method_2_code 35 = .ok (.areturn, 1) := by decide +kernel
theorem d_method_3_0 : decode method_3_code 0 = .ok (.iload_n 0, 1) := by decide +kernel
theorem d_method_3_1 : decode method_3_code 1 = .ok (.ifCond .ne 14, 3) := by decide +kernel
theorem d_method_3_4 : decode method_3_code 4 = .ok (.new 25, 3) := by decide +kernel
theorem d_method_3_7 : decode method_3_code 7 = .ok (.dup, 1) := by decide +kernel
theorem d_method_3_8 : decode method_3_code 8 = .ok (.iconst 0, 1) := by decide +kernel
theorem d_method_3_9 : decode method_3_code 9 = .ok (.newarray .char, 2) := by decide +kernel
theorem d_method_3_11 : decode method_3_code 11 = .ok (.invokespecial 38, 3) := by decide +kernel
theorem d_method_3_14 : decode method_3_code 14 = .ok (.areturn, 1) := by decide +kernel
theorem d_method_3_15 : decode method_3_code 15 = .ok (.iload_n 0, 1) := by decide +kernel
theorem d_method_3_16 : decode method_3_code 16 = .ok (.iconst 1, 1) := by decide +kernel
theorem d_method_3_17 : decode method_3_code 17 = .ok (.if_icmp .ne 8, 3) := by decide +kernel
theorem d_method_3_20 : decode method_3_code 20 = .ok (.iload_n 1, 1) := by decide +kernel
theorem d_method_3_21 : decode method_3_code 21 = .ok (.invokestatic 41, 3) := by decide +kernel
theorem d_method_3_24 : decode method_3_code 24 = .ok (.areturn, 1) := by decide +kernel
theorem d_method_3_25 : decode method_3_code 25 = .ok (.new 25, 3) := by decide +kernel
theorem d_method_3_28 : decode method_3_code 28 = .ok (.dup, 1) := by decide +kernel
theorem d_method_3_29 : decode method_3_code 29 = .ok (.iconst 2, 1) := by decide +kernel
theorem d_method_3_30 : decode method_3_code 30 = .ok (.newarray .char, 2) := by decide +kernel
theorem d_method_3_32 : decode method_3_code 32 = .ok (.dup, 1) := by decide +kernel
theorem d_method_3_33 : decode method_3_code 33 = .ok (.iconst 0, 1) := by decide +kernel
theorem d_method_3_34 : decode method_3_code 34 = .ok (.iload_n 1, 1) := by decide +kernel
theorem d_method_3_35 : decode method_3_code 35 = .ok (.castore, 1) := by decide +kernel
theorem d_method_3_36 : decode method_3_code 36 = .ok (.dup, 1) := by decide +kernel
theorem d_method_3_37 : decode method_3_code 37 = .ok (.iconst 1, 1) := by decide +kernel
theorem d_method_3_38 : decode method_3_code 38 = .ok (.iload_n 2, 1) := by decide +kernel
theorem d_method_3_39 : decode method_3_code 39 = .ok (.castore, 1) := by decide +kernel
theorem d_method_3_40 : decode method_3_code 40 = .ok (.invokespecial 38, 3) := by decide +kernel
theorem d_method_3_43 : decode method_3_code 43 = .ok (.areturn, 1) := by decide +kernel
theorem d_method_4_0 : decode method_4_code 0 = .ok (.aload_n 0, 1) := by decide +kernel
theorem d_method_4_1 : decode method_4_code 1 = .ok (.iconst 0, 1) := by decide +kernel
theorem d_method_4_2 : decode method_4_code 2 = .ok (.invokevirtual 34, 3) := by decide +kernel
theorem d_method_4_5 : decode method_4_code 5 = .ok (.bipush 110, 2) := by decide +kernel
theorem d_method_4_7 : decode method_4_code 7 = .ok (.if_icmp .ne 233, 3) := by decide +kernel
theorem d_method_4_10 : decode method_4_code 10 = .ok (.aload_n 0, 1) := by decide +kernel
theorem d_method_4_11 : decode method_4_code 11 = .ok (.iconst 1, 1) := by decide +kernel
theorem d_method_4_12 : decode method_4_code 12 = .ok (.invokevirtual 34, 3) := by decide +kernel
theorem d_method_4_15 : decode method_4_code 15 = .ok (.bipush 101, 2) := by decide +kernel
theorem d_method_4_17 : decode method_4_code 17 = .ok (.if_icmp .ne 223, 3) := by decide +kernel
theorem d_method_4_20 : decode method_4_code 20 = .ok (.aload_n 0, 1) := by decide +kernel
theorem d_method_4_21 : decode method_4_code 21 = .ok (.iconst 2, 1) := by decide +kernel
theorem d_method_4_22 : decode method_4_code 22 = .ok (.invokevirtual 34, 3) := by decide +kernel
theorem d_method_4_25 : decode method_4_code 25 = .ok (.bipush 116, 2) := by decide +kernel
theorem d_method_4_27 : decode method_4_code 27 = .ok (.if_icmp .ne 213, 3) := by decide +kernel
theorem d_method_4_30 : decode method_4_code 30 = .ok (.aload_n 0, 1) := by decide +kernel
theorem d_method_4_31 : decode method_4_code 31 = .ok (.iconst 3, 1) := by decide +kernel
theorem d_method_4_32 : decode method_4_code 32 = .ok (.invokevirtual 34, 3) := by decide +kernel
theorem d_method_4_35 : decode method_4_code 35 = .ok (.bipush 119, 2) := by decide +kernel
theorem d_method_4_37 : decode method_4_code 37 = .ok (.if_icmp .ne 203, 3) := by decide +kernel
theorem d_method_4_40 : decode method_4_code 40 = .ok (.aload_n 0, 1) := by decide +kernel
theorem d_method_4_41 : decode method_4_code 41 = .ok (.iconst 4, 1) := by decide +kernel
theorem d_method_4_42 : decode method_4_code 42 = .ok (.invokevirtual 34, 3) := by decide +kernel
theorem d_method_4_45 : decode method_4_code 45 = .ok (.bipush 111, 2) := by decide +kernel
theorem d_method_4_47 : decode method_4_code 47 = .ok (.if_icmp .ne 193, 3) := by decide +kernel
theorem d_method_4_50 : decode method_4_code 50 = .ok (.aload_n 0, 1) := by decide +kernel
theorem d_method_4_51 : decode method_4_code 51 = .ok (.iconst 5, 1) := by decide +kernel
theorem d_method_4_52 : decode method_4_code 52 = .ok (.invokevirtual 34, 3) := by decide +kernel
theorem d_method_4_55 : decode method_4_code 55 = .ok (.bipush 114, 2) := by decide +kernel
theorem d_method_4_57 : decode method_4_code 57 = .ok (.if_icmp .ne 183, 3) := by decide +kernel
theorem d_method_4_60 : decode method_4_code 60 = .ok (.aload_n 0, 1) := by decide +kernel
theorem d_method_4_61 : decode method_4_code 61 = .ok (.bipush 6, 2) := by decide +kernel
theorem d_method_4_63 : decode method_4_code 63 = .ok (.invokevirtual 34, 3) := by decide +kernel
theorem d_method_4_66 : decode method_4_code 66 = .ok (.bipush 107, 2) := by decide +kernel
theorem d_method_4_68 : decode method_4_code 68 = .ok (.if_icmp .ne 172, 3) := by decide +kernel
theorem d_method_4_71 : decode method_4_code 71 = .ok (.aload_n 0, 1) := by decide +kernel
theorem d_method_4_72 : decode method_4_code 72 = .ok (.bipush 7, 2) := by decide +kernel
theorem d_method_4_74 : decode method_4_code 74 = .ok (.invokevirtual 34, 3) := by decide +kernel
theorem d_method_4_77 : decode method_4_code 77 = .ok (.bipush 32, 2) := by decide +kernel
theorem d_method_4_79 : decode method_4_code 79 = .ok (.if_icmp .ne 161, 3) := by decide +kernel
theorem d_method_4_82 : decode method_4_code 82 = .ok (.aload_n 0, 1) := by decide +kernel
theorem d_method_4_83 : decode method_4_code 83 = .ok (.bipush 8, 2) := by decide +kernel
theorem d_method_4_85 : decode method_4_code 85 = .ok (.invokevirtual 34, 3) := by decide +kernel
theorem d_method_4_88 : decode method_4_code 88 = .ok (.bipush 116, 2) := by decide +kernel
theorem d_method_4_90 : decode method_4_code 90 = .ok (.if_icmp .ne 150, 3) := by decide +kernel
theorem d_method_4_93 : decode method_4_code 93 = .ok (.aload_n 0, 1) := by decide +kernel
theorem d_method_4_94 : decode method_4_code 94 = .ok (.bipush 9, 2) := by decide +kernel
theorem d_method_4_96 : decode method_4_code 96 = .ok (.invokevirtual 34, 3) := by decide +kernel
theorem d_method_4_99 : decode method_4_code 99 = .ok (.bipush 111, 2) := by decide +kernel
theorem d_method_4_101 : decode method_4_code 101 = .ok (.if_icmp .ne 139, 3) := by decide +kernel
theorem d_method_4_104 : decode method_4_code 104 = .ok (.aload_n 0, 1) := by decide +kernel
theorem d_method_4_105 : decode method_4_code 105 = .ok (.bipush 10, 2) := by decide +kernel
theorem d_method_4_107 : decode method_4_code 107 = .ok (.invokevirtual 34, 3) := by decide +kernel
theorem d_method_4_110 : decode method_4_code 110 = .ok (.bipush 111, 2) := by decide +kernel
theorem d_method_4_112 : decode method_4_code 112 = .ok (.if_icmp .ne 128, 3) := by decide +kernel
theorem d_method_4_115 : decode method_4_code 115 = .ok (.aload_n 0, 1) := by decide +kernel
theorem d_method_4_116 : decode method_4_code 116 = .ok (.bipush 11, 2) := by decide +kernel
theorem d_method_4_118 : decode method_4_code 118 = .ok (.invokevirtual 34, 3) := by decide +kernel
theorem d_method_4_121 : decode method_4_code 121 = .ok (.bipush 32, 2) := by decide +kernel
theorem d_method_4_123 : decode method_4_code 123 = .ok (.if_icmp .ne 117, 3) := by decide +kernel
theorem d_method_4_126 : decode method_4_code 126 = .ok (.aload_n 0, 1) := by decide +kernel
theorem d_method_4_127 : decode method_4_code 127 = .ok (.bipush 12, 2) := by decide +kernel
theorem d_method_4_129 : decode method_4_code 129 = .ok (.invokevirtual 34, 3) := by decide +kernel
theorem d_method_4_132 : decode method_4_code 132 = .ok (.bipush 108, 2) := by decide +kernel
theorem d_method_4_134 : decode method_4_code 134 = .ok (.if_icmp .ne 106, 3) := by decide +kernel
theorem d_method_4_137 : decode method_4_code 137 = .ok (.aload_n 0, 1) := by decide +kernel
theorem d_method_4_138 : decode method_4_code 138 = .ok (.bipush 13, 2) := by decide +kernel
theorem d_method_4_140 : decode method_4_code 140 = .ok (.invokevirtual 34, 3) := by decide +kernel
theorem d_method_4_143 : decode method_4_code 143 = .ok (.bipush 97, 2) := by decide +kernel
theorem d_method_4_145 : decode method_4_code 145 = .ok (.if_icmp .ne 95, 3) := by decide +kernel
theorem d_method_4_148 : decode method_4_code 148 = .ok (.aload_n 0, 1) := by decide +kernel
theorem d_method_4_149 : decode method_4_code 149 = .ok (.bipush 14, 2) := by decide +kernel
theorem d_method_4_151 : decode method_4_code 151 = .ok (.invokevirtual 34, 3) := by decide +kernel
theorem d_method_4_154 : decode method_4_code 154 = .ok (.bipush 114, 2) := by decide +kernel
theorem d_method_4_156 : decode method_4_code 156 = .ok (.if_icmp .ne 84, 3) := by decide +kernel
theorem d_method_4_159 : decode method_4_code 159 = .ok (.aload_n 0, 1) := by decide +kernel
theorem d_method_4_160 : decode method_4_code 160 = .ok (.bipush 15, 2) := by decide +kernel
theorem d_method_4_162 : decode method_4_code 162 = .ok (.invokevirtual 34, 3) := by decide +kernel
theorem d_method_4_165 : decode method_4_code 165 = .ok (.bipush 103, 2) := by decide +kernel
theorem d_method_4_167 : decode method_4_code 167 = .ok (.if_icmp .ne 73, 3) := by decide +kernel
theorem d_method_4_170 : decode method_4_code 170 = .ok (.aload_n 0, 1) := by decide +kernel
theorem d_method_4_171 : decode method_4_code 171 = .ok (.bipush 16, 2) := by decide +kernel
theorem d_method_4_173 : decode method_4_code 173 = .ok (.invokevirtual 34, 3) := by decide +kernel
theorem d_method_4_176 : decode method_4_code 176 = .ok (.bipush 101, 2) := by decide +kernel
theorem d_method_4_178 : decode method_4_code 178 = .ok (.if_icmp .ne 62, 3) := by decide +kernel
theorem d_method_4_181 : decode method_4_code 181 = .ok (.aload_n 0, 1) := by decide +kernel
theorem d_method_4_182 : decode method_4_code 182 = .ok (.bipush 17, 2) := by decide +kernel
theorem d_method_4_184 : decode method_4_code 184 = .ok (.invokevirtual 34, 3) := by decide +kernel
theorem d_method_4_187 : decode method_4_code 187 = .ok (.bipush 32, 2) := by decide +kernel
theorem d_method_4_189 : decode method_4_code 189 = .ok (.if_icmp .ne 51, 3) := by decide +kernel
theorem d_method_4_192 : decode method_4_code 192 = .ok (.aload_n 0, 1) := by decide +kernel
theorem d_method_4_193 : decode method_4_code 193 = .ok (.bipush 18, 2) := by decide +kernel
theorem d_method_4_195 : decode method_4_code 195 = .ok (.invokevirtual 34, 3) := by decide +kernel
theorem d_method_4_198 : decode method_4_code 198 = .ok (.bipush 102, 2) := by decide +kernel
theorem d_method_4_200 : decode method_4_code 200 = .ok (.if_icmp .ne 40, 3) := by decide +kernel
theorem d_method_4_203 : decode method_4_code 203 = .ok (.aload_n 0, 1) := by decide +kernel
theorem d_method_4_204 : decode method_4_code 204 = .ok (.bipush 19, 2) := by decide +kernel
theorem d_method_4_206 : decode method_4_code 206 = .ok (.invokevirtual 34, 3) := by decide +kernel
theorem d_method_4_209 : decode method_4_code 209 = .ok (.bipush 111, 2) := by decide +kernel
theorem d_method_4_211 : decode method_4_code 211 = .ok (.if_icmp .ne 29, 3) := by decide +kernel
theorem d_method_4_214 : decode method_4_code 214 = .ok (.aload_n 0, 1) := by decide +kernel
theorem d_method_4_215 : decode method_4_code 215 = .ok (.bipush 20, 2) := by decide +kernel
theorem d_method_4_217 : decode method_4_code 217 = .ok (.invokevirtual 34, 3) := by decide +kernel
theorem d_method_4_220 : decode method_4_code 220 = .ok (.bipush 114, 2) := by decide +kernel
theorem d_method_4_222 : decode method_4_code 222 = .ok (.if_icmp .ne 18, 3) := by decide +kernel
theorem d_method_4_225 : decode method_4_code 225 = .ok (.aload_n 0, 1) := by decide +kernel
theorem d_method_4_226 : decode method_4_code 226 = .ok (.bipush 21, 2) := by decide +kernel
theorem d_method_4_228 : decode method_4_code 228 = .ok (.invokevirtual 34, 3) := by decide +kernel
theorem d_method_4_231 : decode method_4_code 231 = .ok (.bipush 32, 2) := by decide +kernel
theorem d_method_4_233 : decode method_4_code 233 = .ok (.if_icmp .ne 7, 3) := by decide +kernel
theorem d_method_4_236 : decode method_4_code 236 = .ok (.iconst 1, 1) := by decide +kernel
theorem d_method_4_237 : decode method_4_code 237 = .ok (.goto 4, 3) := by decide +kernel
theorem d_method_4_241 : decode method_4_code 241 = .ok (.ireturn, 1) := by decide +kernel
theorem d_jdk_68_method_2_0 : decode jdk_68_method_2_code 0 = .ok (.aload_n 0, 1) := by decide +kernel
theorem d_jdk_68_method_2_1 : decode jdk_68_method_2_code 1 = .ok (.invokespecial 3, 3) := by decide +kernel
theorem d_jdk_68_method_2_4 : decode jdk_68_method_2_code 4 = .ok (.getstatic 18, 3) := by decide +kernel
theorem d_jdk_68_method_2_7 : decode jdk_68_method_2_code 7 = .ok (.ifCond .eq 18, 3) := by decide +kernel
theorem d_jdk_68_method_2_10 : decode jdk_68_method_2_code 10 = .ok (.aload_n 0, 1) := by decide +kernel
theorem d_jdk_68_method_2_11 : decode jdk_68_method_2_code 11 = .ok (.iload_n 1, 1) := by decide +kernel
theorem d_jdk_68_method_2_12 : decode jdk_68_method_2_code 12 = .ok (.newarray .byte, 2) := by decide +kernel
theorem d_jdk_68_method_2_14 : decode jdk_68_method_2_code 14 = .ok (.putfield 15, 3) := by decide +kernel
theorem d_jdk_68_method_2_17 : decode jdk_68_method_2_code 17 = .ok (.aload_n 0, 1) := by decide +kernel
theorem d_jdk_68_method_2_18 : decode jdk_68_method_2_code 18 = .ok (.iconst 0, 1) := by decide +kernel
theorem d_jdk_68_method_2_19 : decode jdk_68_method_2_code 19 = .ok (.putfield 22, 3) := by decide +kernel
theorem d_jdk_68_method_2_22 : decode jdk_68_method_2_code 22 = .ok (.goto 16, 3) := by decide +kernel
theorem d_jdk_68_method_2_38 : decode jdk_68_method_2_code 38 = .ok (.return_, 1) := by decide +kernel
theorem d_jdk_68_method_22_0 : decode jdk_68_method_22_code 0 = .ok (.aload_n 1, 1) := by decide +kernel
theorem d_jdk_68_method_22_1 : decode jdk_68_method_22_code 1 = .ok (.ifnonnull 8, 3) := by decide +kernel
theorem d_jdk_68_method_22_9 : decode jdk_68_method_22_code 9 = .ok (.aload_n 1, 1) := by decide +kernel
theorem d_jdk_68_method_22_10 : decode jdk_68_method_22_code 10 = .ok (.invokevirtual 32, 3) := by decide +kernel
theorem d_jdk_68_method_22_13 : decode jdk_68_method_22_code 13 = .ok (.istore_n 2, 1) := by decide +kernel
theorem d_jdk_68_method_22_14 : decode jdk_68_method_22_code 14 = .ok (.aload_n 0, 1) := by decide +kernel
theorem d_jdk_68_method_22_15 : decode jdk_68_method_22_code 15 = .ok (.aload_n 0, 1) := by decide +kernel
theorem d_jdk_68_method_22_16 : decode jdk_68_method_22_code 16 = .ok (.getfield 79, 3) := by decide +kernel
theorem d_jdk_68_method_22_19 : decode jdk_68_method_22_code 19 = .ok (.iload_n 2, 1) := by decide +kernel
theorem d_jdk_68_method_22_20 : decode jdk_68_method_22_code 20 = .ok (.iadd, 1) := by decide +kernel
theorem d_jdk_68_method_22_21 : decode jdk_68_method_22_code 21 = .ok (.invokevirtual 100, 3) := by decide +kernel
theorem d_jdk_68_method_22_24 : decode jdk_68_method_22_code 24 = .ok (.aload_n 0, 1) := by decide +kernel
theorem d_jdk_68_method_22_25 : decode jdk_68_method_22_code 25 = .ok (.aload_n 0, 1) := by decide +kernel
theorem d_jdk_68_method_22_26 : decode jdk_68_method_22_code 26 = .ok (.getfield 79, 3) := by decide +kernel
theorem d_jdk_68_method_22_29 : decode jdk_68_method_22_code 29 = .ok (.aload_n 1, 1) := by decide +kernel
theorem d_jdk_68_method_22_30 : decode jdk_68_method_22_code 30 = .ok (.invokevirtual 208, 3) := by decide +kernel
theorem d_jdk_68_method_22_33 : decode jdk_68_method_22_code 33 = .ok (.aload_n 0, 1) := by decide +kernel
theorem d_jdk_68_method_22_34 : decode jdk_68_method_22_code 34 = .ok (.dup, 1) := by decide +kernel
theorem d_jdk_68_method_22_35 : decode jdk_68_method_22_code 35 = .ok (.getfield 79, 3) := by decide +kernel
theorem d_jdk_68_method_22_38 : decode jdk_68_method_22_code 38 = .ok (.iload_n 2, 1) := by decide +kernel
theorem d_jdk_68_method_22_39 : decode jdk_68_method_22_code 39 = .ok (.iadd, 1) := by decide +kernel
theorem d_jdk_68_method_22_40 : decode jdk_68_method_22_code 40 = .ok (.putfield 79, 3) := by decide +kernel
theorem d_jdk_68_method_22_43 : decode jdk_68_method_22_code 43 = .ok (.aload_n 0, 1) := by decide +kernel
theorem d_jdk_68_method_22_44 : decode jdk_68_method_22_code 44 = .ok (.areturn, 1) := by decide +kernel
theorem d_jdk_68_method_9_0 : decode jdk_68_method_9_code 0 = .ok (.aload_n 0, 1) := by decide +kernel
theorem d_jdk_68_method_9_1 : decode jdk_68_method_9_code 1 = .ok (.getfield 15, 3) := by decide +kernel
theorem d_jdk_68_method_9_4 : decode jdk_68_method_9_code 4 = .ok (.arraylength, 1) := by decide +kernel
theorem d_jdk_68_method_9_5 : decode jdk_68_method_9_code 5 = .ok (.aload_n 0, 1) := by decide +kernel
theorem d_jdk_68_method_9_6 : decode jdk_68_method_9_code 6 = .ok (.getfield 22, 3) := by decide +kernel
theorem d_jdk_68_method_9_9 : decode jdk_68_method_9_code 9 = .ok (.ishr, 1) := by decide +kernel
theorem d_jdk_68_method_9_10 : decode jdk_68_method_9_code 10 = .ok (.istore_n 2, 1) := by decide +kernel
theorem d_jdk_68_method_9_11 : decode jdk_68_method_9_code 11 = .ok (.iload_n 1, 1) := by decide +kernel
theorem d_jdk_68_method_9_12 : decode jdk_68_method_9_code 12 = .ok (.iload_n 2, 1) := by decide +kernel
theorem d_jdk_68_method_9_13 : decode jdk_68_method_9_code 13 = .ok (.isub, 1) := by decide +kernel
theorem d_jdk_68_method_9_14 : decode jdk_68_method_9_code 14 = .ok (.ifCond .le 24, 3) := by decide +kernel
theorem d_jdk_68_method_9_17 : decode jdk_68_method_9_code 17 = .ok (.aload_n 0, 1) := by decide +kernel
theorem d_jdk_68_method_9_18 : decode jdk_68_method_9_code 18 = .ok (.aload_n 0, 1) := by decide +kernel
theorem d_jdk_68_method_9_19 : decode jdk_68_method_9_code 19 = .ok (.getfield 15, 3) := by decide +kernel
theorem d_jdk_68_method_9_22 : decode jdk_68_method_9_code 22 = .ok (.aload_n 0, 1) := by decide +kernel
theorem d_jdk_68_method_9_23 : decode jdk_68_method_9_code 23 = .ok (.iload_n 1, 1) := by decide +kernel
theorem d_jdk_68_method_9_24 : decode jdk_68_method_9_code 24 = .ok (.invokevirtual 104, 3) := by decide +kernel
theorem d_jdk_68_method_9_27 : decode jdk_68_method_9_code 27 = .ok (.aload_n 0, 1) := by decide +kernel
theorem d_jdk_68_method_9_28 : decode jdk_68_method_9_code 28 = .ok (.getfield 22, 3) := by decide +kernel
theorem d_jdk_68_method_9_31 : decode jdk_68_method_9_code 31 = .ok (.ishl, 1) := by decide +kernel
theorem d_jdk_68_method_9_32 : decode jdk_68_method_9_code 32 = .ok (.invokestatic 108, 3) := by decide +kernel
theorem d_jdk_68_method_9_35 : decode jdk_68_method_9_code 35 = .ok (.putfield 15, 3) := by decide +kernel
theorem d_jdk_68_method_9_38 : decode jdk_68_method_9_code 38 = .ok (.return_, 1) := by decide +kernel
theorem d_jdk_68_method_64_0 : decode jdk_68_method_64_code 0 = .ok (.aload_n 0, 1) := by decide +kernel
theorem d_jdk_68_method_64_1 : decode jdk_68_method_64_code 1 = .ok (.getfield 15, 3) := by decide +kernel
theorem d_jdk_68_method_64_4 : decode jdk_68_method_64_code 4 = .ok (.areturn, 1) := by decide +kernel
theorem d_jdk_68_method_71_0 : decode jdk_68_method_71_code 0 = .ok (.getstatic 18, 3) := by decide +kernel
theorem d_jdk_68_method_71_3 : decode jdk_68_method_71_code 3 = .ok (.ifCond .eq 18, 3) := by decide +kernel
theorem d_jdk_68_method_71_6 : decode jdk_68_method_71_code 6 = .ok (.aload_n 0, 1) := by decide +kernel
theorem d_jdk_68_method_71_7 : decode jdk_68_method_71_code 7 = .ok (.getfield 22, 3) := by decide +kernel
theorem d_jdk_68_method_71_10 : decode jdk_68_method_71_code 10 = .ok (.aload_n 1, 1) := by decide +kernel
theorem d_jdk_68_method_71_11 : decode jdk_68_method_71_code 11 = .ok (.invokevirtual 40, 3) := by decide +kernel
theorem d_jdk_68_method_71_14 : decode jdk_68_method_71_code 14 = .ok (.if_icmp .eq 7, 3) := by decide +kernel
theorem d_jdk_68_method_71_21 : decode jdk_68_method_71_code 21 = .ok (.return_, 1) := by decide +kernel
theorem d_jdk_68_method_68_0 : decode jdk_68_method_68_code 0 = .ok (.getstatic 18, 3) := by decide +kernel
theorem d_jdk_68_method_68_3 : decode jdk_68_method_68_code 3 = .ok (.ifCond .eq 14, 3) := by decide +kernel
theorem d_jdk_68_method_68_6 : decode jdk_68_method_68_code 6 = .ok (.aload_n 0, 1) := by decide +kernel
theorem d_jdk_68_method_68_7 : decode jdk_68_method_68_code 7 = .ok (.getfield 22, 3) := by decide +kernel
theorem d_jdk_68_method_68_10 : decode jdk_68_method_68_code 10 = .ok (.ifCond .ne 7, 3) := by decide +kernel
theorem d_jdk_68_method_68_13 : decode jdk_68_method_68_code 13 = .ok (.iconst 1, 1) := by decide +kernel
theorem d_jdk_68_method_68_14 : decode jdk_68_method_68_code 14 = .ok (.goto 4, 3) := by decide +kernel
theorem d_jdk_68_method_68_18 : decode jdk_68_method_68_code 18 = .ok (.ireturn, 1) := by decide +kernel
theorem d_jdk_68_method_6_0 : decode jdk_68_method_6_code 0 = .ok (.aload_n 0, 1) := by decide +kernel
theorem d_jdk_68_method_6_1 : decode jdk_68_method_6_code 1 = .ok (.getfield 79, 3) := by decide +kernel
theorem d_jdk_68_method_6_4 : decode jdk_68_method_6_code 4 = .ok (.ireturn, 1) := by decide +kernel
theorem d_jdk_68_method_10_0 : decode jdk_68_method_10_code 0 = .ok (.aload_n 0, 1) := by decide +kernel
theorem d_jdk_68_method_10_1 : decode jdk_68_method_10_code 1 = .ok (.getfield 15, 3) := by decide +kernel
theorem d_jdk_68_method_10_4 : decode jdk_68_method_10_code 4 = .ok (.arraylength, 1) := by decide +kernel
theorem d_jdk_68_method_10_5 : decode jdk_68_method_10_code 5 = .ok (.istore_n 2, 1) := by decide +kernel
theorem d_jdk_68_method_10_6 : decode jdk_68_method_10_code 6 = .ok (.iload_n 1, 1) := by decide +kernel
theorem d_jdk_68_method_10_7 : decode jdk_68_method_10_code 7 = .ok (.aload_n 0, 1) := by decide +kernel
theorem d_jdk_68_method_10_8 : decode jdk_68_method_10_code 8 = .ok (.getfield 22, 3) := by decide +kernel
theorem d_jdk_68_method_10_11 : decode jdk_68_method_10_code 11 = .ok (.ishl, 1) := by decide +kernel
theorem d_jdk_68_method_10_12 : decode jdk_68_method_10_code 12 = .ok (.istore_n 3, 1) := by decide +kernel
theorem d_jdk_68_method_10_13 : decode jdk_68_method_10_code 13 = .ok (.iload_n 3, 1) := by decide +kernel
theorem d_jdk_68_method_10_14 : decode jdk_68_method_10_code 14 = .ok (.iload_n 2, 1) := by decide +kernel
theorem d_jdk_68_method_10_15 : decode jdk_68_method_10_code 15 = .ok (.isub, 1) := by decide +kernel
theorem d_jdk_68_method_10_16 : decode jdk_68_method_10_code 16 = .ok (.istore 4, 2) := by decide +kernel
theorem d_jdk_68_method_10_18 : decode jdk_68_method_10_code 18 = .ok (.iload_n 2, 1) := by decide +kernel
theorem d_jdk_68_method_10_19 : decode jdk_68_method_10_code 19 = .ok (.iload 4, 2) := by decide +kernel
theorem d_jdk_68_method_10_21 : decode jdk_68_method_10_code 21 = .ok (.iload_n 2, 1) := by decide +kernel
theorem d_jdk_68_method_10_22 : decode jdk_68_method_10_code 22 = .ok (.iconst 2, 1) := by decide +kernel
theorem d_jdk_68_method_10_23 : decode jdk_68_method_10_code 23 = .ok (.aload_n 0, 1) := by decide +kernel
theorem d_jdk_68_method_10_24 : decode jdk_68_method_10_code 24 = .ok (.getfield 22, 3) := by decide +kernel
theorem d_jdk_68_method_10_27 : decode jdk_68_method_10_code 27 = .ok (.ishl, 1) := by decide +kernel
theorem d_jdk_68_method_10_28 : decode jdk_68_method_10_code 28 = .ok (.iadd, 1) := by decide +kernel
theorem d_jdk_68_method_10_29 : decode jdk_68_method_10_code 29 = .ok (.invokestatic 114, 3) := by decide +kernel
theorem d_jdk_68_method_10_32 : decode jdk_68_method_10_code 32 = .ok (.istore 5, 2) := by decide +kernel
theorem d_jdk_68_method_10_34 : decode jdk_68_method_10_code 34 = .ok (.iload 5, 2) := by decide +kernel
theorem d_jdk_68_method_10_36 : decode jdk_68_method_10_code 36 = .ok (.ldc 39, 2) := by decide +kernel
theorem d_jdk_68_method_10_38 : decode jdk_68_method_10_code 38 = .ok (.if_icmp .ne 13, 3) := by decide +kernel
theorem d_jdk_68_method_10_51 : decode jdk_68_method_10_code 51 = .ok (.iload 5, 2) := by decide +kernel
theorem d_jdk_68_method_10_53 : decode jdk_68_method_10_code 53 = .ok (.aload_n 0, 1) := by decide +kernel
theorem d_jdk_68_method_10_54 : decode jdk_68_method_10_code 54 = .ok (.getfield 22, 3) := by decide +kernel
theorem d_jdk_68_method_10_57 : decode jdk_68_method_10_code 57 = .ok (.ishr, 1) := by decide +kernel
theorem d_jdk_68_method_10_58 : decode jdk_68_method_10_code 58 = .ok (.ireturn, 1) := by decide +kernel
theorem d_jdk_68_method_73_0 : decode jdk_68_method_73_code 0 = .ok (.aload_n 0, 1) := by decide +kernel
theorem d_jdk_68_method_73_1 : decode jdk_68_method_73_code 1 = .ok (.aload_n 2, 1) := by decide +kernel
theorem d_jdk_68_method_73_2 : decode jdk_68_method_73_code 2 = .ok (.invokevirtual 397, 3) := by decide +kernel
theorem d_jdk_68_method_73_5 : decode jdk_68_method_73_code 5 = .ok (.aload_n 2, 1) := by decide +kernel
theorem d_jdk_68_method_73_6 : decode jdk_68_method_73_code 6 = .ok (.aload_n 0, 1) := by decide +kernel
theorem d_jdk_68_method_73_7 : decode jdk_68_method_73_code 7 = .ok (.getfield 15, 3) := by decide +kernel
theorem d_jdk_68_method_73_10 : decode jdk_68_method_73_code 10 = .ok (.iload_n 1, 1) := by decide +kernel
theorem d_jdk_68_method_73_11 : decode jdk_68_method_73_code 11 = .ok (.aload_n 0, 1) := by decide +kernel
theorem d_jdk_68_method_73_12 : decode jdk_68_method_73_code 12 = .ok (.getfield 22, 3) := by decide +kernel
theorem d_jdk_68_method_73_15 : decode jdk_68_method_73_code 15 = .ok (.invokevirtual 399, 3) := by decide +kernel
theorem d_jdk_68_method_73_18 : decode jdk_68_method_73_code 18 = .ok (.return_, 1) := by decide +kernel
theorem d_jdk_59_method_2_0 : decode jdk_59_method_2_code 0 = .ok (.aload_n 0, 1) := by decide +kernel
theorem d_jdk_59_method_2_1 : decode jdk_59_method_2_code 1 = .ok (.aload_n 1, 1) := by decide +kernel
theorem d_jdk_59_method_2_2 : decode jdk_59_method_2_code 2 = .ok (.invokespecial 7, 3) := by decide +kernel
theorem d_jdk_59_method_2_5 : decode jdk_59_method_2_code 5 = .ok (.return_, 1) := by decide +kernel
theorem d_jdk_29_method_65_0 : decode jdk_29_method_65_code 0 = .ok (.iload_n 0, 1) := by decide +kernel
theorem d_jdk_29_method_65_1 : decode jdk_29_method_65_code 1 = .ok (.iload_n 1, 1) := by decide +kernel
theorem d_jdk_29_method_65_2 : decode jdk_29_method_65_code 2 = .ok (.if_icmp .lt 7, 3) := by decide +kernel
theorem d_jdk_29_method_65_5 : decode jdk_29_method_65_code 5 = .ok (.iload_n 0, 1) := by decide +kernel
theorem d_jdk_29_method_65_6 : decode jdk_29_method_65_code 6 = .ok (.goto 4, 3) := by decide +kernel
theorem d_jdk_29_method_65_9 : decode jdk_29_method_65_code 9 = .ok (.iload_n 1, 1) := by decide +kernel
theorem d_jdk_29_method_65_10 : decode jdk_29_method_65_code 10 = .ok (.ireturn, 1) := by decide +kernel
theorem d_jdk_29_method_69_0 : decode jdk_29_method_69_code 0 = .ok (.iload_n 0, 1) := by decide +kernel
theorem d_jdk_29_method_69_1 : decode jdk_29_method_69_code 1 = .ok (.iload_n 1, 1) := by decide +kernel
theorem d_jdk_29_method_69_2 : decode jdk_29_method_69_code 2 = .ok (.if_icmp .gt 7, 3) := by decide +kernel
theorem d_jdk_29_method_69_5 : decode jdk_29_method_69_code 5 = .ok (.iload_n 0, 1) := by decide +kernel
theorem d_jdk_29_method_69_6 : decode jdk_29_method_69_code 6 = .ok (.goto 4, 3) := by decide +kernel
theorem d_jdk_29_method_69_9 : decode jdk_29_method_69_code 9 = .ok (.iload_n 1, 1) := by decide +kernel
theorem d_jdk_29_method_69_10 : decode jdk_29_method_69_code 10 = .ok (.ireturn, 1) := by decide +kernel
theorem d_jdk_42_method_150_0 : decode jdk_42_method_150_code 0 = .ok (.aload_n 0, 1) := by decide +kernel
theorem d_jdk_42_method_150_1 : decode jdk_42_method_150_code 1 = .ok (.invokespecial 1, 3) := by decide +kernel
theorem d_jdk_42_method_150_4 : decode jdk_42_method_150_code 4 = .ok (.aload_n 1, 1) := by decide +kernel
theorem d_jdk_42_method_150_5 : decode jdk_42_method_150_code 5 = .ok (.invokevirtual 552, 3) := by decide +kernel
theorem d_jdk_42_method_150_8 : decode jdk_42_method_150_code 8 = .ok (.astore_n 3, 1) := by decide +kernel
theorem d_jdk_42_method_150_9 : decode jdk_42_method_150_code 9 = .ok (.aload_n 1, 1) := by decide +kernel
theorem d_jdk_42_method_150_10 : decode jdk_42_method_150_code 10 = .ok (.invokevirtual 549, 3) := by decide +kernel
theorem d_jdk_42_method_150_13 : decode jdk_42_method_150_code 13 = .ok (.istore 4, 2) := by decide +kernel
theorem d_jdk_42_method_150_15 : decode jdk_42_method_150_code 15 = .ok (.aload_n 1, 1) := by decide +kernel
theorem d_jdk_42_method_150_16 : decode jdk_42_method_150_code 16 = .ok (.invokevirtual 1047, 3) := by decide +kernel
theorem d_jdk_42_method_150_19 : decode jdk_42_method_150_code 19 = .ok (.ifCond .eq 22, 3) := by decide +kernel
theorem d_jdk_42_method_150_22 : decode jdk_42_method_150_code 22 = .ok (.aload_n 0, 1) := by decide +kernel
theorem d_jdk_42_method_150_23 : decode jdk_42_method_150_code 23 = .ok (.iconst 0, 1) := by decide +kernel
theorem d_jdk_42_method_150_24 : decode jdk_42_method_150_code 24 = .ok (.putfield 15, 3) := by decide +kernel
theorem d_jdk_42_method_150_27 : decode jdk_42_method_150_code 27 = .ok (.aload_n 0, 1) := by decide +kernel
theorem d_jdk_42_method_150_28 : decode jdk_42_method_150_code 28 = .ok (.aload_n 3, 1) := by decide +kernel
theorem d_jdk_42_method_150_29 : decode jdk_42_method_150_code 29 = .ok (.iconst 0, 1) := by decide +kernel
theorem d_jdk_42_method_150_30 : decode jdk_42_method_150_code 30 = .ok (.iload 4, 2) := by decide +kernel
theorem d_jdk_42_method_150_32 : decode jdk_42_method_150_code 32 = .ok (.invokestatic 54, 3) := by decide +kernel
theorem d_jdk_42_method_150_35 : decode jdk_42_method_150_code 35 = .ok (.putfield 9, 3) := by decide +kernel
theorem d_jdk_42_method_150_38 : decode jdk_42_method_150_code 38 = .ok (.goto 59, 3) := by decide +kernel
theorem d_jdk_42_method_150_97 : decode jdk_42_method_150_code 97 = .ok (.return_, 1) := by decide +kernel
theorem d_jdk_42_method_53_0 : decode jdk_42_method_53_code 0 = .ok (.aload_n 0, 1) := by decide +kernel
theorem d_jdk_42_method_53_1 : decode jdk_42_method_53_code 1 = .ok (.aload_n 1, 1) := by decide +kernel
theorem d_jdk_42_method_53_2 : decode jdk_42_method_53_code 2 = .ok (.aconst_null, 1) := by decide +kernel
theorem d_jdk_42_method_53_3 : decode jdk_42_method_53_code 3 = .ok (.invokespecial 489, 3) := by decide +kernel
theorem d_jdk_42_method_53_6 : decode jdk_42_method_53_code 6 = .ok (.return_, 1) := by decide +kernel
theorem d_jdk_42_method_151_0 : decode jdk_42_method_151_code 0 = .ok (.aload_n 0, 1) := by decide +kernel
theorem d_jdk_42_method_151_1 : decode jdk_42_method_151_code 1 = .ok (.invokespecial 1, 3) := by decide +kernel
theorem d_jdk_42_method_151_4 : decode jdk_42_method_151_code 4 = .ok (.aload_n 0, 1) := by decide +kernel
theorem d_jdk_42_method_151_5 : decode jdk_42_method_151_code 5 = .ok (.aload_n 1, 1) := by decide +kernel
theorem d_jdk_42_method_151_6 : decode jdk_42_method_151_code 6 = .ok (.putfield 9, 3) := by decide +kernel
theorem d_jdk_42_method_151_9 : decode jdk_42_method_151_code 9 = .ok (.aload_n 0, 1) := by decide +kernel
theorem d_jdk_42_method_151_10 : decode jdk_42_method_151_code 10 = .ok (.iload_n 2, 1) := by decide +kernel
theorem d_jdk_42_method_151_11 : decode jdk_42_method_151_code 11 = .ok (.putfield 15, 3) := by decide +kernel
theorem d_jdk_42_method_151_14 : decode jdk_42_method_151_code 14 = .ok (.return_, 1) := by decide +kernel
theorem d_jdk_42_method_3_0 : decode jdk_42_method_3_code 0 = .ok (.aload_n 0, 1) := by decide +kernel
theorem d_jdk_42_method_3_1 : decode jdk_42_method_3_code 1 = .ok (.aload_n 1, 1) := by decide +kernel
theorem d_jdk_42_method_3_2 : decode jdk_42_method_3_code 2 = .ok (.iconst 0, 1) := by decide +kernel
theorem d_jdk_42_method_3_3 : decode jdk_42_method_3_code 3 = .ok (.aload_n 1, 1) := by decide +kernel
theorem d_jdk_42_method_3_4 : decode jdk_42_method_3_code 4 = .ok (.arraylength, 1) := by decide +kernel
theorem d_jdk_42_method_3_5 : decode jdk_42_method_3_code 5 = .ok (.aconst_null, 1) := by decide +kernel
theorem d_jdk_42_method_3_6 : decode jdk_42_method_3_code 6 = .ok (.invokespecial 27, 3) := by decide +kernel
theorem d_jdk_42_method_3_9 : decode jdk_42_method_3_code 9 = .ok (.return_, 1) := by decide +kernel
theorem d_jdk_42_method_149_0 : decode jdk_42_method_149_code 0 = .ok (.aload_n 0, 1) := by decide +kernel
theorem d_jdk_42_method_149_1 : decode jdk_42_method_149_code 1 = .ok (.invokespecial 1, 3) := by decide +kernel
theorem d_jdk_42_method_149_4 : decode jdk_42_method_149_code 4 = .ok (.iload_n 3, 1) := by decide +kernel
theorem d_jdk_42_method_149_5 : decode jdk_42_method_149_code 5 = .ok (.ifCond .ne 22, 3) := by decide +kernel
theorem d_jdk_42_method_149_8 : decode jdk_42_method_149_code 8 = .ok (.aload_n 0, 1) := by decide +kernel
theorem d_jdk_42_method_149_9 : decode jdk_42_method_149_code 9 = .ok (.ldc 7, 2) := by decide +kernel
theorem d_jdk_42_method_149_11 : decode jdk_42_method_149_code 11 = .ok (.getfield 9, 3) := by decide +kernel
theorem d_jdk_42_method_149_14 : decode jdk_42_method_149_code 14 = .ok (.putfield 9, 3) := by decide +kernel
theorem d_jdk_42_method_149_17 : decode jdk_42_method_149_code 17 = .ok (.aload_n 0, 1) := by decide +kernel
theorem d_jdk_42_method_149_18 : decode jdk_42_method_149_code 18 = .ok (.ldc 7, 2) := by decide +kernel
theorem d_jdk_42_method_149_20 : decode jdk_42_method_149_code 20 = .ok (.getfield 15, 3) := by decide +kernel
theorem d_jdk_42_method_149_23 : decode jdk_42_method_149_code 23 = .ok (.putfield 15, 3) := by decide +kernel
theorem d_jdk_42_method_149_26 : decode jdk_42_method_149_code 26 = .ok (.return_, 1) := by decide +kernel
theorem d_jdk_42_method_149_27 : decode jdk_42_method_149_code 27 = .ok (.getstatic 38, 3) := by decide +kernel
theorem d_jdk_42_method_149_30 : decode jdk_42_method_149_code 30 = .ok (.ifCond .eq 28, 3) := by decide +kernel
theorem d_jdk_42_method_149_33 : decode jdk_42_method_149_code 33 = .ok (.aload_n 1, 1) := by decide +kernel
theorem d_jdk_42_method_149_34 : decode jdk_42_method_149_code 34 = .ok (.iload_n 2, 1) := by decide +kernel
theorem d_jdk_42_method_149_35 : decode jdk_42_method_149_code 35 = .ok (.iload_n 3, 1) := by decide +kernel
theorem d_jdk_42_method_149_36 : decode jdk_42_method_149_code 36 = .ok (.invokestatic 177, 3) := by decide +kernel
theorem d_jdk_42_method_149_39 : decode jdk_42_method_149_code 39 = .ok (.astore 5, 2) := by decide +kernel
theorem d_jdk_42_method_149_41 : decode jdk_42_method_149_code 41 = .ok (.aload_n 0, 1) := by decide +kernel
theorem d_jdk_42_method_149_42 : decode jdk_42_method_149_code 42 = .ok (.aload 5, 2) := by decide +kernel
theorem d_jdk_42_method_149_44 : decode jdk_42_method_149_code 44 = .ok (.iload_n 3, 1) := by decide +kernel
theorem d_jdk_42_method_149_45 : decode jdk_42_method_149_code 45 = .ok (.invokestatic 47, 3) := by decide +kernel
theorem d_jdk_42_method_149_48 : decode jdk_42_method_149_code 48 = .ok (.putfield 15, 3) := by decide +kernel
theorem d_jdk_42_method_149_51 : decode jdk_42_method_149_code 51 = .ok (.aload_n 0, 1) := by decide +kernel
theorem d_jdk_42_method_149_52 : decode jdk_42_method_149_code 52 = .ok (.aload 5, 2) := by decide +kernel
theorem d_jdk_42_method_149_54 : decode jdk_42_method_149_code 54 = .ok (.putfield 9, 3) := by decide +kernel
theorem d_jdk_42_method_149_57 : decode jdk_42_method_149_code 57 = .ok (.return_, 1) := by decide +kernel
theorem d_jdk_42_method_56_0 : decode jdk_42_method_56_code 0 = .ok (.aload_n 0, 1) := by decide +kernel
theorem d_jdk_42_method_56_1 : decode jdk_42_method_56_code 1 = .ok (.invokevirtual 492, 3) := by decide +kernel
theorem d_jdk_42_method_56_4 : decode jdk_42_method_56_code 4 = .ok (.ifCond .eq 12, 3) := by decide +kernel
theorem d_jdk_42_method_56_7 : decode jdk_42_method_56_code 7 = .ok (.aload_n 0, 1) := by decide +kernel
theorem d_jdk_42_method_56_8 : decode jdk_42_method_56_code 8 = .ok (.getfield 9, 3) := by decide +kernel
theorem d_jdk_42_method_56_11 : decode jdk_42_method_56_code 11 = .ok (.iload_n 1, 1) := by decide +kernel
theorem d_jdk_42_method_56_12 : decode jdk_42_method_56_code 12 = .ok (.invokestatic 495, 3) := by decide +kernel
theorem d_jdk_42_method_56_15 : decode jdk_42_method_56_code 15 = .ok (.ireturn, 1) := by decide +kernel
theorem d_jdk_42_method_155_0 : decode jdk_42_method_155_code 0 = .ok (.iload_n 0, 1) := by decide +kernel
theorem d_jdk_42_method_155_1 : decode jdk_42_method_155_code 1 = .ok (.iload_n 1, 1) := by decide +kernel
theorem d_jdk_42_method_155_2 : decode jdk_42_method_155_code 2 = .ok (.getstatic 1053, 3) := by decide +kernel
theorem d_jdk_42_method_155_5 : decode jdk_42_method_155_code 5 = .ok (.invokestatic 1059, 3) := by decide +kernel
theorem d_jdk_42_method_155_8 : decode jdk_42_method_155_code 8 = .ok (.pop, 1) := by decide +kernel
theorem d_jdk_42_method_155_9 : decode jdk_42_method_155_code 9 = .ok (.return_, 1) := by decide +kernel
theorem d_jdk_42_method_152_0 : decode jdk_42_method_152_code 0 = .ok (.getstatic 38, 3) := by decide +kernel
theorem d_jdk_42_method_152_3 : decode jdk_42_method_152_code 3 = .ok (.ifCond .eq 10, 3) := by decide +kernel
theorem d_jdk_42_method_152_6 : decode jdk_42_method_152_code 6 = .ok (.aload_n 0, 1) := by decide +kernel
theorem d_jdk_42_method_152_7 : decode jdk_42_method_152_code 7 = .ok (.getfield 15, 3) := by decide +kernel
theorem d_jdk_42_method_152_10 : decode jdk_42_method_152_code 10 = .ok (.goto 4, 3) := by decide +kernel
theorem d_jdk_42_method_152_14 : decode jdk_42_method_152_code 14 = .ok (.ireturn, 1) := by decide +kernel
theorem d_jdk_42_method_147_0 : decode jdk_42_method_147_code 0 = .ok (.aload_n 0, 1) := by decide +kernel
theorem d_jdk_42_method_147_1 : decode jdk_42_method_147_code 1 = .ok (.invokevirtual 335, 3) := by decide +kernel
theorem d_jdk_42_method_147_4 : decode jdk_42_method_147_code 4 = .ok (.iload_n 3, 1) := by decide +kernel
theorem d_jdk_42_method_147_5 : decode jdk_42_method_147_code 5 = .ok (.if_icmp .ne 23, 3) := by decide +kernel
theorem d_jdk_42_method_147_8 : decode jdk_42_method_147_code 8 = .ok (.aload_n 0, 1) := by decide +kernel
theorem d_jdk_42_method_147_9 : decode jdk_42_method_147_code 9 = .ok (.getfield 9, 3) := by decide +kernel
theorem d_jdk_42_method_147_12 : decode jdk_42_method_147_code 12 = .ok (.iconst 0, 1) := by decide +kernel
theorem d_jdk_42_method_147_13 : decode jdk_42_method_147_code 13 = .ok (.aload_n 1, 1) := by decide +kernel
theorem d_jdk_42_method_147_14 : decode jdk_42_method_147_code 14 = .ok (.iload_n 2, 1) := by decide +kernel
theorem d_jdk_42_method_147_15 : decode jdk_42_method_147_code 15 = .ok (.iload_n 3, 1) := by decide +kernel
theorem d_jdk_42_method_147_16 : decode jdk_42_method_147_code 16 = .ok (.ishl, 1) := by decide +kernel
theorem d_jdk_42_method_147_17 : decode jdk_42_method_147_code 17 = .ok (.aload_n 0, 1) := by decide +kernel
theorem d_jdk_42_method_147_18 : decode jdk_42_method_147_code 18 = .ok (.getfield 9, 3) := by decide +kernel
theorem d_jdk_42_method_147_21 : decode jdk_42_method_147_code 21 = .ok (.arraylength, 1) := by decide +kernel
theorem d_jdk_42_method_147_22 : decode jdk_42_method_147_code 22 = .ok (.invokestatic 212, 3) := by decide +kernel
theorem d_jdk_42_method_147_25 : decode jdk_42_method_147_code 25 = .ok (.goto 18, 3) := by decide +kernel
theorem d_jdk_42_method_147_43 : decode jdk_42_method_147_code 43 = .ok (.return_, 1) := by decide +kernel
theorem d_jdk_42_method_154_0 : decode jdk_42_method_154_code 0 = .ok (.getstatic 38, 3) := by decide +kernel
theorem d_jdk_42_method_154_3 : decode jdk_42_method_154_code 3 = .ok (.ifCond .eq 14, 3) := by decide +kernel
theorem d_jdk_42_method_154_6 : decode jdk_42_method_154_code 6 = .ok (.aload_n 0, 1) := by decide +kernel
theorem d_jdk_42_method_154_7 : decode jdk_42_method_154_code 7 = .ok (.getfield 15, 3) := by decide +kernel
theorem d_jdk_42_method_154_10 : decode jdk_42_method_154_code 10 = .ok (.ifCond .ne 7, 3) := by decide +kernel
theorem d_jdk_42_method_154_13 : decode jdk_42_method_154_code 13 = .ok (.iconst 1, 1) := by decide +kernel
theorem d_jdk_42_method_154_14 : decode jdk_42_method_154_code 14 = .ok (.goto 4, 3) := by decide +kernel
theorem d_jdk_42_method_154_18 : decode jdk_42_method_154_code 18 = .ok (.ireturn, 1) := by decide +kernel
theorem d_jdk_42_method_54_0 : decode jdk_42_method_54_code 0 = .ok (.aload_n 0, 1) := by decide +kernel
theorem d_jdk_42_method_54_1 : decode jdk_42_method_54_code 1 = .ok (.getfield 9, 3) := by decide +kernel
theorem d_jdk_42_method_54_4 : decode jdk_42_method_54_code 4 = .ok (.arraylength, 1) := by decide +kernel
theorem d_jdk_42_method_54_5 : decode jdk_42_method_54_code 5 = .ok (.aload_n 0, 1) := by decide +kernel
theorem d_jdk_42_method_54_6 : decode jdk_42_method_54_code 6 = .ok (.invokevirtual 335, 3) := by decide +kernel
theorem d_jdk_42_method_54_9 : decode jdk_42_method_54_code 9 = .ok (.ishr, 1) := by decide +kernel
theorem d_jdk_42_method_54_10 : decode jdk_42_method_54_code 10 = .ok (.ireturn, 1) := by decide +kernel
theorem d_jdk_42_method_139_0 : decode jdk_42_method_139_code 0 = .ok (.getstatic 38, 3) := by decide +kernel
theorem d_jdk_42_method_139_3 : decode jdk_42_method_139_code 3 = .ok (.ifCond .eq 23, 3) := by decide +kernel
theorem d_jdk_42_method_139_6 : decode jdk_42_method_139_code 6 = .ok (.iload_n 0, 1) := by decide +kernel
theorem d_jdk_42_method_139_7 : decode jdk_42_method_139_code 7 = .ok (.invokestatic 1015, 3) := by decide +kernel
theorem d_jdk_42_method_139_10 : decode jdk_42_method_139_code 10 = .ok (.ifCond .eq 16, 3) := by decide +kernel
theorem d_jdk_42_method_139_13 : decode jdk_42_method_139_code 13 = .ok (.new 10, 3) := by decide +kernel
theorem d_jdk_42_method_139_16 : decode jdk_42_method_139_code 16 = .ok (.dup, 1) := by decide +kernel
theorem d_jdk_42_method_139_17 : decode jdk_42_method_139_code 17 = .ok (.iload_n 0, 1) := by decide +kernel
theorem d_jdk_42_method_139_18 : decode jdk_42_method_139_code 18 = .ok (.invokestatic 1018, 3) := by decide +kernel
theorem d_jdk_42_method_139_21 : decode jdk_42_method_139_code 21 = .ok (.iconst 0, 1) := by decide +kernel
theorem d_jdk_42_method_139_22 : decode jdk_42_method_139_code 22 = .ok (.invokespecial 209, 3) := by decide +kernel
theorem d_jdk_42_method_139_25 : decode jdk_42_method_139_code 25 = .ok (.areturn, 1) := by decide +kernel
theorem d_jdk_67_method_1_0 : decode jdk_67_method_1_code 0 = .ok (.aload_n 0, 1) := by decide +kernel
theorem d_jdk_67_method_1_1 : decode jdk_67_method_1_code 1 = .ok (.bipush 16, 2) := by decide +kernel
theorem d_jdk_67_method_1_3 : decode jdk_67_method_1_code 3 = .ok (.invokespecial 1, 3) := by decide +kernel
theorem d_jdk_67_method_1_6 : decode jdk_67_method_1_code 6 = .ok (.return_, 1) := by decide +kernel
theorem d_jdk_67_method_7_0 : decode jdk_67_method_7_code 0 = .ok (.aload_n 0, 1) := by decide +kernel
theorem d_jdk_67_method_7_1 : decode jdk_67_method_7_code 1 = .ok (.aload_n 1, 1) := by decide +kernel
theorem d_jdk_67_method_7_2 : decode jdk_67_method_7_code 2 = .ok (.invokespecial 29, 3) := by decide +kernel
theorem d_jdk_67_method_7_5 : decode jdk_67_method_7_code 5 = .ok (.pop, 1) := by decide +kernel
theorem d_jdk_67_method_7_6 : decode jdk_67_method_7_code 6 = .ok (.aload_n 0, 1) := by decide +kernel
theorem d_jdk_67_method_7_7 : decode jdk_67_method_7_code 7 = .ok (.areturn, 1) := by decide +kernel
theorem d_jdk_67_method_93_0 : decode jdk_67_method_93_code 0 = .ok (.aload_n 0, 1) := by decide +kernel
theorem d_jdk_67_method_93_1 : decode jdk_67_method_93_code 1 = .ok (.invokespecial 343, 3) := by decide +kernel
theorem d_jdk_67_method_93_4 : decode jdk_67_method_93_code 4 = .ok (.ireturn, 1) := by decide +kernel
theorem d_jdk_67_method_42_0 : decode jdk_67_method_42_code 0 = .ok (.new 18, 3) := by decide +kernel
theorem d_jdk_67_method_42_3 : decode jdk_67_method_42_code 3 = .ok (.dup, 1) := by decide +kernel
theorem d_jdk_67_method_42_4 : decode jdk_67_method_42_code 4 = .ok (.aload_n 0, 1) := by decide +kernel
theorem d_jdk_67_method_42_5 : decode jdk_67_method_42_code 5 = .ok (.invokespecial 137, 3) := by decide +kernel
theorem d_jdk_67_method_42_8 : decode jdk_67_method_42_code 8 = .ok (.areturn, 1) := by decide +kernel
theorem d_jdk_43_method_3_0 : decode jdk_43_method_3_code 0 = .ok (.iload_n 0, 1) := by decide +kernel
theorem d_jdk_43_method_3_1 : decode jdk_43_method_3_code 1 = .ok (.sipush 255, 3) := by decide +kernel
theorem d_jdk_43_method_3_4 : decode jdk_43_method_3_code 4 = .ok (.if_icmp .gt 7, 3) := by decide +kernel
theorem d_jdk_43_method_3_7 : decode jdk_43_method_3_code 7 = .ok (.iconst 1, 1) := by decide +kernel
theorem d_jdk_43_method_3_8 : decode jdk_43_method_3_code 8 = .ok (.goto 4, 3) := by decide +kernel
theorem d_jdk_43_method_3_12 : decode jdk_43_method_3_code 12 = .ok (.ireturn, 1) := by decide +kernel
theorem d_jdk_43_method_2_0 : decode jdk_43_method_2_code 0 = .ok (.iload_n 1, 1) := by decide +kernel
theorem d_jdk_43_method_2_1 : decode jdk_43_method_2_code 1 = .ok (.aload_n 0, 1) := by decide +kernel
theorem d_jdk_43_method_2_2 : decode jdk_43_method_2_code 2 = .ok (.arraylength, 1) := by decide +kernel
theorem d_jdk_43_method_2_3 : decode jdk_43_method_2_code 3 = .ok (.invokestatic 9, 3) := by decide +kernel
theorem d_jdk_43_method_2_6 : decode jdk_43_method_2_code 6 = .ok (.aload_n 0, 1) := by decide +kernel
theorem d_jdk_43_method_2_7 : decode jdk_43_method_2_code 7 = .ok (.iload_n 1, 1) := by decide +kernel
theorem d_jdk_43_method_2_8 : decode jdk_43_method_2_code 8 = .ok (.baload, 1) := by decide +kernel
theorem d_jdk_43_method_2_9 : decode jdk_43_method_2_code 9 = .ok (.sipush 255, 3) := by decide +kernel
theorem d_jdk_43_method_2_12 : decode jdk_43_method_2_code 12 = .ok (.iand, 1) := by decide +kernel
theorem d_jdk_43_method_2_13 : decode jdk_43_method_2_code 13 = .ok (.i2c, 1) := by decide +kernel
theorem d_jdk_43_method_2_14 : decode jdk_43_method_2_code 14 = .ok (.ireturn, 1) := by decide +kernel
theorem d_jdk_43_method_46_0 : decode jdk_43_method_46_code 0 = .ok (.iconst 1, 1) := by decide +kernel
theorem d_jdk_43_method_46_1 : decode jdk_43_method_46_code 1 = .ok (.newarray .byte, 2) := by decide +kernel
theorem d_jdk_43_method_46_3 : decode jdk_43_method_46_code 3 = .ok (.dup, 1) := by decide +kernel
theorem d_jdk_43_method_46_4 : decode jdk_43_method_46_code 4 = .ok (.iconst 0, 1) := by decide +kernel
theorem d_jdk_43_method_46_5 : decode jdk_43_method_46_code 5 = .ok (.iload_n 0, 1) := by decide +kernel
theorem d_jdk_43_method_46_6 : decode jdk_43_method_46_code 6 = .ok (.i2b, 1) := by decide +kernel
theorem d_jdk_43_method_46_7 : decode jdk_43_method_46_code 7 = .ok (.bastore, 1) := by decide +kernel
theorem d_jdk_43_method_46_8 : decode jdk_43_method_46_code 8 = .ok (.areturn, 1) := by decide +kernel
theorem d_jdk_52_method_15_0 : decode jdk_52_method_15_code 0 = .ok (.iload_n 1, 1) := by decide +kernel
theorem d_jdk_52_method_15_1 : decode jdk_52_method_15_code 1 = .ok (.aload_n 0, 1) := by decide +kernel
theorem d_jdk_52_method_15_2 : decode jdk_52_method_15_code 2 = .ok (.arraylength, 1) := by decide +kernel
theorem d_jdk_52_method_15_3 : decode jdk_52_method_15_code 3 = .ok (.isub, 1) := by decide +kernel
theorem d_jdk_52_method_15_4 : decode jdk_52_method_15_code 4 = .ok (.bipush 31, 2) := by decide +kernel
theorem d_jdk_52_method_15_6 : decode jdk_52_method_15_code 6 = .ok (.iushr, 1) := by decide +kernel
theorem d_jdk_52_method_15_7 : decode jdk_52_method_15_code 7 = .ok (.i2b, 1) := by decide +kernel
theorem d_jdk_52_method_15_8 : decode jdk_52_method_15_code 8 = .ok (.ireturn, 1) := by decide +kernel
theorem d_jdk_52_method_16_0 : decode jdk_52_method_16_code 0 = .ok (.iload_n 2, 1) := by decide +kernel
theorem d_jdk_52_method_16_1 : decode jdk_52_method_16_code 1 = .ok (.newarray .byte, 2) := by decide +kernel
theorem d_jdk_52_method_16_3 : decode jdk_52_method_16_code 3 = .ok (.astore_n 3, 1) := by decide +kernel
theorem d_jdk_52_method_16_4 : decode jdk_52_method_16_code 4 = .ok (.aload_n 0, 1) := by decide +kernel
theorem d_jdk_52_method_16_5 : decode jdk_52_method_16_code 5 = .ok (.iload_n 1, 1) := by decide +kernel
theorem d_jdk_52_method_16_6 : decode jdk_52_method_16_code 6 = .ok (.aload_n 3, 1) := by decide +kernel
theorem d_jdk_52_method_16_7 : decode jdk_52_method_16_code 7 = .ok (.iconst 0, 1) := by decide +kernel
theorem d_jdk_52_method_16_8 : decode jdk_52_method_16_code 8 = .ok (.iload_n 2, 1) := by decide +kernel
theorem d_jdk_52_method_16_9 : decode jdk_52_method_16_code 9 = .ok (.invokestatic 115, 3) := by decide +kernel
theorem d_jdk_52_method_16_12 : decode jdk_52_method_16_code 12 = .ok (.istore 4, 2) := by decide +kernel
theorem d_jdk_52_method_16_14 : decode jdk_52_method_16_code 14 = .ok (.iload 4, 2) := by decide +kernel
theorem d_jdk_52_method_16_16 : decode jdk_52_method_16_code 16 = .ok (.iload_n 2, 1) := by decide +kernel
theorem d_jdk_52_method_16_17 : decode jdk_52_method_16_code 17 = .ok (.if_icmp .eq 40, 3) := by decide +kernel
theorem d_jdk_52_method_16_57 : decode jdk_52_method_16_code 57 = .ok (.aload_n 3, 1) := by decide +kernel
theorem d_jdk_52_method_16_58 : decode jdk_52_method_16_code 58 = .ok (.areturn, 1) := by decide +kernel
theorem d_jdk_52_method_21_0 : decode jdk_52_method_21_code 0 = .ok (.iconst 0, 1) := by decide +kernel
theorem d_jdk_52_method_21_1 : decode jdk_52_method_21_code 1 = .ok (.istore 5, 2) := by decide +kernel
theorem d_jdk_52_method_21_3 : decode jdk_52_method_21_code 3 = .ok (.iload 5, 2) := by decide +kernel
theorem d_jdk_52_method_21_5 : decode jdk_52_method_21_code 5 = .ok (.iload 4, 2) := by decide +kernel
theorem d_jdk_52_method_21_7 : decode jdk_52_method_21_code 7 = .ok (.if_icmp .ge 37, 3) := by decide +kernel
theorem d_jdk_52_method_21_10 : decode jdk_52_method_21_code 10 = .ok (.aload_n 0, 1) := by decide +kernel
theorem d_jdk_52_method_21_11 : decode jdk_52_method_21_code 11 = .ok (.iload_n 1, 1) := by decide +kernel
theorem d_jdk_52_method_21_12 : decode jdk_52_method_21_code 12 = .ok (.caload, 1) := by decide +kernel
theorem d_jdk_52_method_21_13 : decode jdk_52_method_21_code 13 = .ok (.istore 6, 2) := by decide +kernel
theorem d_jdk_52_method_21_15 : decode jdk_52_method_21_code 15 = .ok (.iload 6, 2) := by decide +kernel
theorem d_jdk_52_method_21_17 : decode jdk_52_method_21_code 17 = .ok (.sipush 255, 3) := by decide +kernel
theorem d_jdk_52_method_21_20 : decode jdk_52_method_21_code 20 = .ok (.if_icmp .le 6, 3) := by decide +kernel
theorem d_jdk_52_method_21_26 : decode jdk_52_method_21_code 26 = .ok (.aload_n 2, 1) := by decide +kernel
theorem d_jdk_52_method_21_27 : decode jdk_52_method_21_code 27 = .ok (.iload_n 3, 1) := by decide +kernel
theorem d_jdk_52_method_21_28 : decode jdk_52_method_21_code 28 = .ok (.iload 6, 2) := by decide +kernel
theorem d_jdk_52_method_21_30 : decode jdk_52_method_21_code 30 = .ok (.i2b, 1) := by decide +kernel
theorem d_jdk_52_method_21_31 : decode jdk_52_method_21_code 31 = .ok (.bastore, 1) := by decide +kernel
theorem d_jdk_52_method_21_32 : decode jdk_52_method_21_code 32 = .ok (.iinc 1 1, 3) := by decide +kernel
theorem d_jdk_52_method_21_35 : decode jdk_52_method_21_code 35 = .ok (.iinc 3 1, 3) := by decide +kernel
theorem d_jdk_52_method_21_38 : decode jdk_52_method_21_code 38 = .ok (.iinc 5 1, 3) := by decide +kernel
theorem d_jdk_52_method_21_41 : decode jdk_52_method_21_code 41 = .ok (.goto (-38), 3) := by decide +kernel
theorem d_jdk_52_method_21_44 : decode jdk_52_method_21_code 44 = .ok (.iload 4, 2) := by decide +kernel
theorem d_jdk_52_method_21_46 : decode jdk_52_method_21_code 46 = .ok (.ireturn, 1) := by decide +kernel
theorem d_jdk_78_method_2_0 : decode jdk_78_method_2_code 0 = .ok (.aload_n 0, 1) := by decide +kernel
theorem d_jdk_78_method_2_1 : decode jdk_78_method_2_code 1 = .ok (.invokespecial 1, 3) := by decide +kernel
theorem d_jdk_78_method_2_4 : decode jdk_78_method_2_code 4 = .ok (.aload_n 0, 1) := by decide +kernel
theorem d_jdk_78_method_2_5 : decode jdk_78_method_2_code 5 = .ok (.aload_n 0, 1) := by decide +kernel
theorem d_jdk_78_method_2_6 : decode jdk_78_method_2_code 6 = .ok (.putfield 7, 3) := by decide +kernel
theorem d_jdk_78_method_2_9 : decode jdk_78_method_2_code 9 = .ok (.aload_n 0, 1) := by decide +kernel
theorem d_jdk_78_method_2_10 : decode jdk_78_method_2_code 10 = .ok (.getstatic 13, 3) := by decide +kernel
theorem d_jdk_78_method_2_13 : decode jdk_78_method_2_code 13 = .ok (.putfield 17, 3) := by decide +kernel
theorem d_jdk_78_method_2_16 : decode jdk_78_method_2_code 16 = .ok (.aload_n 0, 1) := by decide +kernel
theorem d_jdk_78_method_2_17 : decode jdk_78_method_2_code 17 = .ok (.getstatic 20, 3) := by decide +kernel
theorem d_jdk_78_method_2_20 : decode jdk_78_method_2_code 20 = .ok (.putfield 24, 3) := by decide +kernel
theorem d_jdk_78_method_2_23 : decode jdk_78_method_2_code 23 = .ok (.aload_n 0, 1) := by decide +kernel
theorem d_jdk_78_method_2_24 : decode jdk_78_method_2_code 24 = .ok (.invokevirtual 27, 3) := by decide +kernel
theorem d_jdk_78_method_2_27 : decode jdk_78_method_2_code 27 = .ok (.pop, 1) := by decide +kernel
theorem d_jdk_78_method_2_28 : decode jdk_78_method_2_code 28 = .ok (.aload_n 0, 1) := by decide +kernel
theorem d_jdk_78_method_2_29 : decode jdk_78_method_2_code 29 = .ok (.aload_n 1, 1) := by decide +kernel
theorem d_jdk_78_method_2_30 : decode jdk_78_method_2_code 30 = .ok (.putfield 31, 3) := by decide +kernel
theorem d_jdk_78_method_2_33 : decode jdk_78_method_2_code 33 = .ok (.return_, 1) := by decide +kernel
theorem d_jdk_78_method_6_0 : decode jdk_78_method_6_code 0 = .ok (.aload_n 0, 1) := by decide +kernel
theorem d_jdk_78_method_6_1 : decode jdk_78_method_6_code 1 = .ok (.getfield 31, 3) := by decide +kernel
theorem d_jdk_78_method_6_4 : decode jdk_78_method_6_code 4 = .ok (.areturn, 1) := by decide +kernel
theorem d_jdk_65_method_131_0 : decode jdk_65_method_131_code 0 = .ok (.iload_n 1, 1) := by decide +kernel
theorem d_jdk_65_method_131_1 : decode jdk_65_method_131_code 1 = .ok (.iload_n 0, 1) := by decide +kernel
theorem d_jdk_65_method_131_2 : decode jdk_65_method_131_code 2 = .ok (.if_icmp .ge 35, 3) := by decide +kernel
theorem d_jdk_65_method_131_37 : decode jdk_65_method_131_code 37 = .ok (.return_, 1) := by decide +kernel
theorem d_jdk_65_method_121_0 : decode jdk_65_method_121_code 0 = .ok (.iload_n 1, 1) := by decide +kernel
theorem d_jdk_65_method_121_1 : decode jdk_65_method_121_code 1 = .ok (.aload_n 0, 1) := by decide +kernel
theorem d_jdk_65_method_121_2 : decode jdk_65_method_121_code 2 = .ok (.arraylength, 1) := by decide +kernel
theorem d_jdk_65_method_121_3 : decode jdk_65_method_121_code 3 = .ok (.if_icmp .ne 11, 3) := by decide +kernel
theorem d_jdk_65_method_121_14 : decode jdk_65_method_121_code 14 = .ok (.iload_n 1, 1) := by decide +kernel
theorem d_jdk_65_method_121_15 : decode jdk_65_method_121_code 15 = .ok (.newarray .byte, 2) := by decide +kernel
theorem d_jdk_65_method_121_17 : decode jdk_65_method_121_code 17 = .ok (.astore_n 2, 1) := by decide +kernel
theorem d_jdk_65_method_121_18 : decode jdk_65_method_121_code 18 = .ok (.aload_n 0, 1) := by decide +kernel
theorem d_jdk_65_method_121_19 : decode jdk_65_method_121_code 19 = .ok (.iconst 0, 1) := by decide +kernel
theorem d_jdk_65_method_121_20 : decode jdk_65_method_121_code 20 = .ok (.aload_n 2, 1) := by decide +kernel
theorem d_jdk_65_method_121_21 : decode jdk_65_method_121_code 21 = .ok (.iconst 0, 1) := by decide +kernel
theorem d_jdk_65_method_121_22 : decode jdk_65_method_121_code 22 = .ok (.aload_n 0, 1) := by decide +kernel
theorem d_jdk_65_method_121_23 : decode jdk_65_method_121_code 23 = .ok (.arraylength, 1) := by decide +kernel
theorem d_jdk_65_method_121_24 : decode jdk_65_method_121_code 24 = .ok (.iload_n 1, 1) := by decide +kernel
theorem d_jdk_65_method_121_25 : decode jdk_65_method_121_code 25 = .ok (.invokestatic 304, 3) := by decide +kernel
theorem d_jdk_65_method_121_28 : decode jdk_65_method_121_code 28 = .ok (.invokestatic 150, 3) := by decide +kernel
theorem d_jdk_65_method_121_31 : decode jdk_65_method_121_code 31 = .ok (.aload_n 2, 1) := by decide +kernel
theorem d_jdk_65_method_121_32 : decode jdk_65_method_121_code 32 = .ok (.areturn, 1) := by decide +kernel
theorem d_jdk_65_method_132_0 : decode jdk_65_method_132_code 0 = .ok (.iload_n 1, 1) := by decide +kernel
theorem d_jdk_65_method_132_1 : decode jdk_65_method_132_code 1 = .ok (.ifCond .ne 9, 3) := by decide +kernel
theorem d_jdk_65_method_132_4 : decode jdk_65_method_132_code 4 = .ok (.iload_n 2, 1) := by decide +kernel
theorem d_jdk_65_method_132_5 : decode jdk_65_method_132_code 5 = .ok (.aload_n 0, 1) := by decide +kernel
theorem d_jdk_65_method_132_6 : decode jdk_65_method_132_code 6 = .ok (.arraylength, 1) := by decide +kernel
theorem d_jdk_65_method_132_7 : decode jdk_65_method_132_code 7 = .ok (.if_icmp .eq 10, 3) := by decide +kernel
theorem d_jdk_65_method_132_10 : decode jdk_65_method_132_code 10 = .ok (.aload_n 0, 1) := by decide +kernel
theorem d_jdk_65_method_132_11 : decode jdk_65_method_132_code 11 = .ok (.iload_n 1, 1) := by decide +kernel
theorem d_jdk_65_method_132_12 : decode jdk_65_method_132_code 12 = .ok (.iload_n 2, 1) := by decide +kernel
theorem d_jdk_65_method_132_13 : decode jdk_65_method_132_code 13 = .ok (.invokestatic 339, 3) := by decide +kernel
theorem d_jdk_65_method_132_16 : decode jdk_65_method_132_code 16 = .ok (.areturn, 1) := by decide +kernel
theorem d_jdk_65_method_133_0 : decode jdk_65_method_133_code 0 = .ok (.iload_n 1, 1) := by decide +kernel
theorem d_jdk_65_method_133_1 : decode jdk_65_method_133_code 1 = .ok (.iload_n 2, 1) := by decide +kernel
theorem d_jdk_65_method_133_2 : decode jdk_65_method_133_code 2 = .ok (.invokestatic 343, 3) := by decide +kernel
theorem d_jdk_65_method_133_5 : decode jdk_65_method_133_code 5 = .ok (.iload_n 2, 1) := by decide +kernel
theorem d_jdk_65_method_133_6 : decode jdk_65_method_133_code 6 = .ok (.iload_n 1, 1) := by decide +kernel
theorem d_jdk_65_method_133_7 : decode jdk_65_method_133_code 7 = .ok (.isub, 1) := by decide +kernel
theorem d_jdk_65_method_133_8 : decode jdk_65_method_133_code 8 = .ok (.istore_n 3, 1) := by decide +kernel
theorem d_jdk_65_method_133_9 : decode jdk_65_method_133_code 9 = .ok (.iload_n 3, 1) := by decide +kernel
theorem d_jdk_65_method_133_10 : decode jdk_65_method_133_code 10 = .ok (.newarray .byte, 2) := by decide +kernel
theorem d_jdk_65_method_133_12 : decode jdk_65_method_133_code 12 = .ok (.astore 4, 2) := by decide +kernel
theorem d_jdk_65_method_133_14 : decode jdk_65_method_133_code 14 = .ok (.aload_n 0, 1) := by decide +kernel
theorem d_jdk_65_method_133_15 : decode jdk_65_method_133_code 15 = .ok (.iload_n 1, 1) := by decide +kernel
theorem d_jdk_65_method_133_16 : decode jdk_65_method_133_code 16 = .ok (.aload 4, 2) := by decide +kernel
theorem d_jdk_65_method_133_18 : decode jdk_65_method_133_code 18 = .ok (.iconst 0, 1) := by decide +kernel
theorem d_jdk_65_method_133_19 : decode jdk_65_method_133_code 19 = .ok (.aload_n 0, 1) := by decide +kernel
theorem d_jdk_65_method_133_20 : decode jdk_65_method_133_code 20 = .ok (.arraylength, 1) := by decide +kernel
theorem d_jdk_65_method_133_21 : decode jdk_65_method_133_code 21 = .ok (.iload_n 1, 1) := by decide +kernel
theorem d_jdk_65_method_133_22 : decode jdk_65_method_133_code 22 = .ok (.isub, 1) := by decide +kernel
theorem d_jdk_65_method_133_23 : decode jdk_65_method_133_code 23 = .ok (.iload_n 3, 1) := by decide +kernel
theorem d_jdk_65_method_133_24 : decode jdk_65_method_133_code 24 = .ok (.invokestatic 304, 3) := by decide +kernel
theorem d_jdk_65_method_133_27 : decode jdk_65_method_133_code 27 = .ok (.invokestatic 150, 3) := by decide +kernel
theorem d_jdk_65_method_133_30 : decode jdk_65_method_133_code 30 = .ok (.aload 4, 2) := by decide +kernel
theorem d_jdk_65_method_133_32 : decode jdk_65_method_133_code 32 = .ok (.areturn, 1) := by decide +kernel
theorem d_jdk_48_method_27_0 : decode jdk_48_method_27_code 0 = .ok (.iload_n 0, 1) := by decide +kernel
theorem d_jdk_48_method_27_1 : decode jdk_48_method_27_code 1 = .ok (.iload_n 1, 1) := by decide +kernel
theorem d_jdk_48_method_27_2 : decode jdk_48_method_27_code 2 = .ok (.iload_n 2, 1) := by decide +kernel
theorem d_jdk_48_method_27_3 : decode jdk_48_method_27_code 3 = .ok (.invokestatic 194, 3) := by decide +kernel
theorem d_jdk_48_method_27_6 : decode jdk_48_method_27_code 6 = .ok (.iadd, 1) := by decide +kernel
theorem d_jdk_48_method_27_7 : decode jdk_48_method_27_code 7 = .ok (.istore_n 3, 1) := by decide +kernel
theorem d_jdk_48_method_27_8 : decode jdk_48_method_27_code 8 = .ok (.iconst 0, 1) := by decide +kernel
theorem d_jdk_48_method_27_9 : decode jdk_48_method_27_code 9 = .ok (.iload_n 3, 1) := by decide +kernel
theorem d_jdk_48_method_27_10 : decode jdk_48_method_27_code 10 = .ok (.if_icmp .ge 11, 3) := by decide +kernel
theorem d_jdk_48_method_27_13 : decode jdk_48_method_27_code 13 = .ok (.iload_n 3, 1) := by decide +kernel
theorem d_jdk_48_method_27_14 : decode jdk_48_method_27_code 14 = .ok (.ldc 200, 2) := by decide +kernel
theorem d_jdk_48_method_27_16 : decode jdk_48_method_27_code 16 = .ok (.if_icmp .gt 5, 3) := by decide +kernel
theorem d_jdk_48_method_27_19 : decode jdk_48_method_27_code 19 = .ok (.iload_n 3, 1) := by decide +kernel
theorem d_jdk_48_method_27_20 : decode jdk_48_method_27_code 20 = .ok (.ireturn, 1) := by decide +kernel
theorem d_jdk_41_method_11_0 : decode jdk_41_method_11_code 0 = .ok (.iload_n 0, 1) := by decide +kernel
theorem d_jdk_41_method_11_1 : decode jdk_41_method_11_code 1 = .ok (.ifCond .lt 8, 3) := by decide +kernel
theorem d_jdk_41_method_11_4 : decode jdk_41_method_11_code 4 = .ok (.iload_n 0, 1) := by decide +kernel
theorem d_jdk_41_method_11_5 : decode jdk_41_method_11_code 5 = .ok (.iload_n 1, 1) := by decide +kernel
theorem d_jdk_41_method_11_6 : decode jdk_41_method_11_code 6 = .ok (.if_icmp .lt 10, 3) := by decide +kernel
theorem d_jdk_41_method_11_16 : decode jdk_41_method_11_code 16 = .ok (.iload_n 0, 1) := by decide +kernel
theorem d_jdk_41_method_11_17 : decode jdk_41_method_11_code 17 = .ok (.ireturn, 1) := by decide +kernel
theorem w_0 {Z : State} {a0 : Array Value} (hw : ∀ d ∈ tables_1, d.before a0 Z = true) : (Jvm.Cond.constant "com/example/slackline/slackline/TooLargeExceptionForMethodPinLaw" (7 : Nat) (2147483647 : Int32)).before a0 Z = true := hw _ (List.mem_of_getElem? (i := 0) rfl)
theorem w_1 {Z : State} {a0 : Array Value} (hw : ∀ d ∈ tables_1, d.before a0 Z = true) : (Jvm.Cond.methodLink "com/example/slackline/slackline/TooLargeExceptionForMethodPinLaw" (8 : Nat) ({ cls := "com/example/slackline/slackline/TooLargeExceptionForMethodPinLaw", name := "mk", desc := "(ICC)Ljava/lang/String;" } : Jvm.MethodName)).before a0 Z = true := hw _ (List.mem_of_getElem? (i := 1) rfl)
theorem w_2 {Z : State} {a0 : Array Value} (hw : ∀ d ∈ tables_1, d.before a0 Z = true) : (Jvm.Cond.static ({ cls := "com/example/slackline/slackline/TooLargeExceptionForMethodPinLaw", name := "mk", desc := "(ICC)Ljava/lang/String;" } : Jvm.MethodName)).before a0 Z = true := hw _ (List.mem_of_getElem? (i := 2) rfl)
theorem w_3 {Z : State} {a0 : Array Value} (hw : ∀ d ∈ tables_1, d.before a0 Z = true) : (Jvm.Cond.initialized "com/example/slackline/slackline/TooLargeExceptionForMethodPinLaw").before a0 Z = true := hw _ (List.mem_of_getElem? (i := 3) rfl)
theorem w_4 {Z : State} {a0 : Array Value} (hw : ∀ d ∈ tables_1, d.before a0 Z = true) : (Jvm.Cond.code ({ cls := "com/example/slackline/slackline/TooLargeExceptionForMethodPinLaw", name := "mk", desc := "(ICC)Ljava/lang/String;" } : Jvm.MethodName) method_3_code (3 : Nat) (Option.some (Jvm.ClassFile.FieldType.object "java/lang/String"))).before a0 Z = true := hw _ (List.mem_of_getElem? (i := 4) rfl)
theorem w_5 {Z : State} {a0 : Array Value} (hw : ∀ d ∈ tables_1, d.before a0 Z = true) : (Jvm.Cond.classLink "com/example/slackline/slackline/TooLargeExceptionForMethodPinLaw" (25 : Nat) "java/lang/String").before a0 Z = true := hw _ (List.mem_of_getElem? (i := 5) rfl)
theorem w_6 {Z : State} {a0 : Array Value} (hw : ∀ d ∈ tables_1, d.before a0 Z = true) : (Jvm.Cond.instantiable "java/lang/String" (4 : Nat)).before a0 Z = true := hw _ (List.mem_of_getElem? (i := 6) rfl)
theorem w_7 {Z : State} {a0 : Array Value} (hw : ∀ d ∈ tables_1, d.before a0 Z = true) : (Jvm.Cond.initialized "java/lang/String").before a0 Z = true := hw _ (List.mem_of_getElem? (i := 7) rfl)
theorem w_8 {Z : State} {a0 : Array Value} (hw : ∀ d ∈ tables_1, d.before a0 Z = true) : (Jvm.Cond.arrayClass Jvm.ClassFile.FieldType.char).before a0 Z = true := hw _ (List.mem_of_getElem? (i := 8) rfl)
theorem w_9 {Z : State} {a0 : Array Value} (hw : ∀ d ∈ tables_1, d.before a0 Z = true) : (Jvm.Cond.methodLink "com/example/slackline/slackline/TooLargeExceptionForMethodPinLaw" (38 : Nat) ({ cls := "java/lang/String", name := "<init>", desc := "([C)V" } : Jvm.MethodName)).before a0 Z = true := hw _ (List.mem_of_getElem? (i := 9) rfl)
theorem w_10 {Z : State} {a0 : Array Value} (hw : ∀ d ∈ tables_1, d.before a0 Z = true) : (Jvm.Cond.instanceMethod ({ cls := "java/lang/String", name := "<init>", desc := "([C)V" } : Jvm.MethodName)).before a0 Z = true := hw _ (List.mem_of_getElem? (i := 10) rfl)
theorem w_11 {Z : State} {a0 : Array Value} (hw : ∀ d ∈ tables_1, d.before a0 Z = true) : (Jvm.Cond.code ({ cls := "java/lang/String", name := "<init>", desc := "([C)V" } : Jvm.MethodName) jdk_42_method_3_code (2 : Nat) (Option.none : Option Jvm.ClassFile.FieldType)).before a0 Z = true := hw _ (List.mem_of_getElem? (i := 11) rfl)
theorem w_12 {Z : State} {a0 : Array Value} (hw : ∀ d ∈ tables_1, d.before a0 Z = true) : (Jvm.Cond.methodLink "java/lang/String" (27 : Nat) ({ cls := "java/lang/String", name := "<init>", desc := "([CIILjava/lang/Void;)V" } : Jvm.MethodName)).before a0 Z = true := hw _ (List.mem_of_getElem? (i := 12) rfl)
theorem w_13 {Z : State} {a0 : Array Value} (hw : ∀ d ∈ tables_1, d.before a0 Z = true) : (Jvm.Cond.instanceMethod ({ cls := "java/lang/String", name := "<init>", desc := "([CIILjava/lang/Void;)V" } : Jvm.MethodName)).before a0 Z = true := hw _ (List.mem_of_getElem? (i := 13) rfl)
theorem w_15 {Z : State} {a0 : Array Value} (hw : ∀ d ∈ tables_1, d.before a0 Z = true) : (Jvm.Cond.code ({ cls := "java/lang/String", name := "<init>", desc := "([CIILjava/lang/Void;)V" } : Jvm.MethodName) jdk_42_method_149_code (6 : Nat) (Option.none : Option Jvm.ClassFile.FieldType)).before a0 Z = true := hw _ (List.mem_of_getElem? (i := 15) rfl)
theorem w_16 {Z : State} {a0 : Array Value} (hw : ∀ d ∈ tables_1, d.before a0 Z = true) : (Jvm.Cond.methodLink "java/lang/String" (1 : Nat) ({ cls := "java/lang/Object", name := "<init>", desc := "()V" } : Jvm.MethodName)).before a0 Z = true := hw _ (List.mem_of_getElem? (i := 16) rfl)
theorem w_17 {Z : State} {a0 : Array Value} (hw : ∀ d ∈ tables_1, d.before a0 Z = true) : (Jvm.Cond.instanceMethod ({ cls := "java/lang/Object", name := "<init>", desc := "()V" } : Jvm.MethodName)).before a0 Z = true := hw _ (List.mem_of_getElem? (i := 17) rfl)
theorem w_18 {Z : State} {a0 : Array Value} (hw : ∀ d ∈ tables_1, d.before a0 Z = true) : (Jvm.Cond.code ({ cls := "java/lang/Object", name := "<init>", desc := "()V" } : Jvm.MethodName) object_method_1_code (1 : Nat) (Option.none : Option Jvm.ClassFile.FieldType)).before a0 Z = true := hw _ (List.mem_of_getElem? (i := 18) rfl)
theorem w_19 {Z : State} {a0 : Array Value} (hw : ∀ d ∈ tables_1, d.before a0 Z = true) : (Jvm.Cond.stringLink "java/lang/String" (7 : Nat) "").before a0 Z = true := hw _ (List.mem_of_getElem? (i := 19) rfl)
theorem w_20 {Z : State} {a0 : Array Value} (hw : ∀ d ∈ tables_1, d.before a0 Z = true) : (Jvm.Cond.arrayClass Jvm.ClassFile.FieldType.byte).before a0 Z = true := hw _ (List.mem_of_getElem? (i := 20) rfl)
theorem w_21 {Z : State} {a0 : Array Value} (hw : ∀ d ∈ tables_1, d.before a0 Z = true) : (Jvm.Cond.laysFinal "java/lang/String" "java/lang/String" "value" "[B").before a0 Z = true := hw _ (List.mem_of_getElem? (i := 21) rfl)
theorem w_22 {Z : State} {a0 : Array Value} (hw : ∀ d ∈ tables_1, d.before a0 Z = true) : (Jvm.Cond.laysFinal "java/lang/String" "java/lang/String" "coder" "B").before a0 Z = true := hw _ (List.mem_of_getElem? (i := 22) rfl)
theorem w_23 {Z : State} {a0 : Array Value} (hw : ∀ d ∈ tables_1, d.before a0 Z = true) : (Jvm.Cond.soleField "java/lang/String" "value").before a0 Z = true := hw _ (List.mem_of_getElem? (i := 23) rfl)
theorem w_24 {Z : State} {a0 : Array Value} (hw : ∀ d ∈ tables_1, d.before a0 Z = true) : (Jvm.Cond.soleField "java/lang/String" "coder").before a0 Z = true := hw _ (List.mem_of_getElem? (i := 24) rfl)
theorem w_25 {Z : State} {a0 : Array Value} (hw : ∀ d ∈ tables_1, d.before a0 Z = true) : (Jvm.Cond.fieldLink "java/lang/String" (9 : Nat) "java/lang/String" "value" "[B").before a0 Z = true := hw _ (List.mem_of_getElem? (i := 25) rfl)
theorem w_26 {Z : State} {a0 : Array Value} (hw : ∀ d ∈ tables_1, d.before a0 Z = true) : (Jvm.Cond.fieldLink "java/lang/String" (15 : Nat) "java/lang/String" "coder" "B").before a0 Z = true := hw _ (List.mem_of_getElem? (i := 26) rfl)
theorem w_27 {Z : State} {a0 : Array Value} (hw : ∀ d ∈ tables_1, d.before a0 Z = true) : (Jvm.Cond.methodLink "com/example/slackline/slackline/TooLargeExceptionForMethodPinLaw" (14 : Nat) ({ cls := "com/example/slackline/slackline/TooLargeException", name := "forMethod", desc := "(Ljava/lang/String;Ljava/lang/String;)Lcom/example/slackline/slackline/TooLargeException;" } : Jvm.MethodName)).before a0 Z = true := hw _ (List.mem_of_getElem? (i := 27) rfl)
theorem w_28 {Z : State} {a0 : Array Value} (hw : ∀ d ∈ tables_1, d.before a0 Z = true) : (Jvm.Cond.static ({ cls := "com/example/slackline/slackline/TooLargeException", name := "forMethod", desc := "(Ljava/lang/String;Ljava/lang/String;)Lcom/example/slackline/slackline/TooLargeException;" } : Jvm.MethodName)).before a0 Z = true := hw _ (List.mem_of_getElem? (i := 28) rfl)
theorem w_29 {Z : State} {a0 : Array Value} (hw : ∀ d ∈ tables_1, d.before a0 Z = true) : (Jvm.Cond.initialized "com/example/slackline/slackline/TooLargeException").before a0 Z = true := hw _ (List.mem_of_getElem? (i := 29) rfl)
theorem w_30 {Z : State} {a0 : Array Value} (hw : ∀ d ∈ tables_1, d.before a0 Z = true) : (Jvm.Cond.code ({ cls := "com/example/slackline/slackline/TooLargeException", name := "forMethod", desc := "(Ljava/lang/String;Ljava/lang/String;)Lcom/example/slackline/slackline/TooLargeException;" } : Jvm.MethodName) prog_52_method_2_code (2 : Nat) (Option.some (Jvm.ClassFile.FieldType.object "com/example/slackline/slackline/TooLargeException"))).before a0 Z = true := hw _ (List.mem_of_getElem? (i := 30) rfl)
theorem w_31 {Z : State} {a0 : Array Value} (hw : ∀ d ∈ tables_1, d.before a0 Z = true) : (Jvm.Cond.classLink "com/example/slackline/slackline/TooLargeException" (7 : Nat) "com/example/slackline/slackline/TooLargeException").before a0 Z = true := hw _ (List.mem_of_getElem? (i := 31) rfl)
theorem w_32 {Z : State} {a0 : Array Value} (hw : ∀ d ∈ tables_1, d.before a0 Z = true) : (Jvm.Cond.instantiable "com/example/slackline/slackline/TooLargeException" (6 : Nat)).before a0 Z = true := hw _ (List.mem_of_getElem? (i := 32) rfl)
theorem w_33 {Z : State} {a0 : Array Value} (hw : ∀ d ∈ tables_1, d.before a0 Z = true) : (Jvm.Cond.classLink "com/example/slackline/slackline/TooLargeException" (9 : Nat) "java/lang/StringBuilder").before a0 Z = true := hw _ (List.mem_of_getElem? (i := 33) rfl)
theorem w_34 {Z : State} {a0 : Array Value} (hw : ∀ d ∈ tables_1, d.before a0 Z = true) : (Jvm.Cond.instantiable "java/lang/StringBuilder" (4 : Nat)).before a0 Z = true := hw _ (List.mem_of_getElem? (i := 34) rfl)
theorem w_35 {Z : State} {a0 : Array Value} (hw : ∀ d ∈ tables_1, d.before a0 Z = true) : (Jvm.Cond.initialized "java/lang/StringBuilder").before a0 Z = true := hw _ (List.mem_of_getElem? (i := 35) rfl)
theorem w_36 {Z : State} {a0 : Array Value} (hw : ∀ d ∈ tables_1, d.before a0 Z = true) : (Jvm.Cond.methodLink "com/example/slackline/slackline/TooLargeException" (11 : Nat) ({ cls := "java/lang/StringBuilder", name := "<init>", desc := "()V" } : Jvm.MethodName)).before a0 Z = true := hw _ (List.mem_of_getElem? (i := 36) rfl)
theorem w_37 {Z : State} {a0 : Array Value} (hw : ∀ d ∈ tables_1, d.before a0 Z = true) : (Jvm.Cond.instanceMethod ({ cls := "java/lang/StringBuilder", name := "<init>", desc := "()V" } : Jvm.MethodName)).before a0 Z = true := hw _ (List.mem_of_getElem? (i := 37) rfl)
theorem w_38 {Z : State} {a0 : Array Value} (hw : ∀ d ∈ tables_1, d.before a0 Z = true) : (Jvm.Cond.code ({ cls := "java/lang/StringBuilder", name := "<init>", desc := "()V" } : Jvm.MethodName) jdk_67_method_1_code (1 : Nat) (Option.none : Option Jvm.ClassFile.FieldType)).before a0 Z = true := hw _ (List.mem_of_getElem? (i := 38) rfl)
theorem w_39 {Z : State} {a0 : Array Value} (hw : ∀ d ∈ tables_1, d.before a0 Z = true) : (Jvm.Cond.methodLink "java/lang/StringBuilder" (1 : Nat) ({ cls := "java/lang/AbstractStringBuilder", name := "<init>", desc := "(I)V" } : Jvm.MethodName)).before a0 Z = true := hw _ (List.mem_of_getElem? (i := 39) rfl)
theorem w_40 {Z : State} {a0 : Array Value} (hw : ∀ d ∈ tables_1, d.before a0 Z = true) : (Jvm.Cond.instanceMethod ({ cls := "java/lang/AbstractStringBuilder", name := "<init>", desc := "(I)V" } : Jvm.MethodName)).before a0 Z = true := hw _ (List.mem_of_getElem? (i := 40) rfl)
theorem w_43 {Z : State} {a0 : Array Value} (hw : ∀ d ∈ tables_1, d.before a0 Z = true) : (Jvm.Cond.initialized "java/lang/AbstractStringBuilder").before a0 Z = true := hw _ (List.mem_of_getElem? (i := 43) rfl)
theorem w_44 {Z : State} {a0 : Array Value} (hw : ∀ d ∈ tables_1, d.before a0 Z = true) : (Jvm.Cond.code ({ cls := "java/lang/AbstractStringBuilder", name := "<init>", desc := "(I)V" } : Jvm.MethodName) jdk_68_method_2_code (2 : Nat) (Option.none : Option Jvm.ClassFile.FieldType)).before a0 Z = true := hw _ (List.mem_of_getElem? (i := 44) rfl)
theorem w_45 {Z : State} {a0 : Array Value} (hw : ∀ d ∈ tables_1, d.before a0 Z = true) : (Jvm.Cond.methodLink "java/lang/AbstractStringBuilder" (3 : Nat) ({ cls := "java/lang/Object", name := "<init>", desc := "()V" } : Jvm.MethodName)).before a0 Z = true := hw _ (List.mem_of_getElem? (i := 45) rfl)
theorem w_46 {Z : State} {a0 : Array Value} (hw : ∀ d ∈ tables_1, d.before a0 Z = true) : (Jvm.Cond.fieldLink "java/lang/AbstractStringBuilder" (18 : Nat) "java/lang/String" "COMPACT_STRINGS" "Z").before a0 Z = true := hw _ (List.mem_of_getElem? (i := 46) rfl)
theorem w_47 {Z : State} {a0 : Array Value} (hw : ∀ d ∈ tables_1, d.before a0 Z = true) : (Jvm.Cond.fieldLink "java/lang/AbstractStringBuilder" (15 : Nat) "java/lang/AbstractStringBuilder" "value" "[B").before a0 Z = true := hw _ (List.mem_of_getElem? (i := 47) rfl)
theorem w_48 {Z : State} {a0 : Array Value} (hw : ∀ d ∈ tables_1, d.before a0 Z = true) : (Jvm.Cond.lays "java/lang/StringBuilder" "java/lang/AbstractStringBuilder" "value" "[B").before a0 Z = true := hw _ (List.mem_of_getElem? (i := 48) rfl)
theorem w_49 {Z : State} {a0 : Array Value} (hw : ∀ d ∈ tables_1, d.before a0 Z = true) : (Jvm.Cond.fieldLink "java/lang/AbstractStringBuilder" (22 : Nat) "java/lang/AbstractStringBuilder" "coder" "B").before a0 Z = true := hw _ (List.mem_of_getElem? (i := 49) rfl)
theorem w_50 {Z : State} {a0 : Array Value} (hw : ∀ d ∈ tables_1, d.before a0 Z = true) : (Jvm.Cond.lays "java/lang/StringBuilder" "java/lang/AbstractStringBuilder" "coder" "B").before a0 Z = true := hw _ (List.mem_of_getElem? (i := 50) rfl)
theorem w_51 {Z : State} {a0 : Array Value} (hw : ∀ d ∈ tables_1, d.before a0 Z = true) : (Jvm.Cond.stringLink "com/example/slackline/slackline/TooLargeException" (14 : Nat) "network too large for ").before a0 Z = true := hw _ (List.mem_of_getElem? (i := 51) rfl)
theorem w_52 {Z : State} {a0 : Array Value} (hw : ∀ d ∈ tables_1, d.before a0 Z = true) : (Jvm.Cond.methodLink "com/example/slackline/slackline/TooLargeException" (16 : Nat) ({ cls := "java/lang/StringBuilder", name := "append", desc := "(Ljava/lang/String;)Ljava/lang/StringBuilder;" } : Jvm.MethodName)).before a0 Z = true := hw _ (List.mem_of_getElem? (i := 52) rfl)
theorem w_53 {Z : State} {a0 : Array Value} (hw : ∀ d ∈ tables_1, d.before a0 Z = true) : (Jvm.Cond.declares ({ cls := "java/lang/StringBuilder", name := "append", desc := "(Ljava/lang/String;)Ljava/lang/StringBuilder;" } : Jvm.MethodName)).before a0 Z = true := hw _ (List.mem_of_getElem? (i := 53) rfl)
theorem w_54 {Z : State} {a0 : Array Value} (hw : ∀ d ∈ tables_1, d.before a0 Z = true) : (Jvm.Cond.instanceMethod ({ cls := "java/lang/StringBuilder", name := "append", desc := "(Ljava/lang/String;)Ljava/lang/StringBuilder;" } : Jvm.MethodName)).before a0 Z = true := hw _ (List.mem_of_getElem? (i := 54) rfl)
theorem w_55 {Z : State} {a0 : Array Value} (hw : ∀ d ∈ tables_1, d.before a0 Z = true) : (Jvm.Cond.selects "java/lang/StringBuilder" ({ cls := "java/lang/StringBuilder", name := "append", desc := "(Ljava/lang/String;)Ljava/lang/StringBuilder;" } : Jvm.MethodName) ({ cls := "java/lang/StringBuilder", name := "append", desc := "(Ljava/lang/String;)Ljava/lang/StringBuilder;" } : Jvm.MethodName)).before a0 Z = true := hw _ (List.mem_of_getElem? (i := 55) rfl)
theorem w_56 {Z : State} {a0 : Array Value} (hw : ∀ d ∈ tables_1, d.before a0 Z = true) : (Jvm.Cond.code ({ cls := "java/lang/StringBuilder", name := "append", desc := "(Ljava/lang/String;)Ljava/lang/StringBuilder;" } : Jvm.MethodName) jdk_67_method_7_code (2 : Nat) (Option.some (Jvm.ClassFile.FieldType.object "java/lang/StringBuilder"))).before a0 Z = true := hw _ (List.mem_of_getElem? (i := 56) rfl)
theorem w_57 {Z : State} {a0 : Array Value} (hw : ∀ d ∈ tables_1, d.before a0 Z = true) : (Jvm.Cond.methodLink "java/lang/StringBuilder" (29 : Nat) ({ cls := "java/lang/AbstractStringBuilder", name := "append", desc := "(Ljava/lang/String;)Ljava/lang/AbstractStringBuilder;" } : Jvm.MethodName)).before a0 Z = true := hw _ (List.mem_of_getElem? (i := 57) rfl)
theorem w_58 {Z : State} {a0 : Array Value} (hw : ∀ d ∈ tables_1, d.before a0 Z = true) : (Jvm.Cond.instanceMethod ({ cls := "java/lang/AbstractStringBuilder", name := "append", desc := "(Ljava/lang/String;)Ljava/lang/AbstractStringBuilder;" } : Jvm.MethodName)).before a0 Z = true := hw _ (List.mem_of_getElem? (i := 58) rfl)
theorem w_59 {Z : State} {a0 : Array Value} (hw : ∀ d ∈ tables_1, d.before a0 Z = true) : (Jvm.Cond.superclass "java/lang/StringBuilder" "java/lang/AbstractStringBuilder").before a0 Z = true := hw _ (List.mem_of_getElem? (i := 59) rfl)
theorem w_61 {Z : State} {a0 : Array Value} (hw : ∀ d ∈ tables_1, d.before a0 Z = true) : (Jvm.Cond.code ({ cls := "java/lang/AbstractStringBuilder", name := "append", desc := "(Ljava/lang/String;)Ljava/lang/AbstractStringBuilder;" } : Jvm.MethodName) jdk_68_method_22_code (3 : Nat) (Option.some (Jvm.ClassFile.FieldType.object "java/lang/AbstractStringBuilder"))).before a0 Z = true := hw _ (List.mem_of_getElem? (i := 61) rfl)
theorem w_62 {Z : State} {a0 : Array Value} (hw : ∀ d ∈ tables_1, d.before a0 Z = true) : (Jvm.Cond.methodLink "java/lang/AbstractStringBuilder" (32 : Nat) ({ cls := "java/lang/String", name := "length", desc := "()I" } : Jvm.MethodName)).before a0 Z = true := hw _ (List.mem_of_getElem? (i := 62) rfl)
theorem w_63 {Z : State} {a0 : Array Value} (hw : ∀ d ∈ tables_1, d.before a0 Z = true) : (Jvm.Cond.declares ({ cls := "java/lang/String", name := "length", desc := "()I" } : Jvm.MethodName)).before a0 Z = true := hw _ (List.mem_of_getElem? (i := 63) rfl)
theorem w_64 {Z : State} {a0 : Array Value} (hw : ∀ d ∈ tables_1, d.before a0 Z = true) : (Jvm.Cond.instanceMethod ({ cls := "java/lang/String", name := "length", desc := "()I" } : Jvm.MethodName)).before a0 Z = true := hw _ (List.mem_of_getElem? (i := 64) rfl)
theorem w_65 {Z : State} {a0 : Array Value} (hw : ∀ d ∈ tables_1, d.before a0 Z = true) : (Jvm.Cond.selects "java/lang/String" ({ cls := "java/lang/String", name := "length", desc := "()I" } : Jvm.MethodName) ({ cls := "java/lang/String", name := "length", desc := "()I" } : Jvm.MethodName)).before a0 Z = true := hw _ (List.mem_of_getElem? (i := 65) rfl)
theorem w_66 {Z : State} {a0 : Array Value} (hw : ∀ d ∈ tables_1, d.before a0 Z = true) : (Jvm.Cond.code ({ cls := "java/lang/String", name := "length", desc := "()I" } : Jvm.MethodName) jdk_42_method_54_code (1 : Nat) (Option.some Jvm.ClassFile.FieldType.int)).before a0 Z = true := hw _ (List.mem_of_getElem? (i := 66) rfl)
theorem w_67 {Z : State} {a0 : Array Value} (hw : ∀ d ∈ tables_1, d.before a0 Z = true) : (Jvm.Cond.methodLink "java/lang/String" (335 : Nat) ({ cls := "java/lang/String", name := "coder", desc := "()B" } : Jvm.MethodName)).before a0 Z = true := hw _ (List.mem_of_getElem? (i := 67) rfl)
theorem w_68 {Z : State} {a0 : Array Value} (hw : ∀ d ∈ tables_1, d.before a0 Z = true) : (Jvm.Cond.declares ({ cls := "java/lang/String", name := "coder", desc := "()B" } : Jvm.MethodName)).before a0 Z = true := hw _ (List.mem_of_getElem? (i := 68) rfl)
theorem w_69 {Z : State} {a0 : Array Value} (hw : ∀ d ∈ tables_1, d.before a0 Z = true) : (Jvm.Cond.instanceMethod ({ cls := "java/lang/String", name := "coder", desc := "()B" } : Jvm.MethodName)).before a0 Z = true := hw _ (List.mem_of_getElem? (i := 69) rfl)
theorem w_70 {Z : State} {a0 : Array Value} (hw : ∀ d ∈ tables_1, d.before a0 Z = true) : (Jvm.Cond.selects "java/lang/String" ({ cls := "java/lang/String", name := "coder", desc := "()B" } : Jvm.MethodName) ({ cls := "java/lang/String", name := "coder", desc := "()B" } : Jvm.MethodName)).before a0 Z = true := hw _ (List.mem_of_getElem? (i := 70) rfl)
theorem w_71 {Z : State} {a0 : Array Value} (hw : ∀ d ∈ tables_1, d.before a0 Z = true) : (Jvm.Cond.code ({ cls := "java/lang/String", name := "coder", desc := "()B" } : Jvm.MethodName) jdk_42_method_152_code (1 : Nat) (Option.some Jvm.ClassFile.FieldType.byte)).before a0 Z = true := hw _ (List.mem_of_getElem? (i := 71) rfl)
theorem w_72 {Z : State} {a0 : Array Value} (hw : ∀ d ∈ tables_1, d.before a0 Z = true) : (Jvm.Cond.fieldLink "java/lang/String" (38 : Nat) "java/lang/String" "COMPACT_STRINGS" "Z").before a0 Z = true := hw _ (List.mem_of_getElem? (i := 72) rfl)
theorem w_73 {Z : State} {a0 : Array Value} (hw : ∀ d ∈ tables_1, d.before a0 Z = true) : (Jvm.Cond.fieldLink "java/lang/AbstractStringBuilder" (79 : Nat) "java/lang/AbstractStringBuilder" "count" "I").before a0 Z = true := hw _ (List.mem_of_getElem? (i := 73) rfl)
theorem w_74 {Z : State} {a0 : Array Value} (hw : ∀ d ∈ tables_1, d.before a0 Z = true) : (Jvm.Cond.lays "java/lang/StringBuilder" "java/lang/AbstractStringBuilder" "count" "I").before a0 Z = true := hw _ (List.mem_of_getElem? (i := 74) rfl)
theorem w_75 {Z : State} {a0 : Array Value} (hw : ∀ d ∈ tables_1, d.before a0 Z = true) : (Jvm.Cond.methodLink "java/lang/AbstractStringBuilder" (100 : Nat) ({ cls := "java/lang/AbstractStringBuilder", name := "ensureCapacityInternal", desc := "(I)V" } : Jvm.MethodName)).before a0 Z = true := hw _ (List.mem_of_getElem? (i := 75) rfl)
theorem w_76 {Z : State} {a0 : Array Value} (hw : ∀ d ∈ tables_1, d.before a0 Z = true) : (Jvm.Cond.instanceMethod ({ cls := "java/lang/AbstractStringBuilder", name := "ensureCapacityInternal", desc := "(I)V" } : Jvm.MethodName)).before a0 Z = true := hw _ (List.mem_of_getElem? (i := 76) rfl)
theorem w_77 {Z : State} {a0 : Array Value} (hw : ∀ d ∈ tables_1, d.before a0 Z = true) : (Jvm.Cond.privateMethod ({ cls := "java/lang/AbstractStringBuilder", name := "ensureCapacityInternal", desc := "(I)V" } : Jvm.MethodName)).before a0 Z = true := hw _ (List.mem_of_getElem? (i := 77) rfl)
theorem w_78 {Z : State} {a0 : Array Value} (hw : ∀ d ∈ tables_1, d.before a0 Z = true) : (Jvm.Cond.selects "java/lang/StringBuilder" ({ cls := "java/lang/AbstractStringBuilder", name := "ensureCapacityInternal", desc := "(I)V" } : Jvm.MethodName) ({ cls := "java/lang/AbstractStringBuilder", name := "ensureCapacityInternal", desc := "(I)V" } : Jvm.MethodName)).before a0 Z = true := hw _ (List.mem_of_getElem? (i := 78) rfl)
theorem w_79 {Z : State} {a0 : Array Value} (hw : ∀ d ∈ tables_1, d.before a0 Z = true) : (Jvm.Cond.code ({ cls := "java/lang/AbstractStringBuilder", name := "ensureCapacityInternal", desc := "(I)V" } : Jvm.MethodName) jdk_68_method_9_code (3 : Nat) (Option.none : Option Jvm.ClassFile.FieldType)).before a0 Z = true := hw _ (List.mem_of_getElem? (i := 79) rfl)
theorem w_80 {Z : State} {a0 : Array Value} (hw : ∀ d ∈ tables_1, d.before a0 Z = true) : (Jvm.Cond.methodLink "java/lang/AbstractStringBuilder" (104 : Nat) ({ cls := "java/lang/AbstractStringBuilder", name := "newCapacity", desc := "(I)I" } : Jvm.MethodName)).before a0 Z = true := hw _ (List.mem_of_getElem? (i := 80) rfl)
theorem w_81 {Z : State} {a0 : Array Value} (hw : ∀ d ∈ tables_1, d.before a0 Z = true) : (Jvm.Cond.instanceMethod ({ cls := "java/lang/AbstractStringBuilder", name := "newCapacity", desc := "(I)I" } : Jvm.MethodName)).before a0 Z = true := hw _ (List.mem_of_getElem? (i := 81) rfl)
theorem w_82 {Z : State} {a0 : Array Value} (hw : ∀ d ∈ tables_1, d.before a0 Z = true) : (Jvm.Cond.privateMethod ({ cls := "java/lang/AbstractStringBuilder", name := "newCapacity", desc := "(I)I" } : Jvm.MethodName)).before a0 Z = true := hw _ (List.mem_of_getElem? (i := 82) rfl)
theorem w_84 {Z : State} {a0 : Array Value} (hw : ∀ d ∈ tables_1, d.before a0 Z = true) : (Jvm.Cond.code ({ cls := "java/lang/AbstractStringBuilder", name := "newCapacity", desc := "(I)I" } : Jvm.MethodName) jdk_68_method_10_code (6 : Nat) (Option.some Jvm.ClassFile.FieldType.int)).before a0 Z = true := hw _ (List.mem_of_getElem? (i := 84) rfl)
theorem w_85 {Z : State} {a0 : Array Value} (hw : ∀ d ∈ tables_1, d.before a0 Z = true) : (Jvm.Cond.methodLink "java/lang/AbstractStringBuilder" (114 : Nat) ({ cls := "jdk/internal/util/ArraysSupport", name := "newLength", desc := "(III)I" } : Jvm.MethodName)).before a0 Z = true := hw _ (List.mem_of_getElem? (i := 85) rfl)
theorem w_86 {Z : State} {a0 : Array Value} (hw : ∀ d ∈ tables_1, d.before a0 Z = true) : (Jvm.Cond.static ({ cls := "jdk/internal/util/ArraysSupport", name := "newLength", desc := "(III)I" } : Jvm.MethodName)).before a0 Z = true := hw _ (List.mem_of_getElem? (i := 86) rfl)
theorem w_87 {Z : State} {a0 : Array Value} (hw : ∀ d ∈ tables_1, d.before a0 Z = true) : (Jvm.Cond.initialized "jdk/internal/util/ArraysSupport").before a0 Z = true := hw _ (List.mem_of_getElem? (i := 87) rfl)
theorem w_88 {Z : State} {a0 : Array Value} (hw : ∀ d ∈ tables_1, d.before a0 Z = true) : (Jvm.Cond.code ({ cls := "jdk/internal/util/ArraysSupport", name := "newLength", desc := "(III)I" } : Jvm.MethodName) jdk_48_method_27_code (4 : Nat) (Option.some Jvm.ClassFile.FieldType.int)).before a0 Z = true := hw _ (List.mem_of_getElem? (i := 88) rfl)
theorem w_89 {Z : State} {a0 : Array Value} (hw : ∀ d ∈ tables_1, d.before a0 Z = true) : (Jvm.Cond.methodLink "jdk/internal/util/ArraysSupport" (194 : Nat) ({ cls := "java/lang/Math", name := "max", desc := "(II)I" } : Jvm.MethodName)).before a0 Z = true := hw _ (List.mem_of_getElem? (i := 89) rfl)
theorem w_90 {Z : State} {a0 : Array Value} (hw : ∀ d ∈ tables_1, d.before a0 Z = true) : (Jvm.Cond.static ({ cls := "java/lang/Math", name := "max", desc := "(II)I" } : Jvm.MethodName)).before a0 Z = true := hw _ (List.mem_of_getElem? (i := 90) rfl)
theorem w_91 {Z : State} {a0 : Array Value} (hw : ∀ d ∈ tables_1, d.before a0 Z = true) : (Jvm.Cond.initialized "java/lang/Math").before a0 Z = true := hw _ (List.mem_of_getElem? (i := 91) rfl)
theorem w_92 {Z : State} {a0 : Array Value} (hw : ∀ d ∈ tables_1, d.before a0 Z = true) : (Jvm.Cond.code ({ cls := "java/lang/Math", name := "max", desc := "(II)I" } : Jvm.MethodName) jdk_29_method_65_code (2 : Nat) (Option.some Jvm.ClassFile.FieldType.int)).before a0 Z = true := hw _ (List.mem_of_getElem? (i := 92) rfl)
theorem w_93 {Z : State} {a0 : Array Value} (hw : ∀ d ∈ tables_1, d.before a0 Z = true) : (Jvm.Cond.constant "jdk/internal/util/ArraysSupport" (200 : Nat) (2147483639 : Int32)).before a0 Z = true := hw _ (List.mem_of_getElem? (i := 93) rfl)
theorem w_94 {Z : State} {a0 : Array Value} (hw : ∀ d ∈ tables_1, d.before a0 Z = true) : (Jvm.Cond.constant "java/lang/AbstractStringBuilder" (39 : Nat) (2147483647 : Int32)).before a0 Z = true := hw _ (List.mem_of_getElem? (i := 94) rfl)
theorem w_95 {Z : State} {a0 : Array Value} (hw : ∀ d ∈ tables_1, d.before a0 Z = true) : (Jvm.Cond.methodLink "java/lang/AbstractStringBuilder" (108 : Nat) ({ cls := "java/util/Arrays", name := "copyOf", desc := "([BI)[B" } : Jvm.MethodName)).before a0 Z = true := hw _ (List.mem_of_getElem? (i := 95) rfl)
theorem w_96 {Z : State} {a0 : Array Value} (hw : ∀ d ∈ tables_1, d.before a0 Z = true) : (Jvm.Cond.static ({ cls := "java/util/Arrays", name := "copyOf", desc := "([BI)[B" } : Jvm.MethodName)).before a0 Z = true := hw _ (List.mem_of_getElem? (i := 96) rfl)
theorem w_97 {Z : State} {a0 : Array Value} (hw : ∀ d ∈ tables_1, d.before a0 Z = true) : (Jvm.Cond.initialized "java/util/Arrays").before a0 Z = true := hw _ (List.mem_of_getElem? (i := 97) rfl)
theorem w_98 {Z : State} {a0 : Array Value} (hw : ∀ d ∈ tables_1, d.before a0 Z = true) : (Jvm.Cond.code ({ cls := "java/util/Arrays", name := "copyOf", desc := "([BI)[B" } : Jvm.MethodName) jdk_65_method_121_code (3 : Nat) (Option.some (Jvm.ClassFile.FieldType.array Jvm.ClassFile.FieldType.byte))).before a0 Z = true := hw _ (List.mem_of_getElem? (i := 98) rfl)
theorem w_99 {Z : State} {a0 : Array Value} (hw : ∀ d ∈ tables_1, d.before a0 Z = true) : (Jvm.Cond.methodLink "java/util/Arrays" (304 : Nat) ({ cls := "java/lang/Math", name := "min", desc := "(II)I" } : Jvm.MethodName)).before a0 Z = true := hw _ (List.mem_of_getElem? (i := 99) rfl)
theorem w_100 {Z : State} {a0 : Array Value} (hw : ∀ d ∈ tables_1, d.before a0 Z = true) : (Jvm.Cond.static ({ cls := "java/lang/Math", name := "min", desc := "(II)I" } : Jvm.MethodName)).before a0 Z = true := hw _ (List.mem_of_getElem? (i := 100) rfl)
theorem w_101 {Z : State} {a0 : Array Value} (hw : ∀ d ∈ tables_1, d.before a0 Z = true) : (Jvm.Cond.code ({ cls := "java/lang/Math", name := "min", desc := "(II)I" } : Jvm.MethodName) jdk_29_method_69_code (2 : Nat) (Option.some Jvm.ClassFile.FieldType.int)).before a0 Z = true := hw _ (List.mem_of_getElem? (i := 101) rfl)
theorem w_102 {Z : State} {a0 : Array Value} (hw : ∀ d ∈ tables_1, d.before a0 Z = true) : (Jvm.Cond.methodLink "java/util/Arrays" (150 : Nat) ({ cls := "java/lang/System", name := "arraycopy", desc := "(Ljava/lang/Object;ILjava/lang/Object;II)V" } : Jvm.MethodName)).before a0 Z = true := hw _ (List.mem_of_getElem? (i := 102) rfl)
theorem w_103 {Z : State} {a0 : Array Value} (hw : ∀ d ∈ tables_1, d.before a0 Z = true) : (Jvm.Cond.static ({ cls := "java/lang/System", name := "arraycopy", desc := "(Ljava/lang/Object;ILjava/lang/Object;II)V" } : Jvm.MethodName)).before a0 Z = true := hw _ (List.mem_of_getElem? (i := 103) rfl)
theorem w_104 {Z : State} {a0 : Array Value} (hw : ∀ d ∈ tables_1, d.before a0 Z = true) : (Jvm.Cond.initialized "java/lang/System").before a0 Z = true := hw _ (List.mem_of_getElem? (i := 104) rfl)
theorem w_105 {Z : State} {a0 : Array Value} (hw : ∀ d ∈ tables_1, d.before a0 Z = true) : (Jvm.Cond.native ({ cls := "java/lang/System", name := "arraycopy", desc := "(Ljava/lang/Object;ILjava/lang/Object;II)V" } : Jvm.MethodName)).before a0 Z = true := hw _ (List.mem_of_getElem? (i := 105) rfl)
theorem w_106 {Z : State} {a0 : Array Value} (hw : ∀ d ∈ tables_1, d.before a0 Z = true) : (Jvm.Cond.methodLink "java/lang/AbstractStringBuilder" (208 : Nat) ({ cls := "java/lang/AbstractStringBuilder", name := "putStringAt", desc := "(ILjava/lang/String;)V" } : Jvm.MethodName)).before a0 Z = true := hw _ (List.mem_of_getElem? (i := 106) rfl)
theorem w_107 {Z : State} {a0 : Array Value} (hw : ∀ d ∈ tables_1, d.before a0 Z = true) : (Jvm.Cond.instanceMethod ({ cls := "java/lang/AbstractStringBuilder", name := "putStringAt", desc := "(ILjava/lang/String;)V" } : Jvm.MethodName)).before a0 Z = true := hw _ (List.mem_of_getElem? (i := 107) rfl)
theorem w_108 {Z : State} {a0 : Array Value} (hw : ∀ d ∈ tables_1, d.before a0 Z = true) : (Jvm.Cond.privateMethod ({ cls := "java/lang/AbstractStringBuilder", name := "putStringAt", desc := "(ILjava/lang/String;)V" } : Jvm.MethodName)).before a0 Z = true := hw _ (List.mem_of_getElem? (i := 108) rfl)
theorem w_110 {Z : State} {a0 : Array Value} (hw : ∀ d ∈ tables_1, d.before a0 Z = true) : (Jvm.Cond.code ({ cls := "java/lang/AbstractStringBuilder", name := "putStringAt", desc := "(ILjava/lang/String;)V" } : Jvm.MethodName) jdk_68_method_73_code (3 : Nat) (Option.none : Option Jvm.ClassFile.FieldType)).before a0 Z = true := hw _ (List.mem_of_getElem? (i := 110) rfl)
theorem w_111 {Z : State} {a0 : Array Value} (hw : ∀ d ∈ tables_1, d.before a0 Z = true) : (Jvm.Cond.methodLink "java/lang/AbstractStringBuilder" (397 : Nat) ({ cls := "java/lang/AbstractStringBuilder", name := "inflateIfNeededFor", desc := "(Ljava/lang/String;)V" } : Jvm.MethodName)).before a0 Z = true := hw _ (List.mem_of_getElem? (i := 111) rfl)
theorem w_112 {Z : State} {a0 : Array Value} (hw : ∀ d ∈ tables_1, d.before a0 Z = true) : (Jvm.Cond.instanceMethod ({ cls := "java/lang/AbstractStringBuilder", name := "inflateIfNeededFor", desc := "(Ljava/lang/String;)V" } : Jvm.MethodName)).before a0 Z = true := hw _ (List.mem_of_getElem? (i := 112) rfl)
theorem w_113 {Z : State} {a0 : Array Value} (hw : ∀ d ∈ tables_1, d.before a0 Z = true) : (Jvm.Cond.privateMethod ({ cls := "java/lang/AbstractStringBuilder", name := "inflateIfNeededFor", desc := "(Ljava/lang/String;)V" } : Jvm.MethodName)).before a0 Z = true := hw _ (List.mem_of_getElem? (i := 113) rfl)
theorem w_115 {Z : State} {a0 : Array Value} (hw : ∀ d ∈ tables_1, d.before a0 Z = true) : (Jvm.Cond.code ({ cls := "java/lang/AbstractStringBuilder", name := "inflateIfNeededFor", desc := "(Ljava/lang/String;)V" } : Jvm.MethodName) jdk_68_method_71_code (2 : Nat) (Option.none : Option Jvm.ClassFile.FieldType)).before a0 Z = true := hw _ (List.mem_of_getElem? (i := 115) rfl)
theorem w_116 {Z : State} {a0 : Array Value} (hw : ∀ d ∈ tables_1, d.before a0 Z = true) : (Jvm.Cond.methodLink "java/lang/AbstractStringBuilder" (40 : Nat) ({ cls := "java/lang/String", name := "coder", desc := "()B" } : Jvm.MethodName)).before a0 Z = true := hw _ (List.mem_of_getElem? (i := 116) rfl)
theorem w_117 {Z : State} {a0 : Array Value} (hw : ∀ d ∈ tables_1, d.before a0 Z = true) : (Jvm.Cond.methodLink "java/lang/AbstractStringBuilder" (399 : Nat) ({ cls := "java/lang/String", name := "getBytes", desc := "([BIB)V" } : Jvm.MethodName)).before a0 Z = true := hw _ (List.mem_of_getElem? (i := 117) rfl)
theorem w_118 {Z : State} {a0 : Array Value} (hw : ∀ d ∈ tables_1, d.before a0 Z = true) : (Jvm.Cond.declares ({ cls := "java/lang/String", name := "getBytes", desc := "([BIB)V" } : Jvm.MethodName)).before a0 Z = true := hw _ (List.mem_of_getElem? (i := 118) rfl)
theorem w_119 {Z : State} {a0 : Array Value} (hw : ∀ d ∈ tables_1, d.before a0 Z = true) : (Jvm.Cond.instanceMethod ({ cls := "java/lang/String", name := "getBytes", desc := "([BIB)V" } : Jvm.MethodName)).before a0 Z = true := hw _ (List.mem_of_getElem? (i := 119) rfl)
theorem w_120 {Z : State} {a0 : Array Value} (hw : ∀ d ∈ tables_1, d.before a0 Z = true) : (Jvm.Cond.selects "java/lang/String" ({ cls := "java/lang/String", name := "getBytes", desc := "([BIB)V" } : Jvm.MethodName) ({ cls := "java/lang/String", name := "getBytes", desc := "([BIB)V" } : Jvm.MethodName)).before a0 Z = true := hw _ (List.mem_of_getElem? (i := 120) rfl)
theorem w_121 {Z : State} {a0 : Array Value} (hw : ∀ d ∈ tables_1, d.before a0 Z = true) : (Jvm.Cond.code ({ cls := "java/lang/String", name := "getBytes", desc := "([BIB)V" } : Jvm.MethodName) jdk_42_method_147_code (4 : Nat) (Option.none : Option Jvm.ClassFile.FieldType)).before a0 Z = true := hw _ (List.mem_of_getElem? (i := 121) rfl)
theorem w_122 {Z : State} {a0 : Array Value} (hw : ∀ d ∈ tables_1, d.before a0 Z = true) : (Jvm.Cond.methodLink "java/lang/String" (212 : Nat) ({ cls := "java/lang/System", name := "arraycopy", desc := "(Ljava/lang/Object;ILjava/lang/Object;II)V" } : Jvm.MethodName)).before a0 Z = true := hw _ (List.mem_of_getElem? (i := 122) rfl)
theorem w_123 {Z : State} {a0 : Array Value} (hw : ∀ d ∈ tables_1, d.before a0 Z = true) : (Jvm.Cond.stringLink "com/example/slackline/slackline/TooLargeException" (20 : Nat) ": ").before a0 Z = true := hw _ (List.mem_of_getElem? (i := 123) rfl)
theorem w_124 {Z : State} {a0 : Array Value} (hw : ∀ d ∈ tables_1, d.before a0 Z = true) : (Jvm.Cond.methodLink "com/example/slackline/slackline/TooLargeException" (22 : Nat) ({ cls := "java/lang/StringBuilder", name := "toString", desc := "()Ljava/lang/String;" } : Jvm.MethodName)).before a0 Z = true := hw _ (List.mem_of_getElem? (i := 124) rfl)
theorem w_125 {Z : State} {a0 : Array Value} (hw : ∀ d ∈ tables_1, d.before a0 Z = true) : (Jvm.Cond.declares ({ cls := "java/lang/StringBuilder", name := "toString", desc := "()Ljava/lang/String;" } : Jvm.MethodName)).before a0 Z = true := hw _ (List.mem_of_getElem? (i := 125) rfl)
theorem w_126 {Z : State} {a0 : Array Value} (hw : ∀ d ∈ tables_1, d.before a0 Z = true) : (Jvm.Cond.instanceMethod ({ cls := "java/lang/StringBuilder", name := "toString", desc := "()Ljava/lang/String;" } : Jvm.MethodName)).before a0 Z = true := hw _ (List.mem_of_getElem? (i := 126) rfl)
theorem w_127 {Z : State} {a0 : Array Value} (hw : ∀ d ∈ tables_1, d.before a0 Z = true) : (Jvm.Cond.selects "java/lang/StringBuilder" ({ cls := "java/lang/StringBuilder", name := "toString", desc := "()Ljava/lang/String;" } : Jvm.MethodName) ({ cls := "java/lang/StringBuilder", name := "toString", desc := "()Ljava/lang/String;" } : Jvm.MethodName)).before a0 Z = true := hw _ (List.mem_of_getElem? (i := 127) rfl)
theorem w_128 {Z : State} {a0 : Array Value} (hw : ∀ d ∈ tables_1, d.before a0 Z = true) : (Jvm.Cond.code ({ cls := "java/lang/StringBuilder", name := "toString", desc := "()Ljava/lang/String;" } : Jvm.MethodName) jdk_67_method_42_code (1 : Nat) (Option.some (Jvm.ClassFile.FieldType.object "java/lang/String"))).before a0 Z = true := hw _ (List.mem_of_getElem? (i := 128) rfl)
theorem w_129 {Z : State} {a0 : Array Value} (hw : ∀ d ∈ tables_1, d.before a0 Z = true) : (Jvm.Cond.classLink "java/lang/StringBuilder" (18 : Nat) "java/lang/String").before a0 Z = true := hw _ (List.mem_of_getElem? (i := 129) rfl)
theorem w_130 {Z : State} {a0 : Array Value} (hw : ∀ d ∈ tables_1, d.before a0 Z = true) : (Jvm.Cond.methodLink "java/lang/StringBuilder" (137 : Nat) ({ cls := "java/lang/String", name := "<init>", desc := "(Ljava/lang/StringBuilder;)V" } : Jvm.MethodName)).before a0 Z = true := hw _ (List.mem_of_getElem? (i := 130) rfl)
theorem w_131 {Z : State} {a0 : Array Value} (hw : ∀ d ∈ tables_1, d.before a0 Z = true) : (Jvm.Cond.instanceMethod ({ cls := "java/lang/String", name := "<init>", desc := "(Ljava/lang/StringBuilder;)V" } : Jvm.MethodName)).before a0 Z = true := hw _ (List.mem_of_getElem? (i := 131) rfl)
theorem w_132 {Z : State} {a0 : Array Value} (hw : ∀ d ∈ tables_1, d.before a0 Z = true) : (Jvm.Cond.code ({ cls := "java/lang/String", name := "<init>", desc := "(Ljava/lang/StringBuilder;)V" } : Jvm.MethodName) jdk_42_method_53_code (2 : Nat) (Option.none : Option Jvm.ClassFile.FieldType)).before a0 Z = true := hw _ (List.mem_of_getElem? (i := 132) rfl)
theorem w_133 {Z : State} {a0 : Array Value} (hw : ∀ d ∈ tables_1, d.before a0 Z = true) : (Jvm.Cond.methodLink "java/lang/String" (489 : Nat) ({ cls := "java/lang/String", name := "<init>", desc := "(Ljava/lang/AbstractStringBuilder;Ljava/lang/Void;)V" } : Jvm.MethodName)).before a0 Z = true := hw _ (List.mem_of_getElem? (i := 133) rfl)
theorem w_134 {Z : State} {a0 : Array Value} (hw : ∀ d ∈ tables_1, d.before a0 Z = true) : (Jvm.Cond.instanceMethod ({ cls := "java/lang/String", name := "<init>", desc := "(Ljava/lang/AbstractStringBuilder;Ljava/lang/Void;)V" } : Jvm.MethodName)).before a0 Z = true := hw _ (List.mem_of_getElem? (i := 134) rfl)
theorem w_135 {Z : State} {a0 : Array Value} (hw : ∀ d ∈ tables_1, d.before a0 Z = true) : (Jvm.Cond.code ({ cls := "java/lang/String", name := "<init>", desc := "(Ljava/lang/AbstractStringBuilder;Ljava/lang/Void;)V" } : Jvm.MethodName) jdk_42_method_150_code (5 : Nat) (Option.none : Option Jvm.ClassFile.FieldType)).before a0 Z = true := hw _ (List.mem_of_getElem? (i := 135) rfl)
theorem w_136 {Z : State} {a0 : Array Value} (hw : ∀ d ∈ tables_1, d.before a0 Z = true) : (Jvm.Cond.methodLink "java/lang/String" (552 : Nat) ({ cls := "java/lang/AbstractStringBuilder", name := "getValue", desc := "()[B" } : Jvm.MethodName)).before a0 Z = true := hw _ (List.mem_of_getElem? (i := 136) rfl)
theorem w_137 {Z : State} {a0 : Array Value} (hw : ∀ d ∈ tables_1, d.before a0 Z = true) : (Jvm.Cond.declares ({ cls := "java/lang/AbstractStringBuilder", name := "getValue", desc := "()[B" } : Jvm.MethodName)).before a0 Z = true := hw _ (List.mem_of_getElem? (i := 137) rfl)
theorem w_138 {Z : State} {a0 : Array Value} (hw : ∀ d ∈ tables_1, d.before a0 Z = true) : (Jvm.Cond.instanceMethod ({ cls := "java/lang/AbstractStringBuilder", name := "getValue", desc := "()[B" } : Jvm.MethodName)).before a0 Z = true := hw _ (List.mem_of_getElem? (i := 138) rfl)
theorem w_139 {Z : State} {a0 : Array Value} (hw : ∀ d ∈ tables_1, d.before a0 Z = true) : (Jvm.Cond.selects "java/lang/StringBuilder" ({ cls := "java/lang/AbstractStringBuilder", name := "getValue", desc := "()[B" } : Jvm.MethodName) ({ cls := "java/lang/AbstractStringBuilder", name := "getValue", desc := "()[B" } : Jvm.MethodName)).before a0 Z = true := hw _ (List.mem_of_getElem? (i := 139) rfl)
theorem w_140 {Z : State} {a0 : Array Value} (hw : ∀ d ∈ tables_1, d.before a0 Z = true) : (Jvm.Cond.code ({ cls := "java/lang/AbstractStringBuilder", name := "getValue", desc := "()[B" } : Jvm.MethodName) jdk_68_method_64_code (1 : Nat) (Option.some (Jvm.ClassFile.FieldType.array Jvm.ClassFile.FieldType.byte))).before a0 Z = true := hw _ (List.mem_of_getElem? (i := 140) rfl)
theorem w_141 {Z : State} {a0 : Array Value} (hw : ∀ d ∈ tables_1, d.before a0 Z = true) : (Jvm.Cond.methodLink "java/lang/String" (549 : Nat) ({ cls := "java/lang/AbstractStringBuilder", name := "length", desc := "()I" } : Jvm.MethodName)).before a0 Z = true := hw _ (List.mem_of_getElem? (i := 141) rfl)
theorem w_142 {Z : State} {a0 : Array Value} (hw : ∀ d ∈ tables_1, d.before a0 Z = true) : (Jvm.Cond.declares ({ cls := "java/lang/AbstractStringBuilder", name := "length", desc := "()I" } : Jvm.MethodName)).before a0 Z = true := hw _ (List.mem_of_getElem? (i := 142) rfl)
theorem w_143 {Z : State} {a0 : Array Value} (hw : ∀ d ∈ tables_1, d.before a0 Z = true) : (Jvm.Cond.instanceMethod ({ cls := "java/lang/AbstractStringBuilder", name := "length", desc := "()I" } : Jvm.MethodName)).before a0 Z = true := hw _ (List.mem_of_getElem? (i := 143) rfl)
theorem w_144 {Z : State} {a0 : Array Value} (hw : ∀ d ∈ tables_1, d.before a0 Z = true) : (Jvm.Cond.selects "java/lang/StringBuilder" ({ cls := "java/lang/AbstractStringBuilder", name := "length", desc := "()I" } : Jvm.MethodName) ({ cls := "java/lang/StringBuilder", name := "length", desc := "()I" } : Jvm.MethodName)).before a0 Z = true := hw _ (List.mem_of_getElem? (i := 144) rfl)
theorem w_145 {Z : State} {a0 : Array Value} (hw : ∀ d ∈ tables_1, d.before a0 Z = true) : (Jvm.Cond.instanceMethod ({ cls := "java/lang/StringBuilder", name := "length", desc := "()I" } : Jvm.MethodName)).before a0 Z = true := hw _ (List.mem_of_getElem? (i := 145) rfl)
theorem w_146 {Z : State} {a0 : Array Value} (hw : ∀ d ∈ tables_1, d.before a0 Z = true) : (Jvm.Cond.code ({ cls := "java/lang/StringBuilder", name := "length", desc := "()I" } : Jvm.MethodName) jdk_67_method_93_code (1 : Nat) (Option.some Jvm.ClassFile.FieldType.int)).before a0 Z = true := hw _ (List.mem_of_getElem? (i := 146) rfl)
theorem w_147 {Z : State} {a0 : Array Value} (hw : ∀ d ∈ tables_1, d.before a0 Z = true) : (Jvm.Cond.methodLink "java/lang/StringBuilder" (343 : Nat) ({ cls := "java/lang/AbstractStringBuilder", name := "length", desc := "()I" } : Jvm.MethodName)).before a0 Z = true := hw _ (List.mem_of_getElem? (i := 147) rfl)
theorem w_148 {Z : State} {a0 : Array Value} (hw : ∀ d ∈ tables_1, d.before a0 Z = true) : (Jvm.Cond.code ({ cls := "java/lang/AbstractStringBuilder", name := "length", desc := "()I" } : Jvm.MethodName) jdk_68_method_6_code (1 : Nat) (Option.some Jvm.ClassFile.FieldType.int)).before a0 Z = true := hw _ (List.mem_of_getElem? (i := 148) rfl)
theorem w_149 {Z : State} {a0 : Array Value} (hw : ∀ d ∈ tables_1, d.before a0 Z = true) : (Jvm.Cond.methodLink "java/lang/String" (1047 : Nat) ({ cls := "java/lang/AbstractStringBuilder", name := "isLatin1", desc := "()Z" } : Jvm.MethodName)).before a0 Z = true := hw _ (List.mem_of_getElem? (i := 149) rfl)
theorem w_150 {Z : State} {a0 : Array Value} (hw : ∀ d ∈ tables_1, d.before a0 Z = true) : (Jvm.Cond.declares ({ cls := "java/lang/AbstractStringBuilder", name := "isLatin1", desc := "()Z" } : Jvm.MethodName)).before a0 Z = true := hw _ (List.mem_of_getElem? (i := 150) rfl)
theorem w_151 {Z : State} {a0 : Array Value} (hw : ∀ d ∈ tables_1, d.before a0 Z = true) : (Jvm.Cond.instanceMethod ({ cls := "java/lang/AbstractStringBuilder", name := "isLatin1", desc := "()Z" } : Jvm.MethodName)).before a0 Z = true := hw _ (List.mem_of_getElem? (i := 151) rfl)
theorem w_152 {Z : State} {a0 : Array Value} (hw : ∀ d ∈ tables_1, d.before a0 Z = true) : (Jvm.Cond.selects "java/lang/StringBuilder" ({ cls := "java/lang/AbstractStringBuilder", name := "isLatin1", desc := "()Z" } : Jvm.MethodName) ({ cls := "java/lang/AbstractStringBuilder", name := "isLatin1", desc := "()Z" } : Jvm.MethodName)).before a0 Z = true := hw _ (List.mem_of_getElem? (i := 152) rfl)
theorem w_153 {Z : State} {a0 : Array Value} (hw : ∀ d ∈ tables_1, d.before a0 Z = true) : (Jvm.Cond.code ({ cls := "java/lang/AbstractStringBuilder", name := "isLatin1", desc := "()Z" } : Jvm.MethodName) jdk_68_method_68_code (1 : Nat) (Option.some Jvm.ClassFile.FieldType.boolean)).before a0 Z = true := hw _ (List.mem_of_getElem? (i := 153) rfl)
theorem w_154 {Z : State} {a0 : Array Value} (hw : ∀ d ∈ tables_1, d.before a0 Z = true) : (Jvm.Cond.methodLink "java/lang/String" (54 : Nat) ({ cls := "java/util/Arrays", name := "copyOfRange", desc := "([BII)[B" } : Jvm.MethodName)).before a0 Z = true := hw _ (List.mem_of_getElem? (i := 154) rfl)
theorem w_155 {Z : State} {a0 : Array Value} (hw : ∀ d ∈ tables_1, d.before a0 Z = true) : (Jvm.Cond.static ({ cls := "java/util/Arrays", name := "copyOfRange", desc := "([BII)[B" } : Jvm.MethodName)).before a0 Z = true := hw _ (List.mem_of_getElem? (i := 155) rfl)
theorem w_156 {Z : State} {a0 : Array Value} (hw : ∀ d ∈ tables_1, d.before a0 Z = true) : (Jvm.Cond.code ({ cls := "java/util/Arrays", name := "copyOfRange", desc := "([BII)[B" } : Jvm.MethodName) jdk_65_method_132_code (3 : Nat) (Option.some (Jvm.ClassFile.FieldType.array Jvm.ClassFile.FieldType.byte))).before a0 Z = true := hw _ (List.mem_of_getElem? (i := 156) rfl)
theorem w_157 {Z : State} {a0 : Array Value} (hw : ∀ d ∈ tables_1, d.before a0 Z = true) : (Jvm.Cond.methodLink "java/util/Arrays" (339 : Nat) ({ cls := "java/util/Arrays", name := "copyOfRangeByte", desc := "([BII)[B" } : Jvm.MethodName)).before a0 Z = true := hw _ (List.mem_of_getElem? (i := 157) rfl)
theorem w_158 {Z : State} {a0 : Array Value} (hw : ∀ d ∈ tables_1, d.before a0 Z = true) : (Jvm.Cond.static ({ cls := "java/util/Arrays", name := "copyOfRangeByte", desc := "([BII)[B" } : Jvm.MethodName)).before a0 Z = true := hw _ (List.mem_of_getElem? (i := 158) rfl)
theorem w_159 {Z : State} {a0 : Array Value} (hw : ∀ d ∈ tables_1, d.before a0 Z = true) : (Jvm.Cond.code ({ cls := "java/util/Arrays", name := "copyOfRangeByte", desc := "([BII)[B" } : Jvm.MethodName) jdk_65_method_133_code (5 : Nat) (Option.some (Jvm.ClassFile.FieldType.array Jvm.ClassFile.FieldType.byte))).before a0 Z = true := hw _ (List.mem_of_getElem? (i := 159) rfl)
theorem w_160 {Z : State} {a0 : Array Value} (hw : ∀ d ∈ tables_1, d.before a0 Z = true) : (Jvm.Cond.methodLink "java/util/Arrays" (343 : Nat) ({ cls := "java/util/Arrays", name := "checkLength", desc := "(II)V" } : Jvm.MethodName)).before a0 Z = true := hw _ (List.mem_of_getElem? (i := 160) rfl)
theorem w_161 {Z : State} {a0 : Array Value} (hw : ∀ d ∈ tables_1, d.before a0 Z = true) : (Jvm.Cond.static ({ cls := "java/util/Arrays", name := "checkLength", desc := "(II)V" } : Jvm.MethodName)).before a0 Z = true := hw _ (List.mem_of_getElem? (i := 161) rfl)
theorem w_162 {Z : State} {a0 : Array Value} (hw : ∀ d ∈ tables_1, d.before a0 Z = true) : (Jvm.Cond.code ({ cls := "java/util/Arrays", name := "checkLength", desc := "(II)V" } : Jvm.MethodName) jdk_65_method_131_code (2 : Nat) (Option.none : Option Jvm.ClassFile.FieldType)).before a0 Z = true := hw _ (List.mem_of_getElem? (i := 162) rfl)
theorem w_163 {Z : State} {a0 : Array Value} (hw : ∀ d ∈ tables_1, d.before a0 Z = true) : (Jvm.Cond.methodLink "com/example/slackline/slackline/TooLargeException" (26 : Nat) ({ cls := "com/example/slackline/slackline/TooLargeException", name := "<init>", desc := "(Ljava/lang/String;)V" } : Jvm.MethodName)).before a0 Z = true := hw _ (List.mem_of_getElem? (i := 163) rfl)
theorem w_164 {Z : State} {a0 : Array Value} (hw : ∀ d ∈ tables_1, d.before a0 Z = true) : (Jvm.Cond.instanceMethod ({ cls := "com/example/slackline/slackline/TooLargeException", name := "<init>", desc := "(Ljava/lang/String;)V" } : Jvm.MethodName)).before a0 Z = true := hw _ (List.mem_of_getElem? (i := 164) rfl)
theorem w_165 {Z : State} {a0 : Array Value} (hw : ∀ d ∈ tables_1, d.before a0 Z = true) : (Jvm.Cond.code ({ cls := "com/example/slackline/slackline/TooLargeException", name := "<init>", desc := "(Ljava/lang/String;)V" } : Jvm.MethodName) prog_52_method_1_code (2 : Nat) (Option.none : Option Jvm.ClassFile.FieldType)).before a0 Z = true := hw _ (List.mem_of_getElem? (i := 165) rfl)
theorem w_166 {Z : State} {a0 : Array Value} (hw : ∀ d ∈ tables_1, d.before a0 Z = true) : (Jvm.Cond.methodLink "com/example/slackline/slackline/TooLargeException" (1 : Nat) ({ cls := "java/lang/Exception", name := "<init>", desc := "(Ljava/lang/String;)V" } : Jvm.MethodName)).before a0 Z = true := hw _ (List.mem_of_getElem? (i := 166) rfl)
theorem w_167 {Z : State} {a0 : Array Value} (hw : ∀ d ∈ tables_1, d.before a0 Z = true) : (Jvm.Cond.instanceMethod ({ cls := "java/lang/Exception", name := "<init>", desc := "(Ljava/lang/String;)V" } : Jvm.MethodName)).before a0 Z = true := hw _ (List.mem_of_getElem? (i := 167) rfl)
theorem w_169 {Z : State} {a0 : Array Value} (hw : ∀ d ∈ tables_1, d.before a0 Z = true) : (Jvm.Cond.initialized "java/lang/Exception").before a0 Z = true := hw _ (List.mem_of_getElem? (i := 169) rfl)
theorem w_170 {Z : State} {a0 : Array Value} (hw : ∀ d ∈ tables_1, d.before a0 Z = true) : (Jvm.Cond.code ({ cls := "java/lang/Exception", name := "<init>", desc := "(Ljava/lang/String;)V" } : Jvm.MethodName) jdk_59_method_2_code (2 : Nat) (Option.none : Option Jvm.ClassFile.FieldType)).before a0 Z = true := hw _ (List.mem_of_getElem? (i := 170) rfl)
theorem w_171 {Z : State} {a0 : Array Value} (hw : ∀ d ∈ tables_1, d.before a0 Z = true) : (Jvm.Cond.methodLink "java/lang/Exception" (7 : Nat) ({ cls := "java/lang/Throwable", name := "<init>", desc := "(Ljava/lang/String;)V" } : Jvm.MethodName)).before a0 Z = true := hw _ (List.mem_of_getElem? (i := 171) rfl)
theorem w_172 {Z : State} {a0 : Array Value} (hw : ∀ d ∈ tables_1, d.before a0 Z = true) : (Jvm.Cond.instanceMethod ({ cls := "java/lang/Throwable", name := "<init>", desc := "(Ljava/lang/String;)V" } : Jvm.MethodName)).before a0 Z = true := hw _ (List.mem_of_getElem? (i := 172) rfl)
theorem w_175 {Z : State} {a0 : Array Value} (hw : ∀ d ∈ tables_1, d.before a0 Z = true) : (Jvm.Cond.initialized "java/lang/Throwable").before a0 Z = true := hw _ (List.mem_of_getElem? (i := 175) rfl)
theorem w_176 {Z : State} {a0 : Array Value} (hw : ∀ d ∈ tables_1, d.before a0 Z = true) : (Jvm.Cond.code ({ cls := "java/lang/Throwable", name := "<init>", desc := "(Ljava/lang/String;)V" } : Jvm.MethodName) jdk_78_method_2_code (2 : Nat) (Option.none : Option Jvm.ClassFile.FieldType)).before a0 Z = true := hw _ (List.mem_of_getElem? (i := 176) rfl)
theorem w_177 {Z : State} {a0 : Array Value} (hw : ∀ d ∈ tables_1, d.before a0 Z = true) : (Jvm.Cond.methodLink "java/lang/Throwable" (1 : Nat) ({ cls := "java/lang/Object", name := "<init>", desc := "()V" } : Jvm.MethodName)).before a0 Z = true := hw _ (List.mem_of_getElem? (i := 177) rfl)
theorem w_178 {Z : State} {a0 : Array Value} (hw : ∀ d ∈ tables_1, d.before a0 Z = true) : (Jvm.Cond.fieldLink "java/lang/Throwable" (7 : Nat) "java/lang/Throwable" "cause" "Ljava/lang/Throwable;").before a0 Z = true := hw _ (List.mem_of_getElem? (i := 178) rfl)
theorem w_179 {Z : State} {a0 : Array Value} (hw : ∀ d ∈ tables_1, d.before a0 Z = true) : (Jvm.Cond.lays "com/example/slackline/slackline/TooLargeException" "java/lang/Throwable" "cause" "Ljava/lang/Throwable;").before a0 Z = true := hw _ (List.mem_of_getElem? (i := 179) rfl)
theorem w_180 {Z : State} {a0 : Array Value} (hw : ∀ d ∈ tables_1, d.before a0 Z = true) : (Jvm.Cond.fieldLink "java/lang/Throwable" (13 : Nat) "java/lang/Throwable" "UNASSIGNED_STACK" "[Ljava/lang/StackTraceElement;").before a0 Z = true := hw _ (List.mem_of_getElem? (i := 180) rfl)
theorem w_181 {Z : State} {a0 : Array Value} (hw : ∀ d ∈ tables_1, d.before a0 Z = true) : (Jvm.Cond.fieldLink "java/lang/Throwable" (17 : Nat) "java/lang/Throwable" "stackTrace" "[Ljava/lang/StackTraceElement;").before a0 Z = true := hw _ (List.mem_of_getElem? (i := 181) rfl)
theorem w_182 {Z : State} {a0 : Array Value} (hw : ∀ d ∈ tables_1, d.before a0 Z = true) : (Jvm.Cond.lays "com/example/slackline/slackline/TooLargeException" "java/lang/Throwable" "stackTrace" "[Ljava/lang/StackTraceElement;").before a0 Z = true := hw _ (List.mem_of_getElem? (i := 182) rfl)
theorem w_183 {Z : State} {a0 : Array Value} (hw : ∀ d ∈ tables_1, d.before a0 Z = true) : (Jvm.Cond.fieldLink "java/lang/Throwable" (20 : Nat) "java/lang/Throwable" "SUPPRESSED_SENTINEL" "Ljava/util/List;").before a0 Z = true := hw _ (List.mem_of_getElem? (i := 183) rfl)
theorem w_184 {Z : State} {a0 : Array Value} (hw : ∀ d ∈ tables_1, d.before a0 Z = true) : (Jvm.Cond.fieldLink "java/lang/Throwable" (24 : Nat) "java/lang/Throwable" "suppressedExceptions" "Ljava/util/List;").before a0 Z = true := hw _ (List.mem_of_getElem? (i := 184) rfl)
theorem w_185 {Z : State} {a0 : Array Value} (hw : ∀ d ∈ tables_1, d.before a0 Z = true) : (Jvm.Cond.lays "com/example/slackline/slackline/TooLargeException" "java/lang/Throwable" "suppressedExceptions" "Ljava/util/List;").before a0 Z = true := hw _ (List.mem_of_getElem? (i := 185) rfl)
theorem w_186 {Z : State} {a0 : Array Value} (hw : ∀ d ∈ tables_1, d.before a0 Z = true) : (Jvm.Cond.methodLink "java/lang/Throwable" (27 : Nat) ({ cls := "java/lang/Throwable", name := "fillInStackTrace", desc := "()Ljava/lang/Throwable;" } : Jvm.MethodName)).before a0 Z = true := hw _ (List.mem_of_getElem? (i := 186) rfl)
theorem w_187 {Z : State} {a0 : Array Value} (hw : ∀ d ∈ tables_1, d.before a0 Z = true) : (Jvm.Cond.declares ({ cls := "java/lang/Throwable", name := "fillInStackTrace", desc := "()Ljava/lang/Throwable;" } : Jvm.MethodName)).before a0 Z = true := hw _ (List.mem_of_getElem? (i := 187) rfl)
theorem w_188 {Z : State} {a0 : Array Value} (hw : ∀ d ∈ tables_1, d.before a0 Z = true) : (Jvm.Cond.instanceMethod ({ cls := "java/lang/Throwable", name := "fillInStackTrace", desc := "()Ljava/lang/Throwable;" } : Jvm.MethodName)).before a0 Z = true := hw _ (List.mem_of_getElem? (i := 188) rfl)
theorem w_189 {Z : State} {a0 : Array Value} (hw : ∀ d ∈ tables_1, d.before a0 Z = true) : (Jvm.Cond.selects "com/example/slackline/slackline/TooLargeException" ({ cls := "java/lang/Throwable", name := "fillInStackTrace", desc := "()Ljava/lang/Throwable;" } : Jvm.MethodName) ({ cls := "java/lang/Throwable", name := "fillInStackTrace", desc := "()Ljava/lang/Throwable;" } : Jvm.MethodName)).before a0 Z = true := hw _ (List.mem_of_getElem? (i := 189) rfl)
theorem w_190 {Z : State} {a0 : Array Value} (hw : ∀ d ∈ tables_1, d.before a0 Z = true) : (Jvm.Cond.arrayOver (Jvm.ClassFile.FieldType.object "java/lang/Object")).before a0 Z = true := hw _ (List.mem_of_getElem? (i := 190) rfl)
theorem w_191 {Z : State} {a0 : Array Value} (hw : ∀ d ∈ tables_1, d.before a0 Z = true) : (Jvm.Cond.soleField "java/lang/Throwable" "backtrace").before a0 Z = true := hw _ (List.mem_of_getElem? (i := 191) rfl)
theorem w_192 {Z : State} {a0 : Array Value} (hw : ∀ d ∈ tables_1, d.before a0 Z = true) : (Jvm.Cond.soleField "java/lang/Throwable" "depth").before a0 Z = true := hw _ (List.mem_of_getElem? (i := 192) rfl)
theorem w_193 {Z : State} {a0 : Array Value} (hw : ∀ d ∈ tables_1, d.before a0 Z = true) : (Jvm.Cond.superclass "java/lang/Throwable" "java/lang/Object").before a0 Z = true := hw _ (List.mem_of_getElem? (i := 193) rfl)
theorem w_194 {Z : State} {a0 : Array Value} (hw : ∀ d ∈ tables_1, d.before a0 Z = true) : (Jvm.Cond.codeSync ({ cls := "java/lang/Throwable", name := "fillInStackTrace", desc := "()Ljava/lang/Throwable;" } : Jvm.MethodName) jdk_78_method_18_code (1 : Nat) (Option.some (Jvm.ClassFile.FieldType.object "java/lang/Throwable"))).before a0 Z = true := hw _ (List.mem_of_getElem? (i := 194) rfl)
theorem w_195 {Z : State} {a0 : Array Value} (hw : ∀ d ∈ tables_1, d.before a0 Z = true) : (Jvm.Cond.instanceMethod ({ cls := "java/lang/Throwable", name := "fillInStackTrace", desc := "(I)Ljava/lang/Throwable;" } : Jvm.MethodName)).before a0 Z = true := hw _ (List.mem_of_getElem? (i := 195) rfl)
theorem w_196 {Z : State} {a0 : Array Value} (hw : ∀ d ∈ tables_1, d.before a0 Z = true) : (Jvm.Cond.native ({ cls := "java/lang/Throwable", name := "fillInStackTrace", desc := "(I)Ljava/lang/Throwable;" } : Jvm.MethodName)).before a0 Z = true := hw _ (List.mem_of_getElem? (i := 196) rfl)
theorem w_199 {Z : State} {a0 : Array Value} (hw : ∀ d ∈ tables_1, d.before a0 Z = true) : (Jvm.Cond.methodLink "java/lang/Throwable" (202 : Nat) ({ cls := "java/lang/Throwable", name := "fillInStackTrace", desc := "(I)Ljava/lang/Throwable;" } : Jvm.MethodName)).before a0 Z = true := hw _ (List.mem_of_getElem? (i := 199) rfl)
theorem w_204 {Z : State} {a0 : Array Value} (hw : ∀ d ∈ tables_1, d.before a0 Z = true) : (Jvm.Cond.fieldLink "java/lang/Throwable" (198 : Nat) "java/lang/Throwable" "backtrace" "Ljava/lang/Object;").before a0 Z = true := hw _ (List.mem_of_getElem? (i := 204) rfl)
theorem w_206 {Z : State} {a0 : Array Value} (hw : ∀ d ∈ tables_1, d.before a0 Z = true) : (Jvm.Cond.laysStatic "java/lang/Throwable" "UNASSIGNED_STACK" "[Ljava/lang/StackTraceElement;").before a0 Z = true := hw _ (List.mem_of_getElem? (i := 206) rfl)
theorem w_207 {Z : State} {a0 : Array Value} (hw : ∀ d ∈ tables_1, d.before a0 Z = true) : (Jvm.Cond.laysStatic "java/lang/Throwable" "SUPPRESSED_SENTINEL" "Ljava/util/List;").before a0 Z = true := hw _ (List.mem_of_getElem? (i := 207) rfl)
theorem w_208 {Z : State} {a0 : Array Value} (hw : ∀ d ∈ tables_1, d.before a0 Z = true) : (Jvm.Cond.selects "com/example/slackline/slackline/TooLargeException" ({ cls := "java/lang/Throwable", name := "fillInStackTrace", desc := "(I)Ljava/lang/Throwable;" } : Jvm.MethodName) ({ cls := "java/lang/Throwable", name := "fillInStackTrace", desc := "(I)Ljava/lang/Throwable;" } : Jvm.MethodName)).before a0 Z = true := hw _ (List.mem_of_getElem? (i := 208) rfl)
theorem w_209 {Z : State} {a0 : Array Value} (hw : ∀ d ∈ tables_1, d.before a0 Z = true) : (Jvm.Cond.lays "com/example/slackline/slackline/TooLargeException" "java/lang/Throwable" "detailMessage" "Ljava/lang/String;").before a0 Z = true := hw _ (List.mem_of_getElem? (i := 209) rfl)
theorem w_210 {Z : State} {a0 : Array Value} (hw : ∀ d ∈ tables_1, d.before a0 Z = true) : (Jvm.Cond.lays "com/example/slackline/slackline/TooLargeException" "java/lang/Throwable" "backtrace" "Ljava/lang/Object;").before a0 Z = true := hw _ (List.mem_of_getElem? (i := 210) rfl)
theorem w_211 {Z : State} {a0 : Array Value} (hw : ∀ d ∈ tables_1, d.before a0 Z = true) : (Jvm.Cond.lays "com/example/slackline/slackline/TooLargeException" "java/lang/Throwable" "depth" "I").before a0 Z = true := hw _ (List.mem_of_getElem? (i := 211) rfl)
theorem w_213 {Z : State} {a0 : Array Value} (hw : ∀ d ∈ tables_1, d.before a0 Z = true) : (Jvm.Cond.fieldLink "java/lang/Throwable" (31 : Nat) "java/lang/Throwable" "detailMessage" "Ljava/lang/String;").before a0 Z = true := hw _ (List.mem_of_getElem? (i := 213) rfl)
theorem w_214 {Z : State} {a0 : Array Value} (hw : ∀ d ∈ tables_1, d.before a0 Z = true) : (Jvm.Cond.methodLink "com/example/slackline/slackline/TooLargeExceptionForMethodPinLaw" (20 : Nat) ({ cls := "com/example/slackline/slackline/TooLargeException", name := "getMessage", desc := "()Ljava/lang/String;" } : Jvm.MethodName)).before a0 Z = true := hw _ (List.mem_of_getElem? (i := 214) rfl)
theorem w_215 {Z : State} {a0 : Array Value} (hw : ∀ d ∈ tables_1, d.before a0 Z = true) : (Jvm.Cond.sameMethod "com/example/slackline/slackline/TooLargeException" "java/lang/Throwable" "getMessage" "()Ljava/lang/String;").before a0 Z = true := hw _ (List.mem_of_getElem? (i := 215) rfl)
theorem w_216 {Z : State} {a0 : Array Value} (hw : ∀ d ∈ tables_1, d.before a0 Z = true) : (Jvm.Cond.declares ({ cls := "java/lang/Throwable", name := "getMessage", desc := "()Ljava/lang/String;" } : Jvm.MethodName)).before a0 Z = true := hw _ (List.mem_of_getElem? (i := 216) rfl)
theorem w_217 {Z : State} {a0 : Array Value} (hw : ∀ d ∈ tables_1, d.before a0 Z = true) : (Jvm.Cond.instanceMethod ({ cls := "java/lang/Throwable", name := "getMessage", desc := "()Ljava/lang/String;" } : Jvm.MethodName)).before a0 Z = true := hw _ (List.mem_of_getElem? (i := 217) rfl)
theorem w_218 {Z : State} {a0 : Array Value} (hw : ∀ d ∈ tables_1, d.before a0 Z = true) : (Jvm.Cond.selects "com/example/slackline/slackline/TooLargeException" ({ cls := "com/example/slackline/slackline/TooLargeException", name := "getMessage", desc := "()Ljava/lang/String;" } : Jvm.MethodName) ({ cls := "java/lang/Throwable", name := "getMessage", desc := "()Ljava/lang/String;" } : Jvm.MethodName)).before a0 Z = true := hw _ (List.mem_of_getElem? (i := 218) rfl)
theorem w_219 {Z : State} {a0 : Array Value} (hw : ∀ d ∈ tables_1, d.before a0 Z = true) : (Jvm.Cond.code ({ cls := "java/lang/Throwable", name := "getMessage", desc := "()Ljava/lang/String;" } : Jvm.MethodName) jdk_78_method_6_code (1 : Nat) (Option.some (Jvm.ClassFile.FieldType.object "java/lang/String"))).before a0 Z = true := hw _ (List.mem_of_getElem? (i := 219) rfl)
theorem w_220 {Z : State} {a0 : Array Value} (hw : ∀ d ∈ tables_1, d.before a0 Z = true) : (Jvm.Cond.methodLink "com/example/slackline/slackline/TooLargeExceptionForMethodPinLaw" (24 : Nat) ({ cls := "java/lang/String", name := "length", desc := "()I" } : Jvm.MethodName)).before a0 Z = true := hw _ (List.mem_of_getElem? (i := 220) rfl)
theorem w_221 {Z : State} {a0 : Array Value} (hw : ∀ d ∈ tables_1, d.before a0 Z = true) : (Jvm.Cond.methodLink "com/example/slackline/slackline/TooLargeExceptionForMethodPinLaw" (30 : Nat) ({ cls := "com/example/slackline/slackline/TooLargeExceptionForMethodPinLaw", name := "prefixOk", desc := "(Ljava/lang/String;)Z" } : Jvm.MethodName)).before a0 Z = true := hw _ (List.mem_of_getElem? (i := 221) rfl)
theorem w_222 {Z : State} {a0 : Array Value} (hw : ∀ d ∈ tables_1, d.before a0 Z = true) : (Jvm.Cond.static ({ cls := "com/example/slackline/slackline/TooLargeExceptionForMethodPinLaw", name := "prefixOk", desc := "(Ljava/lang/String;)Z" } : Jvm.MethodName)).before a0 Z = true := hw _ (List.mem_of_getElem? (i := 222) rfl)
theorem w_223 {Z : State} {a0 : Array Value} (hw : ∀ d ∈ tables_1, d.before a0 Z = true) : (Jvm.Cond.code ({ cls := "com/example/slackline/slackline/TooLargeExceptionForMethodPinLaw", name := "prefixOk", desc := "(Ljava/lang/String;)Z" } : Jvm.MethodName) method_4_code (1 : Nat) (Option.some Jvm.ClassFile.FieldType.boolean)).before a0 Z = true := hw _ (List.mem_of_getElem? (i := 223) rfl)
theorem w_224 {Z : State} {a0 : Array Value} (hw : ∀ d ∈ tables_1, d.before a0 Z = true) : (Jvm.Cond.methodLink "com/example/slackline/slackline/TooLargeExceptionForMethodPinLaw" (34 : Nat) ({ cls := "java/lang/String", name := "charAt", desc := "(I)C" } : Jvm.MethodName)).before a0 Z = true := hw _ (List.mem_of_getElem? (i := 224) rfl)
theorem w_225 {Z : State} {a0 : Array Value} (hw : ∀ d ∈ tables_1, d.before a0 Z = true) : (Jvm.Cond.declares ({ cls := "java/lang/String", name := "charAt", desc := "(I)C" } : Jvm.MethodName)).before a0 Z = true := hw _ (List.mem_of_getElem? (i := 225) rfl)
theorem w_226 {Z : State} {a0 : Array Value} (hw : ∀ d ∈ tables_1, d.before a0 Z = true) : (Jvm.Cond.instanceMethod ({ cls := "java/lang/String", name := "charAt", desc := "(I)C" } : Jvm.MethodName)).before a0 Z = true := hw _ (List.mem_of_getElem? (i := 226) rfl)
theorem w_227 {Z : State} {a0 : Array Value} (hw : ∀ d ∈ tables_1, d.before a0 Z = true) : (Jvm.Cond.selects "java/lang/String" ({ cls := "java/lang/String", name := "charAt", desc := "(I)C" } : Jvm.MethodName) ({ cls := "java/lang/String", name := "charAt", desc := "(I)C" } : Jvm.MethodName)).before a0 Z = true := hw _ (List.mem_of_getElem? (i := 227) rfl)
theorem w_228 {Z : State} {a0 : Array Value} (hw : ∀ d ∈ tables_1, d.before a0 Z = true) : (Jvm.Cond.code ({ cls := "java/lang/String", name := "charAt", desc := "(I)C" } : Jvm.MethodName) jdk_42_method_56_code (2 : Nat) (Option.some Jvm.ClassFile.FieldType.char)).before a0 Z = true := hw _ (List.mem_of_getElem? (i := 228) rfl)
theorem w_229 {Z : State} {a0 : Array Value} (hw : ∀ d ∈ tables_1, d.before a0 Z = true) : (Jvm.Cond.methodLink "java/lang/String" (492 : Nat) ({ cls := "java/lang/String", name := "isLatin1", desc := "()Z" } : Jvm.MethodName)).before a0 Z = true := hw _ (List.mem_of_getElem? (i := 229) rfl)
theorem w_230 {Z : State} {a0 : Array Value} (hw : ∀ d ∈ tables_1, d.before a0 Z = true) : (Jvm.Cond.declares ({ cls := "java/lang/String", name := "isLatin1", desc := "()Z" } : Jvm.MethodName)).before a0 Z = true := hw _ (List.mem_of_getElem? (i := 230) rfl)
theorem w_231 {Z : State} {a0 : Array Value} (hw : ∀ d ∈ tables_1, d.before a0 Z = true) : (Jvm.Cond.instanceMethod ({ cls := "java/lang/String", name := "isLatin1", desc := "()Z" } : Jvm.MethodName)).before a0 Z = true := hw _ (List.mem_of_getElem? (i := 231) rfl)
theorem w_232 {Z : State} {a0 : Array Value} (hw : ∀ d ∈ tables_1, d.before a0 Z = true) : (Jvm.Cond.selects "java/lang/String" ({ cls := "java/lang/String", name := "isLatin1", desc := "()Z" } : Jvm.MethodName) ({ cls := "java/lang/String", name := "isLatin1", desc := "()Z" } : Jvm.MethodName)).before a0 Z = true := hw _ (List.mem_of_getElem? (i := 232) rfl)
theorem w_233 {Z : State} {a0 : Array Value} (hw : ∀ d ∈ tables_1, d.before a0 Z = true) : (Jvm.Cond.code ({ cls := "java/lang/String", name := "isLatin1", desc := "()Z" } : Jvm.MethodName) jdk_42_method_154_code (1 : Nat) (Option.some Jvm.ClassFile.FieldType.boolean)).before a0 Z = true := hw _ (List.mem_of_getElem? (i := 233) rfl)
theorem w_234 {Z : State} {a0 : Array Value} (hw : ∀ d ∈ tables_1, d.before a0 Z = true) : (Jvm.Cond.methodLink "java/lang/String" (495 : Nat) ({ cls := "java/lang/StringLatin1", name := "charAt", desc := "([BI)C" } : Jvm.MethodName)).before a0 Z = true := hw _ (List.mem_of_getElem? (i := 234) rfl)
theorem w_235 {Z : State} {a0 : Array Value} (hw : ∀ d ∈ tables_1, d.before a0 Z = true) : (Jvm.Cond.static ({ cls := "java/lang/StringLatin1", name := "charAt", desc := "([BI)C" } : Jvm.MethodName)).before a0 Z = true := hw _ (List.mem_of_getElem? (i := 235) rfl)
theorem w_236 {Z : State} {a0 : Array Value} (hw : ∀ d ∈ tables_1, d.before a0 Z = true) : (Jvm.Cond.initialized "java/lang/StringLatin1").before a0 Z = true := hw _ (List.mem_of_getElem? (i := 236) rfl)
theorem w_237 {Z : State} {a0 : Array Value} (hw : ∀ d ∈ tables_1, d.before a0 Z = true) : (Jvm.Cond.code ({ cls := "java/lang/StringLatin1", name := "charAt", desc := "([BI)C" } : Jvm.MethodName) jdk_43_method_2_code (2 : Nat) (Option.some Jvm.ClassFile.FieldType.char)).before a0 Z = true := hw _ (List.mem_of_getElem? (i := 237) rfl)
theorem w_238 {Z : State} {a0 : Array Value} (hw : ∀ d ∈ tables_1, d.before a0 Z = true) : (Jvm.Cond.methodLink "java/lang/StringLatin1" (9 : Nat) ({ cls := "java/lang/String", name := "checkIndex", desc := "(II)V" } : Jvm.MethodName)).before a0 Z = true := hw _ (List.mem_of_getElem? (i := 238) rfl)
theorem w_239 {Z : State} {a0 : Array Value} (hw : ∀ d ∈ tables_1, d.before a0 Z = true) : (Jvm.Cond.static ({ cls := "java/lang/String", name := "checkIndex", desc := "(II)V" } : Jvm.MethodName)).before a0 Z = true := hw _ (List.mem_of_getElem? (i := 239) rfl)
theorem w_240 {Z : State} {a0 : Array Value} (hw : ∀ d ∈ tables_1, d.before a0 Z = true) : (Jvm.Cond.code ({ cls := "java/lang/String", name := "checkIndex", desc := "(II)V" } : Jvm.MethodName) jdk_42_method_155_code (2 : Nat) (Option.none : Option Jvm.ClassFile.FieldType)).before a0 Z = true := hw _ (List.mem_of_getElem? (i := 240) rfl)
theorem w_241 {Z : State} {a0 : Array Value} (hw : ∀ d ∈ tables_1, d.before a0 Z = true) : (Jvm.Cond.fieldLink "java/lang/String" (1053 : Nat) "jdk/internal/util/Preconditions" "SIOOBE_FORMATTER" "Ljava/util/function/BiFunction;").before a0 Z = true := hw _ (List.mem_of_getElem? (i := 241) rfl)
theorem w_242 {Z : State} {a0 : Array Value} (hw : ∀ d ∈ tables_1, d.before a0 Z = true) : (Jvm.Cond.initialized "jdk/internal/util/Preconditions").before a0 Z = true := hw _ (List.mem_of_getElem? (i := 242) rfl)
theorem w_243 {Z : State} {a0 : Array Value} (hw : ∀ d ∈ tables_1, d.before a0 Z = true) : (Jvm.Cond.methodLink "java/lang/String" (1059 : Nat) ({ cls := "jdk/internal/util/Preconditions", name := "checkIndex", desc := "(IILjava/util/function/BiFunction;)I" } : Jvm.MethodName)).before a0 Z = true := hw _ (List.mem_of_getElem? (i := 243) rfl)
theorem w_244 {Z : State} {a0 : Array Value} (hw : ∀ d ∈ tables_1, d.before a0 Z = true) : (Jvm.Cond.static ({ cls := "jdk/internal/util/Preconditions", name := "checkIndex", desc := "(IILjava/util/function/BiFunction;)I" } : Jvm.MethodName)).before a0 Z = true := hw _ (List.mem_of_getElem? (i := 244) rfl)
theorem w_245 {Z : State} {a0 : Array Value} (hw : ∀ d ∈ tables_1, d.before a0 Z = true) : (Jvm.Cond.code ({ cls := "jdk/internal/util/Preconditions", name := "checkIndex", desc := "(IILjava/util/function/BiFunction;)I" } : Jvm.MethodName) jdk_41_method_11_code (3 : Nat) (Option.some Jvm.ClassFile.FieldType.int)).before a0 Z = true := hw _ (List.mem_of_getElem? (i := 245) rfl)
theorem w_246 {Z : State} {a0 : Array Value} (hw : ∀ d ∈ tables_1, d.before a0 Z = true) : (Jvm.Cond.methodLink "java/lang/String" (177 : Nat) ({ cls := "java/lang/StringUTF16", name := "compress", desc := "([CII)[B" } : Jvm.MethodName)).before a0 Z = true := hw _ (List.mem_of_getElem? (i := 246) rfl)
theorem w_247 {Z : State} {a0 : Array Value} (hw : ∀ d ∈ tables_1, d.before a0 Z = true) : (Jvm.Cond.static ({ cls := "java/lang/StringUTF16", name := "compress", desc := "([CII)[B" } : Jvm.MethodName)).before a0 Z = true := hw _ (List.mem_of_getElem? (i := 247) rfl)
theorem w_248 {Z : State} {a0 : Array Value} (hw : ∀ d ∈ tables_1, d.before a0 Z = true) : (Jvm.Cond.initialized "java/lang/StringUTF16").before a0 Z = true := hw _ (List.mem_of_getElem? (i := 248) rfl)
theorem w_249 {Z : State} {a0 : Array Value} (hw : ∀ d ∈ tables_1, d.before a0 Z = true) : (Jvm.Cond.code ({ cls := "java/lang/StringUTF16", name := "compress", desc := "([CII)[B" } : Jvm.MethodName) jdk_52_method_16_code (6 : Nat) (Option.some (Jvm.ClassFile.FieldType.array Jvm.ClassFile.FieldType.byte))).before a0 Z = true := hw _ (List.mem_of_getElem? (i := 249) rfl)
theorem w_250 {Z : State} {a0 : Array Value} (hw : ∀ d ∈ tables_1, d.before a0 Z = true) : (Jvm.Cond.methodLink "java/lang/StringUTF16" (115 : Nat) ({ cls := "java/lang/StringUTF16", name := "compress", desc := "([CI[BII)I" } : Jvm.MethodName)).before a0 Z = true := hw _ (List.mem_of_getElem? (i := 250) rfl)
theorem w_251 {Z : State} {a0 : Array Value} (hw : ∀ d ∈ tables_1, d.before a0 Z = true) : (Jvm.Cond.static ({ cls := "java/lang/StringUTF16", name := "compress", desc := "([CI[BII)I" } : Jvm.MethodName)).before a0 Z = true := hw _ (List.mem_of_getElem? (i := 251) rfl)
theorem w_252 {Z : State} {a0 : Array Value} (hw : ∀ d ∈ tables_1, d.before a0 Z = true) : (Jvm.Cond.code ({ cls := "java/lang/StringUTF16", name := "compress", desc := "([CI[BII)I" } : Jvm.MethodName) jdk_52_method_21_code (7 : Nat) (Option.some Jvm.ClassFile.FieldType.int)).before a0 Z = true := hw _ (List.mem_of_getElem? (i := 252) rfl)
theorem w_253 {Z : State} {a0 : Array Value} (hw : ∀ d ∈ tables_1, d.before a0 Z = true) : (Jvm.Cond.methodLink "java/lang/String" (47 : Nat) ({ cls := "java/lang/StringUTF16", name := "coderFromArrayLen", desc := "([BI)B" } : Jvm.MethodName)).before a0 Z = true := hw _ (List.mem_of_getElem? (i := 253) rfl)
theorem w_254 {Z : State} {a0 : Array Value} (hw : ∀ d ∈ tables_1, d.before a0 Z = true) : (Jvm.Cond.static ({ cls := "java/lang/StringUTF16", name := "coderFromArrayLen", desc := "([BI)B" } : Jvm.MethodName)).before a0 Z = true := hw _ (List.mem_of_getElem? (i := 254) rfl)
theorem w_255 {Z : State} {a0 : Array Value} (hw : ∀ d ∈ tables_1, d.before a0 Z = true) : (Jvm.Cond.code ({ cls := "java/lang/StringUTF16", name := "coderFromArrayLen", desc := "([BI)B" } : Jvm.MethodName) jdk_52_method_15_code (2 : Nat) (Option.some Jvm.ClassFile.FieldType.byte)).before a0 Z = true := hw _ (List.mem_of_getElem? (i := 255) rfl)
theorem w_256 {Z : State} {a0 : Array Value} (hw : ∀ d ∈ tables_1, d.before a0 Z = true) : (Jvm.Cond.methodLink "com/example/slackline/slackline/TooLargeExceptionForMethodPinLaw" (41 : Nat) ({ cls := "java/lang/String", name := "valueOf", desc := "(C)Ljava/lang/String;" } : Jvm.MethodName)).before a0 Z = true := hw _ (List.mem_of_getElem? (i := 256) rfl)
theorem w_257 {Z : State} {a0 : Array Value} (hw : ∀ d ∈ tables_1, d.before a0 Z = true) : (Jvm.Cond.static ({ cls := "java/lang/String", name := "valueOf", desc := "(C)Ljava/lang/String;" } : Jvm.MethodName)).before a0 Z = true := hw _ (List.mem_of_getElem? (i := 257) rfl)
theorem w_258 {Z : State} {a0 : Array Value} (hw : ∀ d ∈ tables_1, d.before a0 Z = true) : (Jvm.Cond.code ({ cls := "java/lang/String", name := "valueOf", desc := "(C)Ljava/lang/String;" } : Jvm.MethodName) jdk_42_method_139_code (1 : Nat) (Option.some (Jvm.ClassFile.FieldType.object "java/lang/String"))).before a0 Z = true := hw _ (List.mem_of_getElem? (i := 258) rfl)
theorem w_259 {Z : State} {a0 : Array Value} (hw : ∀ d ∈ tables_1, d.before a0 Z = true) : (Jvm.Cond.methodLink "java/lang/String" (1015 : Nat) ({ cls := "java/lang/StringLatin1", name := "canEncode", desc := "(C)Z" } : Jvm.MethodName)).before a0 Z = true := hw _ (List.mem_of_getElem? (i := 259) rfl)
theorem w_260 {Z : State} {a0 : Array Value} (hw : ∀ d ∈ tables_1, d.before a0 Z = true) : (Jvm.Cond.static ({ cls := "java/lang/StringLatin1", name := "canEncode", desc := "(C)Z" } : Jvm.MethodName)).before a0 Z = true := hw _ (List.mem_of_getElem? (i := 260) rfl)
theorem w_261 {Z : State} {a0 : Array Value} (hw : ∀ d ∈ tables_1, d.before a0 Z = true) : (Jvm.Cond.code ({ cls := "java/lang/StringLatin1", name := "canEncode", desc := "(C)Z" } : Jvm.MethodName) jdk_43_method_3_code (1 : Nat) (Option.some Jvm.ClassFile.FieldType.boolean)).before a0 Z = true := hw _ (List.mem_of_getElem? (i := 261) rfl)
theorem w_262 {Z : State} {a0 : Array Value} (hw : ∀ d ∈ tables_1, d.before a0 Z = true) : (Jvm.Cond.classLink "java/lang/String" (10 : Nat) "java/lang/String").before a0 Z = true := hw _ (List.mem_of_getElem? (i := 262) rfl)
theorem w_263 {Z : State} {a0 : Array Value} (hw : ∀ d ∈ tables_1, d.before a0 Z = true) : (Jvm.Cond.methodLink "java/lang/String" (1018 : Nat) ({ cls := "java/lang/StringLatin1", name := "toBytes", desc := "(C)[B" } : Jvm.MethodName)).before a0 Z = true := hw _ (List.mem_of_getElem? (i := 263) rfl)
theorem w_264 {Z : State} {a0 : Array Value} (hw : ∀ d ∈ tables_1, d.before a0 Z = true) : (Jvm.Cond.static ({ cls := "java/lang/StringLatin1", name := "toBytes", desc := "(C)[B" } : Jvm.MethodName)).before a0 Z = true := hw _ (List.mem_of_getElem? (i := 264) rfl)
theorem w_265 {Z : State} {a0 : Array Value} (hw : ∀ d ∈ tables_1, d.before a0 Z = true) : (Jvm.Cond.code ({ cls := "java/lang/StringLatin1", name := "toBytes", desc := "(C)[B" } : Jvm.MethodName) jdk_43_method_46_code (1 : Nat) (Option.some (Jvm.ClassFile.FieldType.array Jvm.ClassFile.FieldType.byte))).before a0 Z = true := hw _ (List.mem_of_getElem? (i := 265) rfl)
theorem w_266 {Z : State} {a0 : Array Value} (hw : ∀ d ∈ tables_1, d.before a0 Z = true) : (Jvm.Cond.methodLink "java/lang/String" (209 : Nat) ({ cls := "java/lang/String", name := "<init>", desc := "([BB)V" } : Jvm.MethodName)).before a0 Z = true := hw _ (List.mem_of_getElem? (i := 266) rfl)
theorem w_267 {Z : State} {a0 : Array Value} (hw : ∀ d ∈ tables_1, d.before a0 Z = true) : (Jvm.Cond.instanceMethod ({ cls := "java/lang/String", name := "<init>", desc := "([BB)V" } : Jvm.MethodName)).before a0 Z = true := hw _ (List.mem_of_getElem? (i := 267) rfl)
theorem w_268 {Z : State} {a0 : Array Value} (hw : ∀ d ∈ tables_1, d.before a0 Z = true) : (Jvm.Cond.code ({ cls := "java/lang/String", name := "<init>", desc := "([BB)V" } : Jvm.MethodName) jdk_42_method_151_code (3 : Nat) (Option.none : Option Jvm.ClassFile.FieldType)).before a0 Z = true := hw _ (List.mem_of_getElem? (i := 268) rfl)
theorem sA {Z : State} {a0 : Array Value} (hw : ∀ d ∈ tables_1, d.before a0 Z = true) : ∀ a ∈ Bundle.stringAtoms, a.before a0 Z = true := fun a ha => by
  simp only [Bundle.stringAtoms, List.mem_cons, List.not_mem_nil, or_false] at ha
  rcases ha with rfl | rfl | rfl | rfl | rfl | rfl | rfl
  · exact w_7 hw
  · exact w_6 hw
  · exact w_20 hw
  · exact w_21 hw
  · exact w_22 hw
  · exact w_23 hw
  · exact w_24 hw
abbrev R_m_asb : Room := { frames := 1, cells := 1, slots := 16, locals := 12 }
theorem pn_m_asb : plainFor (⟨"java/lang/AbstractStringBuilder", "<init>", "(I)V"⟩ : MethodName) = true := by first | (refine plainFor_of_name ?_; simp [plainName, overriddenIn]; done) | decide +kernel
abbrev Q_m_asb (Z : State) (a : Addr) (h0 : Heap) : Option Value → Heap → List Addr → Prop := fun res h' SN => ∃ (v : Addr) (kv : ClassId), res = none ∧ SN = [v] ∧ Exa Z h' a "java/lang/StringBuilder" ∧ Fld Z h' a "java/lang/AbstractStringBuilder" "value" "[B" (.ref v) ∧ Fld Z h' a "java/lang/AbstractStringBuilder" "coder" "B" (.int (0 : Int32)) ∧ Fld Z h' a "java/lang/AbstractStringBuilder" "count" "I" (.int (0 : Int32)) ∧ h0.size ≤ v ∧ Arv Z h' v kv .byte (16 : Int32) (([] : List Int32).map Value.int) (.int (0 : Int32))
theorem ef_m_asb (mid : MethodId) (a : Addr) : entryFrame mid #[(.ref a), (.int (16 : Int32))] 2 = mkF mid 0 #[.val (.ref a), .val (.int (16 : Int32))] [] := by first | (simp [entryFrame, mkF, argsToLocals, Value.category]; done) | rfl
set_option maxRecDepth 65536 in
set_option maxHeartbeats 40000000 in
theorem m_asb {l : Launch} {Z : State} {a0 : Array Value} {n0 : Nat} (hw : ∀ d ∈ tables_1, d.before a0 Z = true) (hs : Stat Z) (a : Addr) (h0 : Heap) (E_a : Exa Z h0 a "java/lang/StringBuilder") (F_a_value : Fld Z h0 a "java/lang/AbstractStringBuilder" "value" "[B" .null) (F_a_coder : Fld Z h0 a "java/lang/AbstractStringBuilder" "coder" "B" (.int (0 : Int32))) (F_a_count : Fld Z h0 a "java/lang/AbstractStringBuilder" "count" "I" (.int (0 : Int32))) :
    Met l Z EL0 n0 NR0 KN0 N_0 jdk_68_method_2_code 2 (Option.none : Option Jvm.ClassFile.FieldType) R_m_asb [a] #[(.ref a), (.int (16 : Int32))] h0 (Q_m_asb Z a h0) := by
  refine Met.of_go pn_m_asb (fun mid => ef_m_asb mid a ) ?_
  intro hO hWS
  obtain ⟨zc, S_c, hzc⟩ := hs_c hs
  refine Go.aload_n (pc' := 1) d_jdk_68_method_2_0 rfl rfl rfl ?_
  refine Go.initO (pc' := 4) (W := 0) d_jdk_68_method_2_1 rfl (w_45 hw) (w_17 hw) (w_18 hw) rfl (by decide) (Nat.le_of_eq rfl) (by decide) ?_
  refine Go.getS (pc' := 7) d_jdk_68_method_2_4 rfl (host := "") (Or.inl (w_46 hw)) Via.refl S_c ?_
  refine Go.ifN (pc' := 10) d_jdk_68_method_2_7 rfl ((if0 _ _).trans (feq (hzc : ¬ (zc = (0 : Int32)))).1) ?_
  refine Go.aload_n (pc' := 11) d_jdk_68_method_2_10 rfl rfl rfl ?_
  refine Go.iload_n (pc' := 12) d_jdk_68_method_2_11 rfl rfl ?_
  refine Go.newP (pc' := 14) (cap := 16) (ad := "[B") d_jdk_68_method_2_12 rfl (w_20 hw) (by decide) (by decide) (by decide) (by decide) (by decide) (by decide) ?_
  intro h1 b2 g3 ge_b2 q5 x4 V_b2 E_b2
  have o_a_b2 : a ≠ b2 := Nat.ne_of_lt (Nat.lt_of_lt_of_le E_a.lt (Nat.le_of_eq g3))
  replace E_a := E_a.ext x4
  replace F_a_value := F_a_value.ext x4
  replace F_a_coder := F_a_coder.ext x4
  replace F_a_count := F_a_count.ext x4
  replace V_b2 : Arv Z h1 b2 q5 .byte (16 : Int32) [] (.int (0 : Int32)) := V_b2
  change Go _ _ _ _ _ _ _ _ _ _ _ _ _ _ [b2, a] h1 1 16 14 #[.val (.ref a), .val (.int (16 : Int32))] [(.ref b2), (.ref a)]
  replace V_b2 : Arv Z h1 b2 q5 .byte (16 : Int32) (([] : List Int32).map Value.int) (.int (0 : Int32)) := V_b2
  refine Go.putF (pc' := 17) d_jdk_68_method_2_14 rfl (List.mem_of_getElem? (i := 1) rfl) (host := "") (Or.inl (w_47 hw)) Via.refl F_a_value E_a (Or.inl (w_48 hw)) (w_34 hw) (ty := (.array .byte)) (by decide) rfl rfl ?_
  intro h6 W7
  replace F_a_value := F_a_value.same W7
  replace E_a := E_a.wr W7
  replace F_a_coder := F_a_coder.other W7 (Or.inr (slot_ne (Or.inl (w_50 hw)) (Or.inl (w_48 hw)) (by decide) (t := .byte) (t' := (.array .byte)) (by decide) (by decide)))
  replace F_a_count := F_a_count.other W7 (Or.inr (slot_ne (Or.inl (w_74 hw)) (Or.inl (w_48 hw)) (by decide) (t := .int) (t' := (.array .byte)) (by decide) (by decide)))
  replace V_b2 := V_b2.other W7 (Ne.symm o_a_b2)
  replace E_b2 := E_b2.wr W7
  change Go _ _ _ _ _ _ _ _ _ _ _ _ _ _ [b2, a] h6 1 16 17 #[.val (.ref a), .val (.int (16 : Int32))] []
  refine Go.aload_n (pc' := 18) d_jdk_68_method_2_17 rfl rfl rfl ?_
  refine Go.iconst (pc' := 19) d_jdk_68_method_2_18 rfl ic_0 ?_
  refine Go.putFN (pc' := 22) (v' := (.int (0 : Int32))) d_jdk_68_method_2_19 rfl (List.mem_of_getElem? (i := 1) rfl) (w_49 hw) Via.refl F_a_coder E_a (Or.inl (w_50 hw)) (w_34 hw) (ty := .byte) (by decide) rfl rfl ?_
  intro h8 W9
  replace F_a_coder := F_a_coder.same W9
  replace E_a := E_a.wr W9
  replace F_a_count := F_a_count.other W9 (Or.inr (slot_ne (Or.inl (w_74 hw)) (Or.inl (w_50 hw)) (by decide) (t := .int) (t' := .byte) (by decide) (by decide)))
  replace V_b2 := V_b2.other W9 (Ne.symm o_a_b2)
  replace E_b2 := E_b2.wr W9
  replace F_a_value := F_a_value.other W9 (Or.inr (slot_ne (Or.inl (w_48 hw)) (Or.inl (w_50 hw)) (by decide) (t := (.array .byte)) (t' := .byte) (by decide) (by decide)))
  change Go _ _ _ _ _ _ _ _ _ _ _ _ _ _ [b2, a] h8 1 16 22 #[.val (.ref a), .val (.int (16 : Int32))] []
  refine Go.goto (pc' := 38) d_jdk_68_method_2_22 (by decide) (by decide) ?_
  exact Go.retV d_jdk_68_method_2_38 rfl (by decide) (by decide) [b2] (snS ⟨(List.mem_of_getElem? (i := 0) rfl), ge_b2⟩ sn0) ⟨b2, _, rfl, rfl, E_a, F_a_value, F_a_coder, F_a_count, ge_b2, V_b2⟩
abbrev R_m_sb : Room := { frames := 2, cells := 1, slots := 16, locals := 25 }
theorem pn_m_sb : plainFor (⟨"java/lang/StringBuilder", "<init>", "()V"⟩ : MethodName) = true := by first | (refine plainFor_of_name ?_; simp [plainName, overriddenIn]; done) | decide +kernel
abbrev Q_m_sb (Z : State) (a : Addr) (h0 : Heap) : Option Value → Heap → List Addr → Prop := fun res h' SN => ∃ (v : Addr) (kv : ClassId), res = none ∧ SN = [v] ∧ Exa Z h' a "java/lang/StringBuilder" ∧ Fld Z h' a "java/lang/AbstractStringBuilder" "value" "[B" (.ref v) ∧ Fld Z h' a "java/lang/AbstractStringBuilder" "coder" "B" (.int (0 : Int32)) ∧ Fld Z h' a "java/lang/AbstractStringBuilder" "count" "I" (.int (0 : Int32)) ∧ h0.size ≤ v ∧ Arv Z h' v kv .byte (16 : Int32) (([] : List Int32).map Value.int) (.int (0 : Int32))
theorem ef_m_sb (mid : MethodId) (a : Addr) : entryFrame mid #[(.ref a)] 1 = mkF mid 0 #[.val (.ref a)] [] := by first | (simp [entryFrame, mkF, argsToLocals, Value.category]; done) | rfl
set_option maxRecDepth 65536 in
set_option maxHeartbeats 40000000 in
theorem m_sb {l : Launch} {Z : State} {a0 : Array Value} {n0 : Nat} (hw : ∀ d ∈ tables_1, d.before a0 Z = true) (hs : Stat Z) (a : Addr) (h0 : Heap) (E_a : Exa Z h0 a "java/lang/StringBuilder") (F_a_value : Fld Z h0 a "java/lang/AbstractStringBuilder" "value" "[B" .null) (F_a_coder : Fld Z h0 a "java/lang/AbstractStringBuilder" "coder" "B" (.int (0 : Int32))) (F_a_count : Fld Z h0 a "java/lang/AbstractStringBuilder" "count" "I" (.int (0 : Int32))) :
    Met l Z EL0 n0 NR0 KN0 N_1 jdk_67_method_1_code 1 (Option.none : Option Jvm.ClassFile.FieldType) R_m_sb [a] #[(.ref a)] h0 (Q_m_sb Z a h0) := by
  refine Met.of_go pn_m_sb (fun mid => ef_m_sb mid a ) ?_
  intro hO hWS
  refine Go.aload_n (pc' := 1) d_jdk_67_method_1_0 rfl rfl rfl ?_
  refine Go.bipush (pc' := 3) d_jdk_67_method_1_1 rfl icb_16 ?_
  refine Go.callI (pc' := 6) (z := N_0) (a := a) d_jdk_67_method_1_3 rfl rfl (w_39 hw) (w_40 hw) (w_44 hw) (by decide) (argsL := [(.int (16 : Int32))]) (rest := []) (Pays.of_met (W := 0) (len := 3) (m_asb hw hs a h0 E_a F_a_value F_a_coder F_a_count) (w_44 hw) (w_43 hw) (by decide) (by decide)) rfl rfl (lenOf pd_0 rfl) rfl (Nat.le_of_eq rfl) (memS (List.mem_of_getElem? (i := 0) rfl) mem0) (by decide) (by decide) ?_
  rintro _ h12 _ K13 le14 ⟨b10, q11, rfl, rfl, p15, p16, p17, p18, p19, p20⟩
  have o_a_b10 : a ≠ b10 := Nat.ne_of_lt (Nat.lt_of_lt_of_le E_a.lt p19)
  have ge_b10 := Nat.le_trans le14 p19
  replace E_a := E_a.keep K13
  have F_a_value := p16
  have F_a_coder := p17
  have F_a_count := p18
  have V_b10 := p20
  change Go _ _ _ _ _ _ _ _ _ _ _ _ _ _ [b10, a] h12 1 16 6 #[.val (.ref a)] []
  exact Go.retV d_jdk_67_method_1_6 rfl (by decide) (by decide) [b10] (snS ⟨(List.mem_of_getElem? (i := 0) rfl), ge_b10⟩ sn0) ⟨b10, _, rfl, rfl, E_a, F_a_value, F_a_coder, F_a_count, ge_b10, V_b10⟩
abbrev R_m_max : Room := { frames := 0, cells := 0, slots := 0, locals := 0 }
theorem pn_m_max : plainFor (⟨"java/lang/Math", "max", "(II)I"⟩ : MethodName) = true := by first | (refine plainFor_of_name ?_; simp [plainName, overriddenIn]; done) | decide +kernel
abbrev Q_m_max (Z : State) (x : Int32) (z : Int32) (h0 : Heap) : Option Value → Heap → List Addr → Prop := fun res h' SN => res = some (.int (if x < z then z else x)) ∧ SN = [] ∧ h0 = h'
theorem ef_m_max (mid : MethodId) (x : Int32) (z : Int32) : entryFrame mid #[(.int x), (.int z)] 2 = mkF mid 0 #[.val (.int x), .val (.int z)] [] := by first | (simp [entryFrame, mkF, argsToLocals, Value.category]; done) | rfl
set_option maxRecDepth 65536 in
set_option maxHeartbeats 40000000 in
theorem m_max {l : Launch} {Z : State} {a0 : Array Value} {n0 : Nat} (hw : ∀ d ∈ tables_1, d.before a0 Z = true) (hs : Stat Z) (x : Int32) (z : Int32) (h0 : Heap) :
    Met l Z EL0 n0 NR0 KN0 N_2 jdk_29_method_65_code 2 (Option.some Jvm.ClassFile.FieldType.int) R_m_max [] #[(.int x), (.int z)] h0 (Q_m_max Z x z h0) := by
  refine Met.of_go pn_m_max (fun mid => ef_m_max mid x z ) ?_
  intro hO hWS
  refine Go.iload_n (pc' := 1) d_jdk_29_method_65_0 rfl rfl ?_
  refine Go.iload_n (pc' := 2) d_jdk_29_method_65_1 rfl rfl ?_
  by_cases h1 : x < z
  · skip
    refine Go.icmpY (pc' := 9) d_jdk_29_method_65_2 (by decide) (by decide) (tlt (h1 : x < z)).1 ?_
    refine Go.iload_n (pc' := 10) d_jdk_29_method_65_9 rfl rfl ?_
    exact Go.retI d_jdk_29_method_65_10 rfl (by decide) (by decide) [] sn0 ⟨by rw [if_pos h1], rfl, rfl⟩
  · skip
    refine Go.icmpN (pc' := 5) d_jdk_29_method_65_2 rfl (flt (h1 : ¬ (x < z))).1 ?_
    refine Go.iload_n (pc' := 6) d_jdk_29_method_65_5 rfl rfl ?_
    refine Go.goto (pc' := 10) d_jdk_29_method_65_6 (by decide) (by decide) ?_
    exact Go.retI d_jdk_29_method_65_10 rfl (by decide) (by decide) [] sn0 ⟨by rw [if_neg h1], rfl, rfl⟩
abbrev R_m_min : Room := { frames := 0, cells := 0, slots := 0, locals := 0 }
theorem pn_m_min : plainFor (⟨"java/lang/Math", "min", "(II)I"⟩ : MethodName) = true := by first | (refine plainFor_of_name ?_; simp [plainName, overriddenIn]; done) | decide +kernel
abbrev Q_m_min (Z : State) (x : Int32) (z : Int32) (h0 : Heap) : Option Value → Heap → List Addr → Prop := fun res h' SN => res = some (.int (if z < x then z else x)) ∧ SN = [] ∧ h0 = h'
theorem ef_m_min (mid : MethodId) (x : Int32) (z : Int32) : entryFrame mid #[(.int x), (.int z)] 2 = mkF mid 0 #[.val (.int x), .val (.int z)] [] := by first | (simp [entryFrame, mkF, argsToLocals, Value.category]; done) | rfl
set_option maxRecDepth 65536 in
set_option maxHeartbeats 40000000 in
theorem m_min {l : Launch} {Z : State} {a0 : Array Value} {n0 : Nat} (hw : ∀ d ∈ tables_1, d.before a0 Z = true) (hs : Stat Z) (x : Int32) (z : Int32) (h0 : Heap) :
    Met l Z EL0 n0 NR0 KN0 N_3 jdk_29_method_69_code 2 (Option.some Jvm.ClassFile.FieldType.int) R_m_min [] #[(.int x), (.int z)] h0 (Q_m_min Z x z h0) := by
  refine Met.of_go pn_m_min (fun mid => ef_m_min mid x z ) ?_
  intro hO hWS
  refine Go.iload_n (pc' := 1) d_jdk_29_method_69_0 rfl rfl ?_
  refine Go.iload_n (pc' := 2) d_jdk_29_method_69_1 rfl rfl ?_
  by_cases h1 : z < x
  · skip
    refine Go.icmpY (pc' := 9) d_jdk_29_method_69_2 (by decide) (by decide) (tlt (h1 : z < x)).2.2.1 ?_
    refine Go.iload_n (pc' := 10) d_jdk_29_method_69_9 rfl rfl ?_
    exact Go.retI d_jdk_29_method_69_10 rfl (by decide) (by decide) [] sn0 ⟨by rw [if_pos h1], rfl, rfl⟩
  · skip
    refine Go.icmpN (pc' := 5) d_jdk_29_method_69_2 rfl (flt (h1 : ¬ (z < x))).2.2.1 ?_
    refine Go.iload_n (pc' := 6) d_jdk_29_method_69_5 rfl rfl ?_
    refine Go.goto (pc' := 10) d_jdk_29_method_69_6 (by decide) (by decide) ?_
    exact Go.retI d_jdk_29_method_69_10 rfl (by decide) (by decide) [] sn0 ⟨by rw [if_neg h1], rfl, rfl⟩
abbrev R_m_ec0 : Room := { frames := 0, cells := 0, slots := 0, locals := 0 }
theorem pn_m_ec0 : plainFor (⟨"java/lang/AbstractStringBuilder", "ensureCapacityInternal", "(I)V"⟩ : MethodName) = true := by first | (refine plainFor_of_name ?_; simp [plainName, overriddenIn]; done) | decide +kernel
abbrev Q_m_ec0 (Z : State) (a : Addr) (v : Addr) (kv : ClassId) (us : List Int32) (m : Int32) (h0 : Heap) : Option Value → Heap → List Addr → Prop := fun res h' SN => res = none ∧ SN = [] ∧ h0 = h'
theorem ef_m_ec0 (mid : MethodId) (a : Addr) (v : Addr) (kv : ClassId) (us : List Int32) (m : Int32) : entryFrame mid #[(.ref a), (.int m)] 3 = mkF mid 0 #[.val (.ref a), .val (.int m), .unset] [] := by first | (simp [entryFrame, mkF, argsToLocals, Value.category]; done) | rfl
set_option maxRecDepth 65536 in
set_option maxHeartbeats 40000000 in
theorem m_ec0 {l : Launch} {Z : State} {a0 : Array Value} {n0 : Nat} (hw : ∀ d ∈ tables_1, d.before a0 Z = true) (hs : Stat Z) (a : Addr) (v : Addr) (kv : ClassId) (us : List Int32) (m : Int32) (h0 : Heap) (F_a_value : Fld Z h0 a "java/lang/AbstractStringBuilder" "value" "[B" (.ref v)) (F_a_coder : Fld Z h0 a "java/lang/AbstractStringBuilder" "coder" "B" (.int (0 : Int32))) (V_v : Arv Z h0 v kv .byte (34 : Int32) (us.map Value.int) (.int (0 : Int32))) (hm : ¬ ((0 : Int32) < (m - (34 : Int32)))) :
    Met l Z EL0 n0 NR0 KN0 N_4 jdk_68_method_9_code 3 (Option.none : Option Jvm.ClassFile.FieldType) R_m_ec0 [] #[(.ref a), (.int m)] h0 (Q_m_ec0 Z a v kv us m h0) := by
  refine Met.of_go pn_m_ec0 (fun mid => ef_m_ec0 mid a v kv us m ) ?_
  intro hO hWS
  refine Go.aload_n (pc' := 1) d_jdk_68_method_9_0 rfl rfl rfl ?_
  refine Go.getF (pc' := 4) d_jdk_68_method_9_1 rfl (host := "") (Or.inl (w_47 hw)) Via.refl F_a_value ?_
  refine Go.lenV (pc' := 5) d_jdk_68_method_9_4 rfl V_v ?_
  refine Go.aload_n (pc' := 6) d_jdk_68_method_9_5 rfl rfl rfl ?_
  refine Go.getF (pc' := 9) d_jdk_68_method_9_6 rfl (host := "") (Or.inl (w_49 hw)) Via.refl F_a_coder ?_
  refine Go.ishr (pc' := 10) d_jdk_68_method_9_9 rfl ?_
  rw [show ((34 : Int32) >>> ((0 : Int32) &&& 31)) = (34 : Int32) from by decide]
  refine Go.istore_n (pc' := 11) (Ls' := #[.val (.ref a), .val (.int m), .val (.int (34 : Int32))]) d_jdk_68_method_9_10 rfl rfl ?_
  refine Go.iload_n (pc' := 12) d_jdk_68_method_9_11 rfl rfl ?_
  refine Go.iload_n (pc' := 13) d_jdk_68_method_9_12 rfl rfl ?_
  refine Go.isub (pc' := 14) d_jdk_68_method_9_13 rfl ?_
  refine Go.ifY (pc' := 38) d_jdk_68_method_9_14 (by decide) (by decide) ((if0 _ _).trans (flt (hm : ¬ ((0 : Int32) < (m - (34 : Int32))))).2.2.2) ?_
  exact Go.retV d_jdk_68_method_9_38 rfl (by decide) (by decide) [] sn0 ⟨rfl, rfl, rfl⟩
abbrev R_m_nl : Room := { frames := 1, cells := 0, slots := 0, locals := 14 }
theorem pn_m_nl : plainFor (⟨"jdk/internal/util/ArraysSupport", "newLength", "(III)I"⟩ : MethodName) = true := by first | (refine plainFor_of_name ?_; simp [plainName, overriddenIn]; done) | decide +kernel
abbrev Q_m_nl (Z : State)  (h0 : Heap) : Option Value → Heap → List Addr → Prop := fun res h' SN => res = some (.int (34 : Int32)) ∧ SN = [] ∧ h0 = h'
theorem ef_m_nl (mid : MethodId)  : entryFrame mid #[(.int (16 : Int32)), (.int (6 : Int32)), (.int (18 : Int32))] 4 = mkF mid 0 #[.val (.int (16 : Int32)), .val (.int (6 : Int32)), .val (.int (18 : Int32)), .unset] [] := by first | (simp [entryFrame, mkF, argsToLocals, Value.category]; done) | rfl
set_option maxRecDepth 65536 in
set_option maxHeartbeats 40000000 in
theorem m_nl {l : Launch} {Z : State} {a0 : Array Value} {n0 : Nat} (hw : ∀ d ∈ tables_1, d.before a0 Z = true) (hs : Stat Z) (h0 : Heap) :
    Met l Z EL0 n0 NR0 KN0 N_5 jdk_48_method_27_code 4 (Option.some Jvm.ClassFile.FieldType.int) R_m_nl [] #[(.int (16 : Int32)), (.int (6 : Int32)), (.int (18 : Int32))] h0 (Q_m_nl Z  h0) := by
  refine Met.of_go pn_m_nl (fun mid => ef_m_nl mid  ) ?_
  intro hO hWS
  refine Go.iload_n (pc' := 1) d_jdk_48_method_27_0 rfl rfl ?_
  refine Go.iload_n (pc' := 2) d_jdk_48_method_27_1 rfl rfl ?_
  refine Go.iload_n (pc' := 3) d_jdk_48_method_27_2 rfl rfl ?_
  refine Go.callS (pc' := 6) (z := N_2) d_jdk_48_method_27_3 rfl (w_89 hw) (w_90 hw) (w_91 hw) (w_92 hw) (by decide) (argsL := [(.int (6 : Int32)), (.int (18 : Int32))]) (rest := [(.int (16 : Int32))]) (Pays.of_met (W := 1) (len := 3) (m_max hw hs (6 : Int32) (18 : Int32) h0) (w_92 hw) (w_91 hw) (by decide) (by decide)) rfl rfl (lenOf pd_1 rfl) rfl (Nat.le_of_eq rfl) mem0 (by decide) (by decide) ?_
  rintro _ _ _ - - ⟨rfl, rfl, rfl⟩
  change Go _ _ _ _ _ _ _ _ _ _ _ _ _ _ [] h0 0 0 6 #[.val (.int (16 : Int32)), .val (.int (6 : Int32)), .val (.int (18 : Int32)), .unset] [(.int (if (6 : Int32) < (18 : Int32) then (18 : Int32) else (6 : Int32))), (.int (16 : Int32))]
  rw [show (if (6 : Int32) < (18 : Int32) then (18 : Int32) else (6 : Int32)) = (18 : Int32) from by decide]
  refine Go.iadd (pc' := 7) d_jdk_48_method_27_6 rfl ?_
  rw [show ((16 : Int32) + (18 : Int32)) = (34 : Int32) from by decide]
  refine Go.istore_n (pc' := 8) (Ls' := #[.val (.int (16 : Int32)), .val (.int (6 : Int32)), .val (.int (18 : Int32)), .val (.int (34 : Int32))]) d_jdk_48_method_27_7 rfl rfl ?_
  refine Go.iconst (pc' := 9) d_jdk_48_method_27_8 rfl ic_0 ?_
  refine Go.iload_n (pc' := 10) d_jdk_48_method_27_9 rfl rfl ?_
  refine Go.icmpN (pc' := 13) d_jdk_48_method_27_10 rfl (tlt (by decide : (0 : Int32) < (34 : Int32))).2.1 ?_
  refine Go.iload_n (pc' := 14) d_jdk_48_method_27_13 rfl rfl ?_
  refine Go.ldcInt (pc' := 16) d_jdk_48_method_27_14 rfl (w_93 hw) ?_
  refine Go.icmpN (pc' := 19) d_jdk_48_method_27_16 rfl (flt (by decide : ¬ ((2147483639 : Int32) < (34 : Int32)))).2.2.1 ?_
  refine Go.iload_n (pc' := 20) d_jdk_48_method_27_19 rfl rfl ?_
  exact Go.retI d_jdk_48_method_27_20 rfl (by decide) (by decide) [] sn0 ⟨rfl, rfl, rfl⟩
abbrev R_m_nc : Room := { frames := 2, cells := 0, slots := 0, locals := 29 }
theorem pn_m_nc : plainFor (⟨"java/lang/AbstractStringBuilder", "newCapacity", "(I)I"⟩ : MethodName) = true := by first | (refine plainFor_of_name ?_; simp [plainName, overriddenIn]; done) | decide +kernel
abbrev Q_m_nc (Z : State) (a : Addr) (v : Addr) (kv : ClassId) (us : List Int32) (h0 : Heap) : Option Value → Heap → List Addr → Prop := fun res h' SN => res = some (.int (34 : Int32)) ∧ SN = [] ∧ h0 = h'
theorem ef_m_nc (mid : MethodId) (a : Addr) (v : Addr) (kv : ClassId) (us : List Int32) : entryFrame mid #[(.ref a), (.int (22 : Int32))] 6 = mkF mid 0 #[.val (.ref a), .val (.int (22 : Int32)), .unset, .unset, .unset, .unset] [] := by first | (simp [entryFrame, mkF, argsToLocals, Value.category]; done) | rfl
set_option maxRecDepth 65536 in
set_option maxHeartbeats 40000000 in
theorem m_nc {l : Launch} {Z : State} {a0 : Array Value} {n0 : Nat} (hw : ∀ d ∈ tables_1, d.before a0 Z = true) (hs : Stat Z) (a : Addr) (v : Addr) (kv : ClassId) (us : List Int32) (h0 : Heap) (F_a_value : Fld Z h0 a "java/lang/AbstractStringBuilder" "value" "[B" (.ref v)) (F_a_coder : Fld Z h0 a "java/lang/AbstractStringBuilder" "coder" "B" (.int (0 : Int32))) (V_v : Arv Z h0 v kv .byte (16 : Int32) (us.map Value.int) (.int (0 : Int32))) :
    Met l Z EL0 n0 NR0 KN0 N_6 jdk_68_method_10_code 6 (Option.some Jvm.ClassFile.FieldType.int) R_m_nc [] #[(.ref a), (.int (22 : Int32))] h0 (Q_m_nc Z a v kv us h0) := by
  refine Met.of_go pn_m_nc (fun mid => ef_m_nc mid a v kv us ) ?_
  intro hO hWS
  refine Go.aload_n (pc' := 1) d_jdk_68_method_10_0 rfl rfl rfl ?_
  refine Go.getF (pc' := 4) d_jdk_68_method_10_1 rfl (host := "") (Or.inl (w_47 hw)) Via.refl F_a_value ?_
  refine Go.lenV (pc' := 5) d_jdk_68_method_10_4 rfl V_v ?_
  refine Go.istore_n (pc' := 6) (Ls' := #[.val (.ref a), .val (.int (22 : Int32)), .val (.int (16 : Int32)), .unset, .unset, .unset]) d_jdk_68_method_10_5 rfl rfl ?_
  refine Go.iload_n (pc' := 7) d_jdk_68_method_10_6 rfl rfl ?_
  refine Go.aload_n (pc' := 8) d_jdk_68_method_10_7 rfl rfl rfl ?_
  refine Go.getF (pc' := 11) d_jdk_68_method_10_8 rfl (host := "") (Or.inl (w_49 hw)) Via.refl F_a_coder ?_
  refine Go.ishl (pc' := 12) d_jdk_68_method_10_11 rfl ?_
  rw [show ((22 : Int32) <<< ((0 : Int32) &&& 31)) = (22 : Int32) from by decide]
  refine Go.istore_n (pc' := 13) (Ls' := #[.val (.ref a), .val (.int (22 : Int32)), .val (.int (16 : Int32)), .val (.int (22 : Int32)), .unset, .unset]) d_jdk_68_method_10_12 rfl rfl ?_
  refine Go.iload_n (pc' := 14) d_jdk_68_method_10_13 rfl rfl ?_
  refine Go.iload_n (pc' := 15) d_jdk_68_method_10_14 rfl rfl ?_
  refine Go.isub (pc' := 16) d_jdk_68_method_10_15 rfl ?_
  rw [show ((22 : Int32) - (16 : Int32)) = (6 : Int32) from by decide]
  refine Go.istore (pc' := 18) (Ls' := #[.val (.ref a), .val (.int (22 : Int32)), .val (.int (16 : Int32)), .val (.int (22 : Int32)), .val (.int (6 : Int32)), .unset]) d_jdk_68_method_10_16 rfl rfl ?_
  refine Go.iload_n (pc' := 19) d_jdk_68_method_10_18 rfl rfl ?_
  refine Go.iload (pc' := 21) d_jdk_68_method_10_19 rfl rfl ?_
  refine Go.iload_n (pc' := 22) d_jdk_68_method_10_21 rfl rfl ?_
  refine Go.iconst (pc' := 23) d_jdk_68_method_10_22 rfl ic_2 ?_
  refine Go.aload_n (pc' := 24) d_jdk_68_method_10_23 rfl rfl rfl ?_
  refine Go.getF (pc' := 27) d_jdk_68_method_10_24 rfl (host := "") (Or.inl (w_49 hw)) Via.refl F_a_coder ?_
  refine Go.ishl (pc' := 28) d_jdk_68_method_10_27 rfl ?_
  rw [show ((2 : Int32) <<< ((0 : Int32) &&& 31)) = (2 : Int32) from by decide]
  refine Go.iadd (pc' := 29) d_jdk_68_method_10_28 rfl ?_
  rw [show ((16 : Int32) + (2 : Int32)) = (18 : Int32) from by decide]
  refine Go.callS (pc' := 32) (z := N_5) d_jdk_68_method_10_29 rfl (w_85 hw) (w_86 hw) (w_87 hw) (w_88 hw) (by decide) (argsL := [(.int (16 : Int32)), (.int (6 : Int32)), (.int (18 : Int32))]) (rest := []) (Pays.of_met (W := 0) (len := 3) (m_nl hw hs  h0) (w_88 hw) (w_87 hw) (by decide) (by decide)) rfl rfl (lenOf pd_2 rfl) rfl (Nat.le_of_eq rfl) mem0 (by decide) (by decide) ?_
  rintro _ _ _ - - ⟨rfl, rfl, rfl⟩
  change Go _ _ _ _ _ _ _ _ _ _ _ _ _ _ [] h0 0 0 32 #[.val (.ref a), .val (.int (22 : Int32)), .val (.int (16 : Int32)), .val (.int (22 : Int32)), .val (.int (6 : Int32)), .unset] [(.int (34 : Int32))]
  refine Go.istore (pc' := 34) (Ls' := #[.val (.ref a), .val (.int (22 : Int32)), .val (.int (16 : Int32)), .val (.int (22 : Int32)), .val (.int (6 : Int32)), .val (.int (34 : Int32))]) d_jdk_68_method_10_32 rfl rfl ?_
  refine Go.iload (pc' := 36) d_jdk_68_method_10_34 rfl rfl ?_
  refine Go.ldcInt (pc' := 38) d_jdk_68_method_10_36 rfl (w_94 hw) ?_
  refine Go.icmpY (pc' := 51) d_jdk_68_method_10_38 (by decide) (by decide) (feq (by decide : ¬ ((34 : Int32) = (2147483647 : Int32)))).2 ?_
  refine Go.iload (pc' := 53) d_jdk_68_method_10_51 rfl rfl ?_
  refine Go.aload_n (pc' := 54) d_jdk_68_method_10_53 rfl rfl rfl ?_
  refine Go.getF (pc' := 57) d_jdk_68_method_10_54 rfl (host := "") (Or.inl (w_49 hw)) Via.refl F_a_coder ?_
  refine Go.ishr (pc' := 58) d_jdk_68_method_10_57 rfl ?_
  rw [show ((34 : Int32) >>> ((0 : Int32) &&& 31)) = (34 : Int32) from by decide]
  exact Go.retI d_jdk_68_method_10_58 rfl (by decide) (by decide) [] sn0 ⟨rfl, rfl, rfl⟩
abbrev R_m_cpb : Room := { frames := 1, cells := 1, slots := 34, locals := 24 }
theorem pn_m_cpb : plainFor (⟨"java/util/Arrays", "copyOf", "([BI)[B"⟩ : MethodName) = true := by first | (refine plainFor_of_name ?_; simp [plainName, overriddenIn]; done) | decide +kernel
abbrev Q_m_cpb (Z : State) (v : Addr) (kv : ClassId) (h0 : Heap) : Option Value → Heap → List Addr → Prop := fun res h' SN => ∃ (nb : Addr) (kb : ClassId), res = some (.ref nb) ∧ SN = [nb] ∧ h0.size ≤ nb ∧ Arv Z h' nb kb .byte (34 : Int32) (([] : List Int32).map Value.int) (.int (0 : Int32))
theorem ef_m_cpb (mid : MethodId) (v : Addr) (kv : ClassId) : entryFrame mid #[(.ref v), (.int (34 : Int32))] 3 = mkF mid 0 #[.val (.ref v), .val (.int (34 : Int32)), .unset] [] := by first | (simp [entryFrame, mkF, argsToLocals, Value.category]; done) | rfl
set_option maxRecDepth 65536 in
set_option maxHeartbeats 40000000 in
theorem m_cpb {l : Launch} {Z : State} {a0 : Array Value} {n0 : Nat} (hw : ∀ d ∈ tables_1, d.before a0 Z = true) (hs : Stat Z) (v : Addr) (kv : ClassId) (h0 : Heap) (V_v : Arv Z h0 v kv .byte (16 : Int32) (([] : List Int32).map Value.int) (.int (0 : Int32))) :
    Met l Z EL0 n0 NR0 KN0 N_7 jdk_65_method_121_code 3 (Option.some (Jvm.ClassFile.FieldType.array Jvm.ClassFile.FieldType.byte)) R_m_cpb [] #[(.ref v), (.int (34 : Int32))] h0 (Q_m_cpb Z v kv h0) := by
  refine Met.of_go pn_m_cpb (fun mid => ef_m_cpb mid v kv ) ?_
  intro hO hWS
  replace V_v : Arv Z h0 v kv .byte (16 : Int32) (List.replicate 16 (.int (0 : Int32))) (.int (0 : Int32)) := V_v.pad (pad_rep [] _ 16)
  refine Go.iload_n (pc' := 1) d_jdk_65_method_121_0 rfl rfl ?_
  refine Go.aload_n (pc' := 2) d_jdk_65_method_121_1 rfl rfl rfl ?_
  refine Go.lenV (pc' := 3) d_jdk_65_method_121_2 rfl V_v ?_
  refine Go.icmpY (pc' := 14) d_jdk_65_method_121_3 (by decide) (by decide) (feq (by decide : ¬ ((34 : Int32) = (16 : Int32)))).2 ?_
  refine Go.iload_n (pc' := 15) d_jdk_65_method_121_14 rfl rfl ?_
  refine Go.newP (pc' := 17) (cap := 34) (ad := "[B") d_jdk_65_method_121_15 rfl (w_20 hw) (by decide) (by decide) (by decide) (by decide) (by decide) (by decide) ?_
  intro h21 b22 g23 ge_b22 q25 x24 V_b22 E_b22
  have o_v_b22 : v ≠ b22 := Nat.ne_of_lt (Nat.lt_of_lt_of_le V_v.lt (Nat.le_of_eq g23))
  replace V_v := V_v.ext x24
  replace V_b22 : Arv Z h21 b22 q25 .byte (34 : Int32) [] (.int (0 : Int32)) := V_b22
  change Go _ _ _ _ _ _ _ _ _ _ _ _ _ _ [b22] h21 1 34 17 #[.val (.ref v), .val (.int (34 : Int32)), .unset] [(.ref b22)]
  replace V_b22 : Arv Z h21 b22 q25 .byte (34 : Int32) (List.replicate 34 (.int (0 : Int32))) (.int (0 : Int32)) := V_b22.pad (pad_rep [] _ 34)
  refine Go.astore_n (pc' := 18) (Ls' := #[.val (.ref v), .val (.int (34 : Int32)), .val (.ref b22)]) d_jdk_65_method_121_17 rfl rfl rfl ?_
  refine Go.aload_n (pc' := 19) d_jdk_65_method_121_18 rfl rfl rfl ?_
  refine Go.iconst (pc' := 20) d_jdk_65_method_121_19 rfl ic_0 ?_
  refine Go.aload_n (pc' := 21) d_jdk_65_method_121_20 rfl rfl rfl ?_
  refine Go.iconst (pc' := 22) d_jdk_65_method_121_21 rfl ic_0 ?_
  refine Go.aload_n (pc' := 23) d_jdk_65_method_121_22 rfl rfl rfl ?_
  refine Go.lenV (pc' := 24) d_jdk_65_method_121_23 rfl V_v ?_
  refine Go.iload_n (pc' := 25) d_jdk_65_method_121_24 rfl rfl ?_
  refine Go.callS (pc' := 28) (z := N_3) d_jdk_65_method_121_25 rfl (w_99 hw) (w_100 hw) (w_91 hw) (w_101 hw) (by decide) (argsL := [(.int (16 : Int32)), (.int (34 : Int32))]) (rest := [(.int (0 : Int32)), (.ref b22), (.int (0 : Int32)), (.ref v)]) (Pays.of_met (W := 4) (len := 3) (m_min hw hs (16 : Int32) (34 : Int32) h21) (w_101 hw) (w_91 hw) (by decide) (by decide)) rfl rfl (lenOf pd_1 rfl) rfl (Nat.le_of_eq rfl) mem0 (by decide) (by decide) ?_
  rintro _ _ _ - - ⟨rfl, rfl, rfl⟩
  change Go _ _ _ _ _ _ _ _ _ _ _ _ _ _ [b22] h21 1 34 28 #[.val (.ref v), .val (.int (34 : Int32)), .val (.ref b22)] [(.int (if (34 : Int32) < (16 : Int32) then (34 : Int32) else (16 : Int32))), (.int (0 : Int32)), (.ref b22), (.int (0 : Int32)), (.ref v)]
  rw [show (if (34 : Int32) < (16 : Int32) then (34 : Int32) else (16 : Int32)) = (16 : Int32) from by decide]
  refine Go.cpA (pc' := 31) (W := 0) (us := (List.replicate 16 (.int (0 : Int32)))) d_jdk_65_method_121_28 rfl (List.mem_of_getElem? (i := 0) rfl) (w_102 hw) (w_105 hw) (w_103 hw) (w_104 hw) V_v V_b22 (Or.inl ⟨rfl, rfl⟩) (by first | decide | exact Nat.le_of_ble_eq_true rfl) (by first | decide | exact Nat.le_of_ble_eq_true rfl) (by first | decide | exact Nat.le_of_ble_eq_true rfl) (by first | decide | exact Nat.le_of_ble_eq_true rfl) (by first | decide | exact Nat.le_of_ble_eq_true rfl) rfl (by first | decide | exact Nat.le_of_ble_eq_true rfl) rfl (by decide) (Nat.le_of_eq rfl) (by decide) ?_
  intro h26 K27 V_b22'
  replace V_v := V_v.keep K27 (ninS o_v_b22 nin0)
  replace E_b22 := E_b22.keep K27
  replace V_b22 : Arv Z h26 b22 q25 .byte (34 : Int32) (List.replicate 34 (.int (0 : Int32))) (.int (0 : Int32)) := V_b22'
  change Go _ _ _ _ _ _ _ _ _ _ _ _ _ _ [b22] h26 1 34 31 #[.val (.ref v), .val (.int (34 : Int32)), .val (.ref b22)] []
  refine Go.aload_n (pc' := 32) d_jdk_65_method_121_31 rfl rfl rfl ?_
  exact Go.retA d_jdk_65_method_121_32 rfl rfl rfl (by decide) (by decide) [b22] (snS ⟨(List.mem_of_getElem? (i := 0) rfl), ge_b22⟩ sn0) ⟨b22, _, rfl, rfl, ge_b22, V_b22.pad (fun i => (pad_rep [] _ 34 i).symm)⟩
abbrev R_m_ec1 : Room := { frames := 3, cells := 1, slots := 34, locals := 48 }
theorem pn_m_ec1 : plainFor (⟨"java/lang/AbstractStringBuilder", "ensureCapacityInternal", "(I)V"⟩ : MethodName) = true := by first | (refine plainFor_of_name ?_; simp [plainName, overriddenIn]; done) | decide +kernel
abbrev Q_m_ec1 (Z : State) (a : Addr) (v : Addr) (kv : ClassId) (h0 : Heap) : Option Value → Heap → List Addr → Prop := fun res h' SN => ∃ (nb : Addr) (kb : ClassId), res = none ∧ SN = [nb] ∧ Exa Z h' a "java/lang/StringBuilder" ∧ Fld Z h' a "java/lang/AbstractStringBuilder" "value" "[B" (.ref nb) ∧ Fld Z h' a "java/lang/AbstractStringBuilder" "coder" "B" (.int (0 : Int32)) ∧ Fld Z h' a "java/lang/AbstractStringBuilder" "count" "I" (.int (0 : Int32)) ∧ h0.size ≤ nb ∧ Arv Z h' nb kb .byte (34 : Int32) (([] : List Int32).map Value.int) (.int (0 : Int32))
theorem ef_m_ec1 (mid : MethodId) (a : Addr) (v : Addr) (kv : ClassId) : entryFrame mid #[(.ref a), (.int (22 : Int32))] 3 = mkF mid 0 #[.val (.ref a), .val (.int (22 : Int32)), .unset] [] := by first | (simp [entryFrame, mkF, argsToLocals, Value.category]; done) | rfl
set_option maxRecDepth 65536 in
set_option maxHeartbeats 40000000 in
theorem m_ec1 {l : Launch} {Z : State} {a0 : Array Value} {n0 : Nat} (hw : ∀ d ∈ tables_1, d.before a0 Z = true) (hs : Stat Z) (a : Addr) (v : Addr) (kv : ClassId) (h0 : Heap) (E_a : Exa Z h0 a "java/lang/StringBuilder") (F_a_value : Fld Z h0 a "java/lang/AbstractStringBuilder" "value" "[B" (.ref v)) (F_a_coder : Fld Z h0 a "java/lang/AbstractStringBuilder" "coder" "B" (.int (0 : Int32))) (F_a_count : Fld Z h0 a "java/lang/AbstractStringBuilder" "count" "I" (.int (0 : Int32))) (V_v : Arv Z h0 v kv .byte (16 : Int32) (([] : List Int32).map Value.int) (.int (0 : Int32))) (ne_v_a : v ≠ a) :
    Met l Z EL0 n0 NR0 KN0 N_4 jdk_68_method_9_code 3 (Option.none : Option Jvm.ClassFile.FieldType) R_m_ec1 [a] #[(.ref a), (.int (22 : Int32))] h0 (Q_m_ec1 Z a v kv h0) := by
  refine Met.of_go pn_m_ec1 (fun mid => ef_m_ec1 mid a v kv ) ?_
  intro hO hWS
  refine Go.aload_n (pc' := 1) d_jdk_68_method_9_0 rfl rfl rfl ?_
  refine Go.getF (pc' := 4) d_jdk_68_method_9_1 rfl (host := "") (Or.inl (w_47 hw)) Via.refl F_a_value ?_
  refine Go.lenV (pc' := 5) d_jdk_68_method_9_4 rfl V_v ?_
  refine Go.aload_n (pc' := 6) d_jdk_68_method_9_5 rfl rfl rfl ?_
  refine Go.getF (pc' := 9) d_jdk_68_method_9_6 rfl (host := "") (Or.inl (w_49 hw)) Via.refl F_a_coder ?_
  refine Go.ishr (pc' := 10) d_jdk_68_method_9_9 rfl ?_
  rw [show ((16 : Int32) >>> ((0 : Int32) &&& 31)) = (16 : Int32) from by decide]
  refine Go.istore_n (pc' := 11) (Ls' := #[.val (.ref a), .val (.int (22 : Int32)), .val (.int (16 : Int32))]) d_jdk_68_method_9_10 rfl rfl ?_
  refine Go.iload_n (pc' := 12) d_jdk_68_method_9_11 rfl rfl ?_
  refine Go.iload_n (pc' := 13) d_jdk_68_method_9_12 rfl rfl ?_
  refine Go.isub (pc' := 14) d_jdk_68_method_9_13 rfl ?_
  rw [show ((22 : Int32) - (16 : Int32)) = (6 : Int32) from by decide]
  refine Go.ifN (pc' := 17) d_jdk_68_method_9_14 rfl ((if0 _ _).trans (tlt (by decide : (0 : Int32) < (6 : Int32))).2.2.2) ?_
  refine Go.aload_n (pc' := 18) d_jdk_68_method_9_17 rfl rfl rfl ?_
  refine Go.aload_n (pc' := 19) d_jdk_68_method_9_18 rfl rfl rfl ?_
  refine Go.getF (pc' := 22) d_jdk_68_method_9_19 rfl (host := "") (Or.inl (w_47 hw)) Via.refl F_a_value ?_
  refine Go.aload_n (pc' := 23) d_jdk_68_method_9_22 rfl rfl rfl ?_
  refine Go.iload_n (pc' := 24) d_jdk_68_method_9_23 rfl rfl ?_
  refine Go.callP (pc' := 27) (z := N_6) (a := a) d_jdk_68_method_9_24 rfl (w_80 hw) (w_81 hw) (own_selP (z := N_6) (u := ({ cls := "java/lang/AbstractStringBuilder", name := "ensureCapacityInternal", desc := "(I)V" } : Jvm.MethodName)) (v := ({ cls := "java/lang/AbstractStringBuilder", name := "ensureCapacityInternal", desc := "(I)V" } : Jvm.MethodName)) (K := "java/lang/StringBuilder") (w_78 hw) rfl (by decide) (w_81 hw) (w_82 hw)) (w_82 hw) (w_84 hw) (by decide) E_a (argsL := [(.int (22 : Int32))]) (rest := [(.ref v), (.ref a)]) (Pays.of_met (W := 2) (len := 3) (m_nc hw hs a v kv ([] : List Int32) h0 F_a_value F_a_coder V_v) (w_84 hw) (w_43 hw) (by decide) (by decide)) rfl rfl (lenOf pd_3 rfl) rfl (Nat.le_of_eq rfl) mem0 (by decide) (by decide) ?_
  rintro _ _ _ - - ⟨rfl, rfl, rfl⟩
  change Go _ _ _ _ _ _ _ _ _ _ _ _ _ _ [a] h0 0 0 27 #[.val (.ref a), .val (.int (22 : Int32)), .val (.int (16 : Int32))] [(.int (34 : Int32)), (.ref v), (.ref a)]
  refine Go.aload_n (pc' := 28) d_jdk_68_method_9_27 rfl rfl rfl ?_
  refine Go.getF (pc' := 31) d_jdk_68_method_9_28 rfl (host := "") (Or.inl (w_49 hw)) Via.refl F_a_coder ?_
  refine Go.ishl (pc' := 32) d_jdk_68_method_9_31 rfl ?_
  rw [show ((34 : Int32) <<< ((0 : Int32) &&& 31)) = (34 : Int32) from by decide]
  refine Go.callS (pc' := 35) (z := N_7) d_jdk_68_method_9_32 rfl (w_95 hw) (w_96 hw) (w_97 hw) (w_98 hw) (by decide) (argsL := [(.ref v), (.int (34 : Int32))]) (rest := [(.ref a)]) (Pays.of_met (W := 1) (len := 3) (m_cpb hw hs v kv h0 V_v) (w_98 hw) (w_97 hw) (by decide) (by decide)) rfl rfl (lenOf pd_4 rfl) rfl (Nat.le_of_eq rfl) mem0 (by decide) (by decide) ?_
  rintro _ h30 _ K31 le32 ⟨b28, q29, rfl, rfl, p33, p34⟩
  have o_a_b28 : a ≠ b28 := Nat.ne_of_lt (Nat.lt_of_lt_of_le E_a.lt p33)
  have o_v_b28 : v ≠ b28 := Nat.ne_of_lt (Nat.lt_of_lt_of_le V_v.lt p33)
  have ge_b28 := Nat.le_trans le32 p33
  replace E_a := E_a.keep K31
  replace F_a_value := F_a_value.keep K31 nin0
  replace F_a_coder := F_a_coder.keep K31 nin0
  replace F_a_count := F_a_count.keep K31 nin0
  replace V_v := V_v.keep K31 nin0
  have V_b28 := p34
  change Go _ _ _ _ _ _ _ _ _ _ _ _ _ _ [b28, a] h30 1 34 35 #[.val (.ref a), .val (.int (22 : Int32)), .val (.int (16 : Int32))] [(.ref b28), (.ref a)]
  refine Go.putF (pc' := 38) d_jdk_68_method_9_35 rfl (List.mem_of_getElem? (i := 1) rfl) (host := "") (Or.inl (w_47 hw)) Via.refl F_a_value E_a (Or.inl (w_48 hw)) (w_34 hw) (ty := (.array .byte)) (by decide) rfl rfl ?_
  intro h35 W36
  replace F_a_value := F_a_value.same W36
  replace E_a := E_a.wr W36
  replace F_a_coder := F_a_coder.other W36 (Or.inr (slot_ne (Or.inl (w_50 hw)) (Or.inl (w_48 hw)) (by decide) (t := .byte) (t' := (.array .byte)) (by decide) (by decide)))
  replace F_a_count := F_a_count.other W36 (Or.inr (slot_ne (Or.inl (w_74 hw)) (Or.inl (w_48 hw)) (by decide) (t := .int) (t' := (.array .byte)) (by decide) (by decide)))
  replace V_v := V_v.other W36 ne_v_a
  replace V_b28 := V_b28.other W36 (Ne.symm o_a_b28)
  change Go _ _ _ _ _ _ _ _ _ _ _ _ _ _ [b28, a] h35 1 34 38 #[.val (.ref a), .val (.int (22 : Int32)), .val (.int (16 : Int32))] []
  exact Go.retV d_jdk_68_method_9_38 rfl (by decide) (by decide) [b28] (snS ⟨(List.mem_of_getElem? (i := 0) rfl), ge_b28⟩ sn0) ⟨b28, _, rfl, rfl, E_a, F_a_value, F_a_coder, F_a_count, ge_b28, V_b28⟩
abbrev R_m_coder : Room := { frames := 0, cells := 0, slots := 0, locals := 0 }
theorem pn_m_coder : plainFor (⟨"java/lang/String", "coder", "()B"⟩ : MethodName) = true := by first | (refine plainFor_of_name ?_; simp [plainName, overriddenIn]; done) | decide +kernel
abbrev Q_m_coder (Z : State) (a : Addr) (h0 : Heap) : Option Value → Heap → List Addr → Prop := fun res h' SN => res = some (.int (0 : Int32)) ∧ SN = [] ∧ h0 = h'
theorem ef_m_coder (mid : MethodId) (a : Addr) : entryFrame mid #[(.ref a)] 1 = mkF mid 0 #[.val (.ref a)] [] := by first | (simp [entryFrame, mkF, argsToLocals, Value.category]; done) | rfl
set_option maxRecDepth 65536 in
set_option maxHeartbeats 40000000 in
theorem m_coder {l : Launch} {Z : State} {a0 : Array Value} {n0 : Nat} (hw : ∀ d ∈ tables_1, d.before a0 Z = true) (hs : Stat Z) (a : Addr) (h0 : Heap) (F_a_coder : Fld Z h0 a "java/lang/String" "coder" "B" (.int (0 : Int32))) :
    Met l Z EL0 n0 NR0 KN0 N_8 jdk_42_method_152_code 1 (Option.some Jvm.ClassFile.FieldType.byte) R_m_coder [] #[(.ref a)] h0 (Q_m_coder Z a h0) := by
  refine Met.of_go pn_m_coder (fun mid => ef_m_coder mid a ) ?_
  intro hO hWS
  obtain ⟨zc, S_c, hzc⟩ := hs_c hs
  refine Go.getS (pc' := 3) d_jdk_42_method_152_0 rfl (host := "") (Or.inl (w_72 hw)) Via.refl S_c ?_
  refine Go.ifN (pc' := 6) d_jdk_42_method_152_3 rfl ((if0 _ _).trans (feq (hzc : ¬ (zc = (0 : Int32)))).1) ?_
  refine Go.aload_n (pc' := 7) d_jdk_42_method_152_6 rfl rfl rfl ?_
  refine Go.getF (pc' := 10) d_jdk_42_method_152_7 rfl (host := "") (Or.inl (w_26 hw)) Via.refl F_a_coder ?_
  refine Go.goto (pc' := 14) d_jdk_42_method_152_10 (by decide) (by decide) ?_
  exact Go.retS (ty := .byte) d_jdk_42_method_152_14 rfl (by simp) rfl (by decide) (by decide) [] sn0 ⟨rfl, rfl, rfl⟩
abbrev R_m_gb : Room := { frames := 1, cells := 0, slots := 0, locals := 24 }
theorem pn_m_gb : plainFor (⟨"java/lang/String", "getBytes", "([BIB)V"⟩ : MethodName) = true := by first | (refine plainFor_of_name ?_; simp [plainName, overriddenIn]; done) | decide +kernel
abbrev Q_m_gb (Z : State) (s : Addr) (t : Addr) (kt : ClassId) (ws : List Int32) (z2 : Int32) (v : Addr) (kv : ClassId) (us : List Int32) (cnt : Int32) (h0 : Heap) : Option Value → Heap → List Addr → Prop := fun res h' SN => res = none ∧ SN = [] ∧ Arv Z h' v kv .byte (34 : Int32) ((us ++ ws).map Value.int) (.int (0 : Int32))
theorem ef_m_gb (mid : MethodId) (s : Addr) (t : Addr) (kt : ClassId) (ws : List Int32) (z2 : Int32) (v : Addr) (kv : ClassId) (us : List Int32) (cnt : Int32) : entryFrame mid #[(.ref s), (.ref v), (.int cnt), (.int (0 : Int32))] 4 = mkF mid 0 #[.val (.ref s), .val (.ref v), .val (.int cnt), .val (.int (0 : Int32))] [] := by first | (simp [entryFrame, mkF, argsToLocals, Value.category]; done) | rfl
set_option maxRecDepth 65536 in
set_option maxHeartbeats 40000000 in
theorem m_gb {l : Launch} {Z : State} {a0 : Array Value} {n0 : Nat} (hw : ∀ d ∈ tables_1, d.before a0 Z = true) (hs : Stat Z) (s : Addr) (t : Addr) (kt : ClassId) (ws : List Int32) (z2 : Int32) (v : Addr) (kv : ClassId) (us : List Int32) (cnt : Int32) (h0 : Heap) (E_s : Exa Z h0 s "java/lang/String") (F_s_coder : Fld Z h0 s "java/lang/String" "coder" "B" (.int (0 : Int32))) (F_s_value : Fld Z h0 s "java/lang/String" "value" "[B" (.ref t)) (V_t : Arv Z h0 t kt .byte z2 (ws.map Value.int) (.int (0 : Int32))) (V_v : Arv Z h0 v kv .byte (34 : Int32) (us.map Value.int) (.int (0 : Int32))) (hz2 : z2.toNatClampNeg = ws.length) (hc0 : ¬ cnt < 0) (hcnt : cnt.toNatClampNeg = us.length) (hfit : us.length + ws.length ≤ 34) (ne_t_v : t ≠ v) :
    Met l Z EL0 n0 NR0 KN0 N_9 jdk_42_method_147_code 4 (Option.none : Option Jvm.ClassFile.FieldType) R_m_gb [v] #[(.ref s), (.ref v), (.int cnt), (.int (0 : Int32))] h0 (Q_m_gb Z s t kt ws z2 v kv us cnt h0) := by
  refine Met.of_go pn_m_gb (fun mid => ef_m_gb mid s t kt ws z2 v kv us cnt ) ?_
  intro hO hWS
  have e34 : (34 : Int32).toNatClampNeg = 34 := by decide
  have e00 : (0 : Int32).toNatClampNeg = 0 := by decide
  replace V_v : Arv Z h0 v kv .byte (34 : Int32) ((us.map Value.int) ++ List.replicate (34 - us.length) (.int (0 : Int32))) (.int (0 : Int32)) := V_v.pad (pad_rep _ _ _)
  refine Go.aload_n (pc' := 1) d_jdk_42_method_147_0 rfl rfl rfl ?_
  refine Go.callV (pc' := 4) (u := N_8) (z := N_8) (a := s) d_jdk_42_method_147_1 rfl (w_67 hw) (w_68 hw) (nf (w_70 hw) rfl) (w_70 hw) (w_69 hw) (by decide) E_s (argsL := []) (rest := []) (Pays.of_met (W := 0) (len := 3) (m_coder hw hs s h0 F_s_coder) (w_71 hw) (w_7 hw) (by decide) (by decide)) rfl rfl (lenOf pd_5 rfl) rfl (Nat.le_of_eq rfl) mem0 (by decide) (by decide) ?_
  rintro _ _ _ - - ⟨rfl, rfl, rfl⟩
  change Go _ _ _ _ _ _ _ _ _ _ _ _ _ _ [v] h0 0 0 4 #[.val (.ref s), .val (.ref v), .val (.int cnt), .val (.int (0 : Int32))] [(.int (0 : Int32))]
  refine Go.iload_n (pc' := 5) d_jdk_42_method_147_4 rfl rfl ?_
  refine Go.icmpN (pc' := 8) d_jdk_42_method_147_5 rfl (teq (rfl : (0 : Int32) = (0 : Int32))).2 ?_
  refine Go.aload_n (pc' := 9) d_jdk_42_method_147_8 rfl rfl rfl ?_
  refine Go.getF (pc' := 12) d_jdk_42_method_147_9 rfl (host := "") (Or.inl (w_25 hw)) Via.refl F_s_value ?_
  refine Go.iconst (pc' := 13) d_jdk_42_method_147_12 rfl ic_0 ?_
  refine Go.aload_n (pc' := 14) d_jdk_42_method_147_13 rfl rfl rfl ?_
  refine Go.iload_n (pc' := 15) d_jdk_42_method_147_14 rfl rfl ?_
  refine Go.iload_n (pc' := 16) d_jdk_42_method_147_15 rfl rfl ?_
  refine Go.ishl (pc' := 17) d_jdk_42_method_147_16 rfl ?_
  refine Go.aload_n (pc' := 18) d_jdk_42_method_147_17 rfl rfl rfl ?_
  rw [own_shl0]
  refine Go.getF (pc' := 21) d_jdk_42_method_147_18 rfl (host := "") (Or.inl (w_25 hw)) Via.refl F_s_value ?_
  refine Go.lenV (pc' := 22) d_jdk_42_method_147_21 rfl V_t ?_
  refine Go.cpA (pc' := 25) (W := 0) (us := (ws.map Value.int)) d_jdk_42_method_147_22 rfl (List.mem_of_getElem? (i := 0) rfl) (w_122 hw) (w_105 hw) (w_103 hw) (w_104 hw) V_t V_v (Or.inl ⟨rfl, rfl⟩) (by decide) hc0 (arv_nn V_t) (by omega) (by omega) (own_range_all ws _ hz2.symm) (by simp; omega) rfl (by decide) (Nat.le_of_eq rfl) (by decide) ?_
  intro h9 K9 V9
  change Go _ _ _ _ _ _ _ _ _ _ _ _ _ _ [v] h9 0 0 25 #[.val (.ref s), .val (.ref v), .val (.int cnt), .val (.int (0 : Int32))] []
  refine Go.goto (pc' := 43) d_jdk_42_method_147_25 (by decide) (by decide) ?_
  exact Go.retV d_jdk_42_method_147_43 rfl (by decide) (by decide) [] sn0 ⟨rfl, rfl, V9.pad (own_sbcat hcnt hz2)⟩
abbrev R_m_inn : Room := { frames := 1, cells := 0, slots := 0, locals := 13 }
theorem pn_m_inn : plainFor (⟨"java/lang/AbstractStringBuilder", "inflateIfNeededFor", "(Ljava/lang/String;)V"⟩ : MethodName) = true := by first | (refine plainFor_of_name ?_; simp [plainName, overriddenIn]; done) | decide +kernel
abbrev Q_m_inn (Z : State) (a : Addr) (s : Addr) (h0 : Heap) : Option Value → Heap → List Addr → Prop := fun res h' SN => res = none ∧ SN = [] ∧ h0 = h'
theorem ef_m_inn (mid : MethodId) (a : Addr) (s : Addr) : entryFrame mid #[(.ref a), (.ref s)] 2 = mkF mid 0 #[.val (.ref a), .val (.ref s)] [] := by first | (simp [entryFrame, mkF, argsToLocals, Value.category]; done) | rfl
set_option maxRecDepth 65536 in
set_option maxHeartbeats 40000000 in
theorem m_inn {l : Launch} {Z : State} {a0 : Array Value} {n0 : Nat} (hw : ∀ d ∈ tables_1, d.before a0 Z = true) (hs : Stat Z) (a : Addr) (s : Addr) (h0 : Heap) (F_a_coder : Fld Z h0 a "java/lang/AbstractStringBuilder" "coder" "B" (.int (0 : Int32))) (E_s : Exa Z h0 s "java/lang/String") (F_s_coder : Fld Z h0 s "java/lang/String" "coder" "B" (.int (0 : Int32))) :
    Met l Z EL0 n0 NR0 KN0 N_10 jdk_68_method_71_code 2 (Option.none : Option Jvm.ClassFile.FieldType) R_m_inn [] #[(.ref a), (.ref s)] h0 (Q_m_inn Z a s h0) := by
  refine Met.of_go pn_m_inn (fun mid => ef_m_inn mid a s ) ?_
  intro hO hWS
  obtain ⟨zc, S_c, hzc⟩ := hs_c hs
  refine Go.getS (pc' := 3) d_jdk_68_method_71_0 rfl (host := "") (Or.inl (w_46 hw)) Via.refl S_c ?_
  refine Go.ifN (pc' := 6) d_jdk_68_method_71_3 rfl ((if0 _ _).trans (feq (hzc : ¬ (zc = (0 : Int32)))).1) ?_
  refine Go.aload_n (pc' := 7) d_jdk_68_method_71_6 rfl rfl rfl ?_
  refine Go.getF (pc' := 10) d_jdk_68_method_71_7 rfl (host := "") (Or.inl (w_49 hw)) Via.refl F_a_coder ?_
  refine Go.aload_n (pc' := 11) d_jdk_68_method_71_10 rfl rfl rfl ?_
  refine Go.callV (pc' := 14) (u := N_8) (z := N_8) (a := s) d_jdk_68_method_71_11 rfl (w_116 hw) (w_68 hw) (nf (w_70 hw) rfl) (w_70 hw) (w_69 hw) (by decide) E_s (argsL := []) (rest := [(.int (0 : Int32))]) (Pays.of_met (W := 1) (len := 3) (m_coder hw hs s h0 F_s_coder) (w_71 hw) (w_7 hw) (by decide) (by decide)) rfl rfl (lenOf pd_5 rfl) rfl (Nat.le_of_eq rfl) mem0 (by decide) (by decide) ?_
  rintro _ _ _ - - ⟨rfl, rfl, rfl⟩
  change Go _ _ _ _ _ _ _ _ _ _ _ _ _ _ [] h0 0 0 14 #[.val (.ref a), .val (.ref s)] [(.int (0 : Int32)), (.int (0 : Int32))]
  refine Go.icmpY (pc' := 21) d_jdk_68_method_71_14 (by decide) (by decide) (teq (rfl : (0 : Int32) = (0 : Int32))).1 ?_
  exact Go.retV d_jdk_68_method_71_21 rfl (by decide) (by decide) [] sn0 ⟨rfl, rfl, rfl⟩
abbrev R_m_psa : Room := { frames := 2, cells := 0, slots := 0, locals := 39 }
theorem pn_m_psa : plainFor (⟨"java/lang/AbstractStringBuilder", "putStringAt", "(ILjava/lang/String;)V"⟩ : MethodName) = true := by first | (refine plainFor_of_name ?_; simp [plainName, overriddenIn]; done) | decide +kernel
abbrev Q_m_psa (Z : State) (a : Addr) (s : Addr) (t : Addr) (kt : ClassId) (ws : List Int32) (z2 : Int32) (v : Addr) (kv : ClassId) (us : List Int32) (cnt : Int32) (h0 : Heap) : Option Value → Heap → List Addr → Prop := fun res h' SN => res = none ∧ SN = [] ∧ Arv Z h' v kv .byte (34 : Int32) ((us ++ ws).map Value.int) (.int (0 : Int32))
theorem ef_m_psa (mid : MethodId) (a : Addr) (s : Addr) (t : Addr) (kt : ClassId) (ws : List Int32) (z2 : Int32) (v : Addr) (kv : ClassId) (us : List Int32) (cnt : Int32) : entryFrame mid #[(.ref a), (.int cnt), (.ref s)] 3 = mkF mid 0 #[.val (.ref a), .val (.int cnt), .val (.ref s)] [] := by first | (simp [entryFrame, mkF, argsToLocals, Value.category]; done) | rfl
set_option maxRecDepth 65536 in
set_option maxHeartbeats 40000000 in
theorem m_psa {l : Launch} {Z : State} {a0 : Array Value} {n0 : Nat} (hw : ∀ d ∈ tables_1, d.before a0 Z = true) (hs : Stat Z) (a : Addr) (s : Addr) (t : Addr) (kt : ClassId) (ws : List Int32) (z2 : Int32) (v : Addr) (kv : ClassId) (us : List Int32) (cnt : Int32) (h0 : Heap) (E_a : Exa Z h0 a "java/lang/StringBuilder") (F_a_value : Fld Z h0 a "java/lang/AbstractStringBuilder" "value" "[B" (.ref v)) (F_a_coder : Fld Z h0 a "java/lang/AbstractStringBuilder" "coder" "B" (.int (0 : Int32))) (E_s : Exa Z h0 s "java/lang/String") (F_s_coder : Fld Z h0 s "java/lang/String" "coder" "B" (.int (0 : Int32))) (F_s_value : Fld Z h0 s "java/lang/String" "value" "[B" (.ref t)) (V_t : Arv Z h0 t kt .byte z2 (ws.map Value.int) (.int (0 : Int32))) (V_v : Arv Z h0 v kv .byte (34 : Int32) (us.map Value.int) (.int (0 : Int32))) (hz2 : z2.toNatClampNeg = ws.length) (hc0 : ¬ cnt < 0) (hcnt : cnt.toNatClampNeg = us.length) (hfit : us.length + ws.length ≤ 34) (ne_t_v : t ≠ v) :
    Met l Z EL0 n0 NR0 KN0 N_11 jdk_68_method_73_code 3 (Option.none : Option Jvm.ClassFile.FieldType) R_m_psa [v] #[(.ref a), (.int cnt), (.ref s)] h0 (Q_m_psa Z a s t kt ws z2 v kv us cnt h0) := by
  refine Met.of_go pn_m_psa (fun mid => ef_m_psa mid a s t kt ws z2 v kv us cnt ) ?_
  intro hO hWS
  refine Go.aload_n (pc' := 1) d_jdk_68_method_73_0 rfl rfl rfl ?_
  refine Go.aload_n (pc' := 2) d_jdk_68_method_73_1 rfl rfl rfl ?_
  refine Go.callP (pc' := 5) (z := N_10) (a := a) d_jdk_68_method_73_2 rfl (w_111 hw) (w_112 hw) (own_selP (z := N_10) (u := ({ cls := "java/lang/AbstractStringBuilder", name := "ensureCapacityInternal", desc := "(I)V" } : Jvm.MethodName)) (v := ({ cls := "java/lang/AbstractStringBuilder", name := "ensureCapacityInternal", desc := "(I)V" } : Jvm.MethodName)) (K := "java/lang/StringBuilder") (w_78 hw) rfl (by decide) (w_112 hw) (w_113 hw)) (w_113 hw) (w_115 hw) (by decide) E_a (argsL := [(.ref s)]) (rest := []) (Pays.of_met (W := 0) (len := 3) (m_inn hw hs a s h0 F_a_coder E_s F_s_coder) (w_115 hw) (w_43 hw) (by decide) (by decide)) rfl rfl (lenOf pd_6 rfl) rfl (Nat.le_of_eq rfl) mem0 (by decide) (by decide) ?_
  rintro _ _ _ - - ⟨rfl, rfl, rfl⟩
  change Go _ _ _ _ _ _ _ _ _ _ _ _ _ _ [v] h0 0 0 5 #[.val (.ref a), .val (.int cnt), .val (.ref s)] []
  refine Go.aload_n (pc' := 6) d_jdk_68_method_73_5 rfl rfl rfl ?_
  refine Go.aload_n (pc' := 7) d_jdk_68_method_73_6 rfl rfl rfl ?_
  refine Go.getF (pc' := 10) d_jdk_68_method_73_7 rfl (host := "") (Or.inl (w_47 hw)) Via.refl F_a_value ?_
  refine Go.iload_n (pc' := 11) d_jdk_68_method_73_10 rfl rfl ?_
  refine Go.aload_n (pc' := 12) d_jdk_68_method_73_11 rfl rfl rfl ?_
  refine Go.getF (pc' := 15) d_jdk_68_method_73_12 rfl (host := "") (Or.inl (w_49 hw)) Via.refl F_a_coder ?_
  refine Go.callV (pc' := 18) (u := N_9) (z := N_9) (a := s) d_jdk_68_method_73_15 rfl (w_117 hw) (w_118 hw) (nf (w_120 hw) rfl) (w_120 hw) (w_119 hw) (by decide) E_s (argsL := [(.ref v), (.int cnt), (.int (0 : Int32))]) (rest := []) (Pays.of_met (W := 0) (len := 3) (m_gb hw hs s t kt ws z2 v kv us cnt h0 E_s F_s_coder F_s_value V_t V_v (hz2) (hc0) (hcnt) (hfit) ne_t_v) (w_121 hw) (w_7 hw) (by decide) (by decide)) rfl rfl (lenOf pd_7 rfl) rfl (Nat.le_of_eq rfl) (memS (List.mem_of_getElem? (i := 0) rfl) mem0) (by decide) (by decide) ?_
  rintro _ h37 _ K38 le39 ⟨rfl, rfl, p40⟩
  replace E_a := E_a.keep K38
  replace E_s := E_s.keep K38
  replace V_t := V_t.keep K38 (ninS ne_t_v nin0)
  have V_v := p40
  change Go _ _ _ _ _ _ _ _ _ _ _ _ _ _ [v] h37 0 0 18 #[.val (.ref a), .val (.int cnt), .val (.ref s)] []
  exact Go.retV d_jdk_68_method_73_18 rfl (by decide) (by decide) [] sn0 ⟨rfl, rfl, V_v⟩
abbrev R_m_length : Room := { frames := 1, cells := 0, slots := 0, locals := 13 }
theorem pn_m_length : plainFor (⟨"java/lang/String", "length", "()I"⟩ : MethodName) = true := by first | (refine plainFor_of_name ?_; simp [plainName, overriddenIn]; done) | decide +kernel
abbrev Q_m_length (Z : State) (a : Addr) (t : Addr) (kt : ClassId) (z : Int32) (vs : List Value) (h0 : Heap) : Option Value → Heap → List Addr → Prop := fun res h' SN => res = some (.int z) ∧ SN = [] ∧ h0 = h'
theorem ef_m_length (mid : MethodId) (a : Addr) (t : Addr) (kt : ClassId) (z : Int32) (vs : List Value) : entryFrame mid #[(.ref a)] 1 = mkF mid 0 #[.val (.ref a)] [] := by first | (simp [entryFrame, mkF, argsToLocals, Value.category]; done) | rfl
set_option maxRecDepth 65536 in
set_option maxHeartbeats 40000000 in
theorem m_length {l : Launch} {Z : State} {a0 : Array Value} {n0 : Nat} (hw : ∀ d ∈ tables_1, d.before a0 Z = true) (hs : Stat Z) (a : Addr) (t : Addr) (kt : ClassId) (z : Int32) (vs : List Value) (h0 : Heap) (E_a : Exa Z h0 a "java/lang/String") (F_a_coder : Fld Z h0 a "java/lang/String" "coder" "B" (.int (0 : Int32))) (F_a_value : Fld Z h0 a "java/lang/String" "value" "[B" (.ref t)) (V_t : Arv Z h0 t kt .byte z vs (.int (0 : Int32))) :
    Met l Z EL0 n0 NR0 KN0 N_12 jdk_42_method_54_code 1 (Option.some Jvm.ClassFile.FieldType.int) R_m_length [] #[(.ref a)] h0 (Q_m_length Z a t kt z vs h0) := by
  refine Met.of_go pn_m_length (fun mid => ef_m_length mid a t kt z vs ) ?_
  intro hO hWS
  refine Go.aload_n (pc' := 1) d_jdk_42_method_54_0 rfl rfl rfl ?_
  refine Go.getF (pc' := 4) d_jdk_42_method_54_1 rfl (host := "") (Or.inl (w_25 hw)) Via.refl F_a_value ?_
  refine Go.lenV (pc' := 5) d_jdk_42_method_54_4 rfl V_t ?_
  refine Go.aload_n (pc' := 6) d_jdk_42_method_54_5 rfl rfl rfl ?_
  refine Go.callV (pc' := 9) (u := N_8) (z := N_8) (a := a) d_jdk_42_method_54_6 rfl (w_67 hw) (w_68 hw) (nf (w_70 hw) rfl) (w_70 hw) (w_69 hw) (by decide) E_a (argsL := []) (rest := [(.int z)]) (Pays.of_met (W := 1) (len := 3) (m_coder hw hs a h0 F_a_coder) (w_71 hw) (w_7 hw) (by decide) (by decide)) rfl rfl (lenOf pd_5 rfl) rfl (Nat.le_of_eq rfl) mem0 (by decide) (by decide) ?_
  rintro _ _ _ - - ⟨rfl, rfl, rfl⟩
  change Go _ _ _ _ _ _ _ _ _ _ _ _ _ _ [] h0 0 0 9 #[.val (.ref a)] [(.int (0 : Int32)), (.int z)]
  refine Go.ishr (pc' := 10) d_jdk_42_method_54_9 rfl ?_
  rw [shr0]
  exact Go.retI d_jdk_42_method_54_10 rfl (by decide) (by decide) [] sn0 ⟨rfl, rfl, rfl⟩
abbrev R_m_aapg : Room := { frames := 4, cells := 1, slots := 34, locals := 62 }
theorem pn_m_aapg : plainFor (⟨"java/lang/AbstractStringBuilder", "append", "(Ljava/lang/String;)Ljava/lang/AbstractStringBuilder;"⟩ : MethodName) = true := by first | (refine plainFor_of_name ?_; simp [plainName, overriddenIn]; done) | decide +kernel
abbrev Q_m_aapg (Z : State) (a : Addr) (s : Addr) (t : Addr) (kt : ClassId) (ws : List Int32) (v : Addr) (kv : ClassId) (h0 : Heap) : Option Value → Heap → List Addr → Prop := fun res h' SN => ∃ (nv : Addr) (nk : ClassId), res = some (.ref a) ∧ SN = [nv] ∧ Exa Z h' a "java/lang/StringBuilder" ∧ Fld Z h' a "java/lang/AbstractStringBuilder" "value" "[B" (.ref nv) ∧ Fld Z h' a "java/lang/AbstractStringBuilder" "coder" "B" (.int (0 : Int32)) ∧ Fld Z h' a "java/lang/AbstractStringBuilder" "count" "I" (.int (22 : Int32)) ∧ h0.size ≤ nv ∧ Arv Z h' nv nk .byte (34 : Int32) (ws.map Value.int) (.int (0 : Int32))
theorem ef_m_aapg (mid : MethodId) (a : Addr) (s : Addr) (t : Addr) (kt : ClassId) (ws : List Int32) (v : Addr) (kv : ClassId) : entryFrame mid #[(.ref a), (.ref s)] 3 = mkF mid 0 #[.val (.ref a), .val (.ref s), .unset] [] := by first | (simp [entryFrame, mkF, argsToLocals, Value.category]; done) | rfl
set_option maxRecDepth 65536 in
set_option maxHeartbeats 40000000 in
theorem m_aapg {l : Launch} {Z : State} {a0 : Array Value} {n0 : Nat} (hw : ∀ d ∈ tables_1, d.before a0 Z = true) (hs : Stat Z) (a : Addr) (s : Addr) (t : Addr) (kt : ClassId) (ws : List Int32) (v : Addr) (kv : ClassId) (h0 : Heap) (E_a : Exa Z h0 a "java/lang/StringBuilder") (F_a_value : Fld Z h0 a "java/lang/AbstractStringBuilder" "value" "[B" (.ref v)) (F_a_coder : Fld Z h0 a "java/lang/AbstractStringBuilder" "coder" "B" (.int (0 : Int32))) (F_a_count : Fld Z h0 a "java/lang/AbstractStringBuilder" "count" "I" (.int (0 : Int32))) (V_v : Arv Z h0 v kv .byte (16 : Int32) (([] : List Int32).map Value.int) (.int (0 : Int32))) (E_s : Exa Z h0 s "java/lang/String") (F_s_coder : Fld Z h0 s "java/lang/String" "coder" "B" (.int (0 : Int32))) (F_s_value : Fld Z h0 s "java/lang/String" "value" "[B" (.ref t)) (V_t : Arv Z h0 t kt .byte (22 : Int32) (ws.map Value.int) (.int (0 : Int32))) (hws : ws.length = 22) (ne_v_a : v ≠ a) (ne_t_a : t ≠ a) (ne_t_v : t ≠ v) (ne_s_a : s ≠ a) :
    Met l Z EL0 n0 NR0 KN0 N_13 jdk_68_method_22_code 3 (Option.some (Jvm.ClassFile.FieldType.object "java/lang/AbstractStringBuilder")) R_m_aapg [a] #[(.ref a), (.ref s)] h0 (Q_m_aapg Z a s t kt ws v kv h0) := by
  refine Met.of_go pn_m_aapg (fun mid => ef_m_aapg mid a s t kt ws v kv ) ?_
  intro hO hWS
  refine Go.aload_n (pc' := 1) d_jdk_68_method_22_0 rfl rfl rfl ?_
  refine Go.ifnonnullY (pc' := 9) d_jdk_68_method_22_1 (by decide) (by decide) ?_
  refine Go.aload_n (pc' := 10) d_jdk_68_method_22_9 rfl rfl rfl ?_
  refine Go.callV (pc' := 13) (u := N_12) (z := N_12) (a := s) d_jdk_68_method_22_10 rfl (w_62 hw) (w_63 hw) (nf (w_65 hw) rfl) (w_65 hw) (w_64 hw) (by decide) E_s (argsL := []) (rest := []) (Pays.of_met (W := 0) (len := 3) (m_length hw hs s t kt (22 : Int32) (ws.map Value.int) h0 E_s F_s_coder F_s_value V_t) (w_66 hw) (w_7 hw) (by decide) (by decide)) rfl rfl (lenOf pd_8 rfl) rfl (Nat.le_of_eq rfl) mem0 (by decide) (by decide) ?_
  rintro _ _ _ - - ⟨rfl, rfl, rfl⟩
  change Go _ _ _ _ _ _ _ _ _ _ _ _ _ _ [a] h0 0 0 13 #[.val (.ref a), .val (.ref s), .unset] [(.int (22 : Int32))]
  refine Go.istore_n (pc' := 14) (Ls' := #[.val (.ref a), .val (.ref s), .val (.int (22 : Int32))]) d_jdk_68_method_22_13 rfl rfl ?_
  refine Go.aload_n (pc' := 15) d_jdk_68_method_22_14 rfl rfl rfl ?_
  refine Go.aload_n (pc' := 16) d_jdk_68_method_22_15 rfl rfl rfl ?_
  refine Go.getF (pc' := 19) d_jdk_68_method_22_16 rfl (host := "") (Or.inl (w_73 hw)) Via.refl F_a_count ?_
  refine Go.iload_n (pc' := 20) d_jdk_68_method_22_19 rfl rfl ?_
  refine Go.iadd (pc' := 21) d_jdk_68_method_22_20 rfl ?_
  rw [show ((0 : Int32) + (22 : Int32)) = (22 : Int32) from by decide]
  refine Go.callP (pc' := 24) (z := N_4) (a := a) d_jdk_68_method_22_21 rfl (w_75 hw) (w_76 hw) (own_selP (z := N_4) (u := ({ cls := "java/lang/AbstractStringBuilder", name := "ensureCapacityInternal", desc := "(I)V" } : Jvm.MethodName)) (v := ({ cls := "java/lang/AbstractStringBuilder", name := "ensureCapacityInternal", desc := "(I)V" } : Jvm.MethodName)) (K := "java/lang/StringBuilder") (w_78 hw) rfl (by decide) (w_76 hw) (w_77 hw)) (w_77 hw) (w_79 hw) (by decide) E_a (argsL := [(.int (22 : Int32))]) (rest := []) (Pays.of_met (W := 0) (len := 3) (m_ec1 hw hs a v kv h0 E_a F_a_value F_a_coder F_a_count V_v ne_v_a) (w_79 hw) (w_43 hw) (by decide) (by decide)) rfl rfl (lenOf pd_0 rfl) rfl (Nat.le_of_eq rfl) (memS (List.mem_of_getElem? (i := 0) rfl) mem0) (by decide) (by decide) ?_
  rintro _ h43 _ K44 le45 ⟨b41, q42, rfl, rfl, p46, p47, p48, p49, p50, p51⟩
  have o_a_b41 : a ≠ b41 := Nat.ne_of_lt (Nat.lt_of_lt_of_le E_a.lt p50)
  have o_v_b41 : v ≠ b41 := Nat.ne_of_lt (Nat.lt_of_lt_of_le V_v.lt p50)
  have o_s_b41 : s ≠ b41 := Nat.ne_of_lt (Nat.lt_of_lt_of_le E_s.lt p50)
  have o_t_b41 : t ≠ b41 := Nat.ne_of_lt (Nat.lt_of_lt_of_le V_t.lt p50)
  have ge_b41 := Nat.le_trans le45 p50
  replace E_a := E_a.keep K44
  replace V_v := V_v.keep K44 (ninS ne_v_a nin0)
  replace E_s := E_s.keep K44
  replace F_s_coder := F_s_coder.keep K44 (ninS ne_s_a nin0)
  replace F_s_value := F_s_value.keep K44 (ninS ne_s_a nin0)
  replace V_t := V_t.keep K44 (ninS ne_t_a nin0)
  have F_a_value := p47
  have F_a_coder := p48
  have F_a_count := p49
  have V_b41 := p51
  change Go _ _ _ _ _ _ _ _ _ _ _ _ _ _ [b41, a] h43 1 34 24 #[.val (.ref a), .val (.ref s), .val (.int (22 : Int32))] []
  refine Go.aload_n (pc' := 25) d_jdk_68_method_22_24 rfl rfl rfl ?_
  refine Go.aload_n (pc' := 26) d_jdk_68_method_22_25 rfl rfl rfl ?_
  refine Go.getF (pc' := 29) d_jdk_68_method_22_26 rfl (host := "") (Or.inl (w_73 hw)) Via.refl F_a_count ?_
  refine Go.aload_n (pc' := 30) d_jdk_68_method_22_29 rfl rfl rfl ?_
  refine Go.callP (pc' := 33) (z := N_11) (a := a) d_jdk_68_method_22_30 rfl (w_106 hw) (w_107 hw) (own_selP (z := N_11) (u := ({ cls := "java/lang/AbstractStringBuilder", name := "ensureCapacityInternal", desc := "(I)V" } : Jvm.MethodName)) (v := ({ cls := "java/lang/AbstractStringBuilder", name := "ensureCapacityInternal", desc := "(I)V" } : Jvm.MethodName)) (K := "java/lang/StringBuilder") (w_78 hw) rfl (by decide) (w_107 hw) (w_108 hw)) (w_108 hw) (w_110 hw) (by decide) E_a (argsL := [(.int (0 : Int32)), (.ref s)]) (rest := []) (Pays.of_met (W := 0) (len := 3) (m_psa hw hs a s t kt ws (22 : Int32) b41 q42 ([] : List Int32) (0 : Int32) h43 E_a F_a_value F_a_coder E_s F_s_coder F_s_value V_t V_b41 (by rw [hws]; decide) (by decide) (by decide) (by rw [hws]; decide) o_t_b41) (w_110 hw) (w_43 hw) (by decide) (by decide)) rfl rfl (lenOf pd_9 rfl) rfl (Nat.le_of_eq rfl) (memS (List.mem_of_getElem? (i := 0) rfl) mem0) (by decide) (by decide) ?_
  rintro _ h52 _ K53 le54 ⟨rfl, rfl, p55⟩
  replace E_a := E_a.keep K53
  replace V_v := V_v.keep K53 (ninS o_v_b41 nin0)
  replace E_s := E_s.keep K53
  replace F_s_coder := F_s_coder.keep K53 (ninS o_s_b41 nin0)
  replace F_s_value := F_s_value.keep K53 (ninS o_s_b41 nin0)
  replace V_t := V_t.keep K53 (ninS o_t_b41 nin0)
  replace F_a_value := F_a_value.keep K53 (ninS o_a_b41 nin0)
  replace F_a_coder := F_a_coder.keep K53 (ninS o_a_b41 nin0)
  replace F_a_count := F_a_count.keep K53 (ninS o_a_b41 nin0)
  have V_b41 := p55
  change Go _ _ _ _ _ _ _ _ _ _ _ _ _ _ [b41, a] h52 1 34 33 #[.val (.ref a), .val (.ref s), .val (.int (22 : Int32))] []
  refine Go.aload_n (pc' := 34) d_jdk_68_method_22_33 rfl rfl rfl ?_
  refine Go.dup (pc' := 35) d_jdk_68_method_22_34 rfl rfl ?_
  refine Go.getF (pc' := 38) d_jdk_68_method_22_35 rfl (host := "") (Or.inl (w_73 hw)) Via.refl F_a_count ?_
  refine Go.iload_n (pc' := 39) d_jdk_68_method_22_38 rfl rfl ?_
  refine Go.iadd (pc' := 40) d_jdk_68_method_22_39 rfl ?_
  rw [show ((0 : Int32) + (22 : Int32)) = (22 : Int32) from by decide]
  refine Go.putF (pc' := 43) d_jdk_68_method_22_40 rfl (List.mem_of_getElem? (i := 1) rfl) (host := "") (Or.inl (w_73 hw)) Via.refl F_a_count E_a (Or.inl (w_74 hw)) (w_34 hw) (ty := .int) (by decide) rfl rfl ?_
  intro h56 W57
  replace F_a_count := F_a_count.same W57
  replace E_a := E_a.wr W57
  replace V_v := V_v.other W57 ne_v_a
  replace E_s := E_s.wr W57
  replace F_s_coder := F_s_coder.other W57 (Or.inl ne_s_a)
  replace F_s_value := F_s_value.other W57 (Or.inl ne_s_a)
  replace V_t := V_t.other W57 ne_t_a
  replace F_a_value := F_a_value.other W57 (Or.inr (slot_ne (Or.inl (w_48 hw)) (Or.inl (w_74 hw)) (by decide) (t := (.array .byte)) (t' := .int) (by decide) (by decide)))
  replace F_a_coder := F_a_coder.other W57 (Or.inr (slot_ne (Or.inl (w_50 hw)) (Or.inl (w_74 hw)) (by decide) (t := .byte) (t' := .int) (by decide) (by decide)))
  replace V_b41 := V_b41.other W57 (Ne.symm o_a_b41)
  change Go _ _ _ _ _ _ _ _ _ _ _ _ _ _ [b41, a] h56 1 34 43 #[.val (.ref a), .val (.ref s), .val (.int (22 : Int32))] []
  refine Go.aload_n (pc' := 44) d_jdk_68_method_22_43 rfl rfl rfl ?_
  exact Go.retA d_jdk_68_method_22_44 rfl rfl rfl (by decide) (by decide) [b41] (snS ⟨(List.mem_of_getElem? (i := 0) rfl), ge_b41⟩ sn0) ⟨b41, _, rfl, rfl, E_a, F_a_value, F_a_coder, F_a_count, ge_b41, V_b41⟩
abbrev R_m_aapf : Room := { frames := 3, cells := 0, slots := 0, locals := 53 }
theorem pn_m_aapf : plainFor (⟨"java/lang/AbstractStringBuilder", "append", "(Ljava/lang/String;)Ljava/lang/AbstractStringBuilder;"⟩ : MethodName) = true := by first | (refine plainFor_of_name ?_; simp [plainName, overriddenIn]; done) | decide +kernel
abbrev Q_m_aapf (Z : State) (a : Addr) (s : Addr) (t : Addr) (kt : ClassId) (ws : List Int32) (z2 : Int32) (v : Addr) (kv : ClassId) (us : List Int32) (cnt : Int32) (h0 : Heap) : Option Value → Heap → List Addr → Prop := fun res h' SN => res = some (.ref a) ∧ SN = [] ∧ Exa Z h' a "java/lang/StringBuilder" ∧ Fld Z h' a "java/lang/AbstractStringBuilder" "value" "[B" (.ref v) ∧ Fld Z h' a "java/lang/AbstractStringBuilder" "coder" "B" (.int (0 : Int32)) ∧ Fld Z h' a "java/lang/AbstractStringBuilder" "count" "I" (.int (cnt + z2)) ∧ Arv Z h' v kv .byte (34 : Int32) ((us ++ ws).map Value.int) (.int (0 : Int32))
theorem ef_m_aapf (mid : MethodId) (a : Addr) (s : Addr) (t : Addr) (kt : ClassId) (ws : List Int32) (z2 : Int32) (v : Addr) (kv : ClassId) (us : List Int32) (cnt : Int32) : entryFrame mid #[(.ref a), (.ref s)] 3 = mkF mid 0 #[.val (.ref a), .val (.ref s), .unset] [] := by first | (simp [entryFrame, mkF, argsToLocals, Value.category]; done) | rfl
set_option maxRecDepth 65536 in
set_option maxHeartbeats 40000000 in
theorem m_aapf {l : Launch} {Z : State} {a0 : Array Value} {n0 : Nat} (hw : ∀ d ∈ tables_1, d.before a0 Z = true) (hs : Stat Z) (a : Addr) (s : Addr) (t : Addr) (kt : ClassId) (ws : List Int32) (z2 : Int32) (v : Addr) (kv : ClassId) (us : List Int32) (cnt : Int32) (h0 : Heap) (E_a : Exa Z h0 a "java/lang/StringBuilder") (F_a_value : Fld Z h0 a "java/lang/AbstractStringBuilder" "value" "[B" (.ref v)) (F_a_coder : Fld Z h0 a "java/lang/AbstractStringBuilder" "coder" "B" (.int (0 : Int32))) (F_a_count : Fld Z h0 a "java/lang/AbstractStringBuilder" "count" "I" (.int cnt)) (V_v : Arv Z h0 v kv .byte (34 : Int32) (us.map Value.int) (.int (0 : Int32))) (E_s : Exa Z h0 s "java/lang/String") (F_s_coder : Fld Z h0 s "java/lang/String" "coder" "B" (.int (0 : Int32))) (F_s_value : Fld Z h0 s "java/lang/String" "value" "[B" (.ref t)) (V_t : Arv Z h0 t kt .byte z2 (ws.map Value.int) (.int (0 : Int32))) (hz2 : z2.toNatClampNeg = ws.length) (hc0 : ¬ cnt < 0) (hcnt : cnt.toNatClampNeg = us.length) (hfit : us.length + ws.length ≤ 34) (ne_v_a : v ≠ a) (ne_t_a : t ≠ a) (ne_t_v : t ≠ v) (ne_s_a : s ≠ a) :
    Met l Z EL0 n0 NR0 KN0 N_13 jdk_68_method_22_code 3 (Option.some (Jvm.ClassFile.FieldType.object "java/lang/AbstractStringBuilder")) R_m_aapf [a, v] #[(.ref a), (.ref s)] h0 (Q_m_aapf Z a s t kt ws z2 v kv us cnt h0) := by
  refine Met.of_go pn_m_aapf (fun mid => ef_m_aapf mid a s t kt ws z2 v kv us cnt ) ?_
  intro hO hWS
  refine Go.aload_n (pc' := 1) d_jdk_68_method_22_0 rfl rfl rfl ?_
  refine Go.ifnonnullY (pc' := 9) d_jdk_68_method_22_1 (by decide) (by decide) ?_
  refine Go.aload_n (pc' := 10) d_jdk_68_method_22_9 rfl rfl rfl ?_
  refine Go.callV (pc' := 13) (u := N_12) (z := N_12) (a := s) d_jdk_68_method_22_10 rfl (w_62 hw) (w_63 hw) (nf (w_65 hw) rfl) (w_65 hw) (w_64 hw) (by decide) E_s (argsL := []) (rest := []) (Pays.of_met (W := 0) (len := 3) (m_length hw hs s t kt z2 (ws.map Value.int) h0 E_s F_s_coder F_s_value V_t) (w_66 hw) (w_7 hw) (by decide) (by decide)) rfl rfl (lenOf pd_8 rfl) rfl (Nat.le_of_eq rfl) mem0 (by decide) (by decide) ?_
  rintro _ _ _ - - ⟨rfl, rfl, rfl⟩
  change Go _ _ _ _ _ _ _ _ _ _ _ _ _ _ [a, v] h0 0 0 13 #[.val (.ref a), .val (.ref s), .unset] [(.int z2)]
  refine Go.istore_n (pc' := 14) (Ls' := #[.val (.ref a), .val (.ref s), .val (.int z2)]) d_jdk_68_method_22_13 rfl rfl ?_
  refine Go.aload_n (pc' := 15) d_jdk_68_method_22_14 rfl rfl rfl ?_
  refine Go.aload_n (pc' := 16) d_jdk_68_method_22_15 rfl rfl rfl ?_
  refine Go.getF (pc' := 19) d_jdk_68_method_22_16 rfl (host := "") (Or.inl (w_73 hw)) Via.refl F_a_count ?_
  refine Go.iload_n (pc' := 20) d_jdk_68_method_22_19 rfl rfl ?_
  refine Go.iadd (pc' := 21) d_jdk_68_method_22_20 rfl ?_
  refine Go.callP (pc' := 24) (z := N_4) (a := a) d_jdk_68_method_22_21 rfl (w_75 hw) (w_76 hw) (own_selP (z := N_4) (u := ({ cls := "java/lang/AbstractStringBuilder", name := "ensureCapacityInternal", desc := "(I)V" } : Jvm.MethodName)) (v := ({ cls := "java/lang/AbstractStringBuilder", name := "ensureCapacityInternal", desc := "(I)V" } : Jvm.MethodName)) (K := "java/lang/StringBuilder") (w_78 hw) rfl (by decide) (w_76 hw) (w_77 hw)) (w_77 hw) (w_79 hw) (by decide) E_a (argsL := [(.int (cnt + z2))]) (rest := []) (Pays.of_met (W := 0) (len := 3) (m_ec0 hw hs a v kv us (cnt + z2) h0 F_a_value F_a_coder V_v (own_fit34 hc0 (arv_nn V_t) (by omega))) (w_79 hw) (w_43 hw) (by decide) (by decide)) rfl rfl (lenOf pd_0 rfl) rfl (Nat.le_of_eq rfl) mem0 (by decide) (by decide) ?_
  rintro _ _ _ - - ⟨rfl, rfl, rfl⟩
  change Go _ _ _ _ _ _ _ _ _ _ _ _ _ _ [a, v] h0 0 0 24 #[.val (.ref a), .val (.ref s), .val (.int z2)] []
  refine Go.aload_n (pc' := 25) d_jdk_68_method_22_24 rfl rfl rfl ?_
  refine Go.aload_n (pc' := 26) d_jdk_68_method_22_25 rfl rfl rfl ?_
  refine Go.getF (pc' := 29) d_jdk_68_method_22_26 rfl (host := "") (Or.inl (w_73 hw)) Via.refl F_a_count ?_
  refine Go.aload_n (pc' := 30) d_jdk_68_method_22_29 rfl rfl rfl ?_
  refine Go.callP (pc' := 33) (z := N_11) (a := a) d_jdk_68_method_22_30 rfl (w_106 hw) (w_107 hw) (own_selP (z := N_11) (u := ({ cls := "java/lang/AbstractStringBuilder", name := "ensureCapacityInternal", desc := "(I)V" } : Jvm.MethodName)) (v := ({ cls := "java/lang/AbstractStringBuilder", name := "ensureCapacityInternal", desc := "(I)V" } : Jvm.MethodName)) (K := "java/lang/StringBuilder") (w_78 hw) rfl (by decide) (w_107 hw) (w_108 hw)) (w_108 hw) (w_110 hw) (by decide) E_a (argsL := [(.int cnt), (.ref s)]) (rest := []) (Pays.of_met (W := 0) (len := 3) (m_psa hw hs a s t kt ws z2 v kv us cnt h0 E_a F_a_value F_a_coder E_s F_s_coder F_s_value V_t V_v (hz2) (hc0) (hcnt) (hfit) ne_t_v) (w_110 hw) (w_43 hw) (by decide) (by decide)) rfl rfl (lenOf pd_9 rfl) rfl (Nat.le_of_eq rfl) (memS (List.mem_of_getElem? (i := 1) rfl) mem0) (by decide) (by decide) ?_
  rintro _ h58 _ K59 le60 ⟨rfl, rfl, p61⟩
  replace E_a := E_a.keep K59
  replace F_a_value := F_a_value.keep K59 (ninS (Ne.symm ne_v_a) nin0)
  replace F_a_coder := F_a_coder.keep K59 (ninS (Ne.symm ne_v_a) nin0)
  replace F_a_count := F_a_count.keep K59 (ninS (Ne.symm ne_v_a) nin0)
  replace E_s := E_s.keep K59
  replace V_t := V_t.keep K59 (ninS ne_t_v nin0)
  have V_v := p61
  change Go _ _ _ _ _ _ _ _ _ _ _ _ _ _ [a, v] h58 0 0 33 #[.val (.ref a), .val (.ref s), .val (.int z2)] []
  refine Go.aload_n (pc' := 34) d_jdk_68_method_22_33 rfl rfl rfl ?_
  refine Go.dup (pc' := 35) d_jdk_68_method_22_34 rfl rfl ?_
  refine Go.getF (pc' := 38) d_jdk_68_method_22_35 rfl (host := "") (Or.inl (w_73 hw)) Via.refl F_a_count ?_
  refine Go.iload_n (pc' := 39) d_jdk_68_method_22_38 rfl rfl ?_
  refine Go.iadd (pc' := 40) d_jdk_68_method_22_39 rfl ?_
  refine Go.putF (pc' := 43) d_jdk_68_method_22_40 rfl (List.mem_of_getElem? (i := 0) rfl) (host := "") (Or.inl (w_73 hw)) Via.refl F_a_count E_a (Or.inl (w_74 hw)) (w_34 hw) (ty := .int) (by decide) rfl rfl ?_
  intro h62 W63
  replace F_a_count := F_a_count.same W63
  replace E_a := E_a.wr W63
  replace F_a_value := F_a_value.other W63 (Or.inr (slot_ne (Or.inl (w_48 hw)) (Or.inl (w_74 hw)) (by decide) (t := (.array .byte)) (t' := .int) (by decide) (by decide)))
  replace F_a_coder := F_a_coder.other W63 (Or.inr (slot_ne (Or.inl (w_50 hw)) (Or.inl (w_74 hw)) (by decide) (t := .byte) (t' := .int) (by decide) (by decide)))
  replace E_s := E_s.wr W63
  replace V_t := V_t.other W63 ne_t_a
  replace V_v := V_v.other W63 ne_v_a
  change Go _ _ _ _ _ _ _ _ _ _ _ _ _ _ [a, v] h62 0 0 43 #[.val (.ref a), .val (.ref s), .val (.int z2)] []
  refine Go.aload_n (pc' := 44) d_jdk_68_method_22_43 rfl rfl rfl ?_
  exact Go.retA d_jdk_68_method_22_44 rfl rfl rfl (by decide) (by decide) [] sn0 ⟨rfl, rfl, E_a, F_a_value, F_a_coder, F_a_count, V_v⟩
abbrev R_m_aapg2 : Room := { frames := 5, cells := 1, slots := 34, locals := 76 }
theorem pn_m_aapg2 : plainFor (⟨"java/lang/StringBuilder", "append", "(Ljava/lang/String;)Ljava/lang/StringBuilder;"⟩ : MethodName) = true := by first | (refine plainFor_of_name ?_; simp [plainName, overriddenIn]; done) | decide +kernel
abbrev Q_m_aapg2 (Z : State) (a : Addr) (s : Addr) (t : Addr) (kt : ClassId) (ws : List Int32) (v : Addr) (kv : ClassId) (h0 : Heap) : Option Value → Heap → List Addr → Prop := fun res h' SN => ∃ (nv : Addr) (nk : ClassId), res = some (.ref a) ∧ SN = [nv] ∧ Exa Z h' a "java/lang/StringBuilder" ∧ Fld Z h' a "java/lang/AbstractStringBuilder" "value" "[B" (.ref nv) ∧ Fld Z h' a "java/lang/AbstractStringBuilder" "coder" "B" (.int (0 : Int32)) ∧ Fld Z h' a "java/lang/AbstractStringBuilder" "count" "I" (.int (22 : Int32)) ∧ h0.size ≤ nv ∧ Arv Z h' nv nk .byte (34 : Int32) (ws.map Value.int) (.int (0 : Int32))
theorem ef_m_aapg2 (mid : MethodId) (a : Addr) (s : Addr) (t : Addr) (kt : ClassId) (ws : List Int32) (v : Addr) (kv : ClassId) : entryFrame mid #[(.ref a), (.ref s)] 2 = mkF mid 0 #[.val (.ref a), .val (.ref s)] [] := by first | (simp [entryFrame, mkF, argsToLocals, Value.category]; done) | rfl
set_option maxRecDepth 65536 in
set_option maxHeartbeats 40000000 in
theorem m_aapg2 {l : Launch} {Z : State} {a0 : Array Value} {n0 : Nat} (hw : ∀ d ∈ tables_1, d.before a0 Z = true) (hs : Stat Z) (a : Addr) (s : Addr) (t : Addr) (kt : ClassId) (ws : List Int32) (v : Addr) (kv : ClassId) (h0 : Heap) (E_a : Exa Z h0 a "java/lang/StringBuilder") (F_a_value : Fld Z h0 a "java/lang/AbstractStringBuilder" "value" "[B" (.ref v)) (F_a_coder : Fld Z h0 a "java/lang/AbstractStringBuilder" "coder" "B" (.int (0 : Int32))) (F_a_count : Fld Z h0 a "java/lang/AbstractStringBuilder" "count" "I" (.int (0 : Int32))) (V_v : Arv Z h0 v kv .byte (16 : Int32) (([] : List Int32).map Value.int) (.int (0 : Int32))) (E_s : Exa Z h0 s "java/lang/String") (F_s_coder : Fld Z h0 s "java/lang/String" "coder" "B" (.int (0 : Int32))) (F_s_value : Fld Z h0 s "java/lang/String" "value" "[B" (.ref t)) (V_t : Arv Z h0 t kt .byte (22 : Int32) (ws.map Value.int) (.int (0 : Int32))) (hws : ws.length = 22) (ne_v_a : v ≠ a) (ne_t_a : t ≠ a) (ne_t_v : t ≠ v) (ne_s_a : s ≠ a) :
    Met l Z EL0 n0 NR0 KN0 N_14 jdk_67_method_7_code 2 (Option.some (Jvm.ClassFile.FieldType.object "java/lang/StringBuilder")) R_m_aapg2 [a] #[(.ref a), (.ref s)] h0 (Q_m_aapg2 Z a s t kt ws v kv h0) := by
  refine Met.of_go pn_m_aapg2 (fun mid => ef_m_aapg2 mid a s t kt ws v kv ) ?_
  intro hO hWS
  refine Go.aload_n (pc' := 1) d_jdk_67_method_7_0 rfl rfl rfl ?_
  refine Go.aload_n (pc' := 2) d_jdk_67_method_7_1 rfl rfl rfl ?_
  refine Go.callSp (pc' := 5) (z := N_13) (a := a) d_jdk_67_method_7_2 rfl (w_57 hw) (own_same (z := N_13) (u := ({ cls := "java/lang/AbstractStringBuilder", name := "ensureCapacityInternal", desc := "(I)V" } : Jvm.MethodName)) (v := ({ cls := "java/lang/AbstractStringBuilder", name := "ensureCapacityInternal", desc := "(I)V" } : Jvm.MethodName)) (K := "java/lang/StringBuilder") (w_78 hw) rfl (by decide) (w_58 hw)) (w_58 hw) (w_59 hw) (w_61 hw) (by decide) (Ins.self E_a) (argsL := [(.ref s)]) (rest := []) (Pays.of_met (W := 0) (len := 3) (m_aapg hw hs a s t kt ws v kv h0 E_a F_a_value F_a_coder F_a_count V_v E_s F_s_coder F_s_value V_t (hws) ne_v_a ne_t_a ne_t_v ne_s_a) (w_61 hw) (w_43 hw) (by decide) (by decide)) rfl rfl (lenOf pd_10 rfl) rfl (Nat.le_of_eq rfl) (memS (List.mem_of_getElem? (i := 0) rfl) mem0) (by decide) (by decide) ?_
  rintro _ h66 _ K67 le68 ⟨b64, q65, rfl, rfl, p69, p70, p71, p72, p73, p74⟩
  have o_a_b64 : a ≠ b64 := Nat.ne_of_lt (Nat.lt_of_lt_of_le E_a.lt p73)
  have o_v_b64 : v ≠ b64 := Nat.ne_of_lt (Nat.lt_of_lt_of_le V_v.lt p73)
  have o_s_b64 : s ≠ b64 := Nat.ne_of_lt (Nat.lt_of_lt_of_le E_s.lt p73)
  have o_t_b64 : t ≠ b64 := Nat.ne_of_lt (Nat.lt_of_lt_of_le V_t.lt p73)
  have ge_b64 := Nat.le_trans le68 p73
  replace E_a := E_a.keep K67
  replace V_v := V_v.keep K67 (ninS ne_v_a nin0)
  replace E_s := E_s.keep K67
  replace F_s_coder := F_s_coder.keep K67 (ninS ne_s_a nin0)
  replace F_s_value := F_s_value.keep K67 (ninS ne_s_a nin0)
  replace V_t := V_t.keep K67 (ninS ne_t_a nin0)
  have F_a_value := p70
  have F_a_coder := p71
  have F_a_count := p72
  have V_b64 := p74
  change Go _ _ _ _ _ _ _ _ _ _ _ _ _ _ [b64, a] h66 1 34 5 #[.val (.ref a), .val (.ref s)] [(.ref a)]
  refine Go.pop (pc' := 6) d_jdk_67_method_7_5 rfl rfl ?_
  refine Go.aload_n (pc' := 7) d_jdk_67_method_7_6 rfl rfl rfl ?_
  exact Go.retA d_jdk_67_method_7_7 rfl rfl rfl (by decide) (by decide) [b64] (snS ⟨(List.mem_of_getElem? (i := 0) rfl), ge_b64⟩ sn0) ⟨b64, _, rfl, rfl, E_a, F_a_value, F_a_coder, F_a_count, ge_b64, V_b64⟩
abbrev R_m_aapf2 : Room := { frames := 4, cells := 0, slots := 0, locals := 67 }
theorem pn_m_aapf2 : plainFor (⟨"java/lang/StringBuilder", "append", "(Ljava/lang/String;)Ljava/lang/StringBuilder;"⟩ : MethodName) = true := by first | (refine plainFor_of_name ?_; simp [plainName, overriddenIn]; done) | decide +kernel
abbrev Q_m_aapf2 (Z : State) (a : Addr) (s : Addr) (t : Addr) (kt : ClassId) (ws : List Int32) (z2 : Int32) (v : Addr) (kv : ClassId) (us : List Int32) (cnt : Int32) (h0 : Heap) : Option Value → Heap → List Addr → Prop := fun res h' SN => res = some (.ref a) ∧ SN = [] ∧ Exa Z h' a "java/lang/StringBuilder" ∧ Fld Z h' a "java/lang/AbstractStringBuilder" "value" "[B" (.ref v) ∧ Fld Z h' a "java/lang/AbstractStringBuilder" "coder" "B" (.int (0 : Int32)) ∧ Fld Z h' a "java/lang/AbstractStringBuilder" "count" "I" (.int (cnt + z2)) ∧ Arv Z h' v kv .byte (34 : Int32) ((us ++ ws).map Value.int) (.int (0 : Int32))
theorem ef_m_aapf2 (mid : MethodId) (a : Addr) (s : Addr) (t : Addr) (kt : ClassId) (ws : List Int32) (z2 : Int32) (v : Addr) (kv : ClassId) (us : List Int32) (cnt : Int32) : entryFrame mid #[(.ref a), (.ref s)] 2 = mkF mid 0 #[.val (.ref a), .val (.ref s)] [] := by first | (simp [entryFrame, mkF, argsToLocals, Value.category]; done) | rfl
set_option maxRecDepth 65536 in
set_option maxHeartbeats 40000000 in
theorem m_aapf2 {l : Launch} {Z : State} {a0 : Array Value} {n0 : Nat} (hw : ∀ d ∈ tables_1, d.before a0 Z = true) (hs : Stat Z) (a : Addr) (s : Addr) (t : Addr) (kt : ClassId) (ws : List Int32) (z2 : Int32) (v : Addr) (kv : ClassId) (us : List Int32) (cnt : Int32) (h0 : Heap) (E_a : Exa Z h0 a "java/lang/StringBuilder") (F_a_value : Fld Z h0 a "java/lang/AbstractStringBuilder" "value" "[B" (.ref v)) (F_a_coder : Fld Z h0 a "java/lang/AbstractStringBuilder" "coder" "B" (.int (0 : Int32))) (F_a_count : Fld Z h0 a "java/lang/AbstractStringBuilder" "count" "I" (.int cnt)) (V_v : Arv Z h0 v kv .byte (34 : Int32) (us.map Value.int) (.int (0 : Int32))) (E_s : Exa Z h0 s "java/lang/String") (F_s_coder : Fld Z h0 s "java/lang/String" "coder" "B" (.int (0 : Int32))) (F_s_value : Fld Z h0 s "java/lang/String" "value" "[B" (.ref t)) (V_t : Arv Z h0 t kt .byte z2 (ws.map Value.int) (.int (0 : Int32))) (hz2 : z2.toNatClampNeg = ws.length) (hc0 : ¬ cnt < 0) (hcnt : cnt.toNatClampNeg = us.length) (hfit : us.length + ws.length ≤ 34) (ne_v_a : v ≠ a) (ne_t_a : t ≠ a) (ne_t_v : t ≠ v) (ne_s_a : s ≠ a) :
    Met l Z EL0 n0 NR0 KN0 N_14 jdk_67_method_7_code 2 (Option.some (Jvm.ClassFile.FieldType.object "java/lang/StringBuilder")) R_m_aapf2 [a, v] #[(.ref a), (.ref s)] h0 (Q_m_aapf2 Z a s t kt ws z2 v kv us cnt h0) := by
  refine Met.of_go pn_m_aapf2 (fun mid => ef_m_aapf2 mid a s t kt ws z2 v kv us cnt ) ?_
  intro hO hWS
  refine Go.aload_n (pc' := 1) d_jdk_67_method_7_0 rfl rfl rfl ?_
  refine Go.aload_n (pc' := 2) d_jdk_67_method_7_1 rfl rfl rfl ?_
  refine Go.callSp (pc' := 5) (z := N_13) (a := a) d_jdk_67_method_7_2 rfl (w_57 hw) (own_same (z := N_13) (u := ({ cls := "java/lang/AbstractStringBuilder", name := "ensureCapacityInternal", desc := "(I)V" } : Jvm.MethodName)) (v := ({ cls := "java/lang/AbstractStringBuilder", name := "ensureCapacityInternal", desc := "(I)V" } : Jvm.MethodName)) (K := "java/lang/StringBuilder") (w_78 hw) rfl (by decide) (w_58 hw)) (w_58 hw) (w_59 hw) (w_61 hw) (by decide) (Ins.self E_a) (argsL := [(.ref s)]) (rest := []) (Pays.of_met (W := 0) (len := 3) (m_aapf hw hs a s t kt ws z2 v kv us cnt h0 E_a F_a_value F_a_coder F_a_count V_v E_s F_s_coder F_s_value V_t (hz2) (hc0) (hcnt) (hfit) ne_v_a ne_t_a ne_t_v ne_s_a) (w_61 hw) (w_43 hw) (by decide) (by decide)) rfl rfl (lenOf pd_10 rfl) rfl (Nat.le_of_eq rfl) (memS (List.mem_of_getElem? (i := 0) rfl) (memS (List.mem_of_getElem? (i := 1) rfl) mem0)) (by decide) (by decide) ?_
  rintro _ h75 _ K76 le77 ⟨rfl, rfl, p78, p79, p80, p81, p82⟩
  replace E_a := E_a.keep K76
  replace E_s := E_s.keep K76
  replace V_t := V_t.keep K76 (ninS ne_t_a (ninS ne_t_v nin0))
  have F_a_value := p79
  have F_a_coder := p80
  have F_a_count := p81
  have V_v := p82
  change Go _ _ _ _ _ _ _ _ _ _ _ _ _ _ [a, v] h75 0 0 5 #[.val (.ref a), .val (.ref s)] [(.ref a)]
  refine Go.pop (pc' := 6) d_jdk_67_method_7_5 rfl rfl ?_
  refine Go.aload_n (pc' := 7) d_jdk_67_method_7_6 rfl rfl rfl ?_
  exact Go.retA d_jdk_67_method_7_7 rfl rfl rfl (by decide) (by decide) [] sn0 ⟨rfl, rfl, E_a, F_a_value, F_a_coder, F_a_count, V_v⟩
abbrev R_m_gv : Room := { frames := 0, cells := 0, slots := 0, locals := 0 }
theorem pn_m_gv : plainFor (⟨"java/lang/AbstractStringBuilder", "getValue", "()[B"⟩ : MethodName) = true := by first | (refine plainFor_of_name ?_; simp [plainName, overriddenIn]; done) | decide +kernel
abbrev Q_m_gv (Z : State) (a : Addr) (v : Addr) (h0 : Heap) : Option Value → Heap → List Addr → Prop := fun res h' SN => res = some (.ref v) ∧ SN = [] ∧ h0 = h'
theorem ef_m_gv (mid : MethodId) (a : Addr) (v : Addr) : entryFrame mid #[(.ref a)] 1 = mkF mid 0 #[.val (.ref a)] [] := by first | (simp [entryFrame, mkF, argsToLocals, Value.category]; done) | rfl
set_option maxRecDepth 65536 in
set_option maxHeartbeats 40000000 in
theorem m_gv {l : Launch} {Z : State} {a0 : Array Value} {n0 : Nat} (hw : ∀ d ∈ tables_1, d.before a0 Z = true) (hs : Stat Z) (a : Addr) (v : Addr) (h0 : Heap) (F_a_value : Fld Z h0 a "java/lang/AbstractStringBuilder" "value" "[B" (.ref v)) :
    Met l Z EL0 n0 NR0 KN0 N_15 jdk_68_method_64_code 1 (Option.some (Jvm.ClassFile.FieldType.array Jvm.ClassFile.FieldType.byte)) R_m_gv [] #[(.ref a)] h0 (Q_m_gv Z a v h0) := by
  refine Met.of_go pn_m_gv (fun mid => ef_m_gv mid a v ) ?_
  intro hO hWS
  refine Go.aload_n (pc' := 1) d_jdk_68_method_64_0 rfl rfl rfl ?_
  refine Go.getF (pc' := 4) d_jdk_68_method_64_1 rfl (host := "") (Or.inl (w_47 hw)) Via.refl F_a_value ?_
  exact Go.retA d_jdk_68_method_64_4 rfl rfl rfl (by decide) (by decide) [] sn0 ⟨rfl, rfl, rfl⟩
abbrev R_m_al : Room := { frames := 0, cells := 0, slots := 0, locals := 0 }
theorem pn_m_al : plainFor (⟨"java/lang/AbstractStringBuilder", "length", "()I"⟩ : MethodName) = true := by first | (refine plainFor_of_name ?_; simp [plainName, overriddenIn]; done) | decide +kernel
abbrev Q_m_al (Z : State) (a : Addr) (cnt : Int32) (h0 : Heap) : Option Value → Heap → List Addr → Prop := fun res h' SN => res = some (.int cnt) ∧ SN = [] ∧ h0 = h'
theorem ef_m_al (mid : MethodId) (a : Addr) (cnt : Int32) : entryFrame mid #[(.ref a)] 1 = mkF mid 0 #[.val (.ref a)] [] := by first | (simp [entryFrame, mkF, argsToLocals, Value.category]; done) | rfl
set_option maxRecDepth 65536 in
set_option maxHeartbeats 40000000 in
theorem m_al {l : Launch} {Z : State} {a0 : Array Value} {n0 : Nat} (hw : ∀ d ∈ tables_1, d.before a0 Z = true) (hs : Stat Z) (a : Addr) (cnt : Int32) (h0 : Heap) (F_a_count : Fld Z h0 a "java/lang/AbstractStringBuilder" "count" "I" (.int cnt)) :
    Met l Z EL0 n0 NR0 KN0 N_16 jdk_68_method_6_code 1 (Option.some Jvm.ClassFile.FieldType.int) R_m_al [] #[(.ref a)] h0 (Q_m_al Z a cnt h0) := by
  refine Met.of_go pn_m_al (fun mid => ef_m_al mid a cnt ) ?_
  intro hO hWS
  refine Go.aload_n (pc' := 1) d_jdk_68_method_6_0 rfl rfl rfl ?_
  refine Go.getF (pc' := 4) d_jdk_68_method_6_1 rfl (host := "") (Or.inl (w_73 hw)) Via.refl F_a_count ?_
  exact Go.retI d_jdk_68_method_6_4 rfl (by decide) (by decide) [] sn0 ⟨rfl, rfl, rfl⟩
abbrev R_m_sl : Room := { frames := 1, cells := 0, slots := 0, locals := 12 }
theorem pn_m_sl : plainFor (⟨"java/lang/StringBuilder", "length", "()I"⟩ : MethodName) = true := by first | (refine plainFor_of_name ?_; simp [plainName, overriddenIn]; done) | decide +kernel
abbrev Q_m_sl (Z : State) (a : Addr) (cnt : Int32) (h0 : Heap) : Option Value → Heap → List Addr → Prop := fun res h' SN => res = some (.int cnt) ∧ SN = [] ∧ h0 = h'
theorem ef_m_sl (mid : MethodId) (a : Addr) (cnt : Int32) : entryFrame mid #[(.ref a)] 1 = mkF mid 0 #[.val (.ref a)] [] := by first | (simp [entryFrame, mkF, argsToLocals, Value.category]; done) | rfl
set_option maxRecDepth 65536 in
set_option maxHeartbeats 40000000 in
theorem m_sl {l : Launch} {Z : State} {a0 : Array Value} {n0 : Nat} (hw : ∀ d ∈ tables_1, d.before a0 Z = true) (hs : Stat Z) (a : Addr) (cnt : Int32) (h0 : Heap) (E_a : Exa Z h0 a "java/lang/StringBuilder") (F_a_count : Fld Z h0 a "java/lang/AbstractStringBuilder" "count" "I" (.int cnt)) :
    Met l Z EL0 n0 NR0 KN0 N_17 jdk_67_method_93_code 1 (Option.some Jvm.ClassFile.FieldType.int) R_m_sl [] #[(.ref a)] h0 (Q_m_sl Z a cnt h0) := by
  refine Met.of_go pn_m_sl (fun mid => ef_m_sl mid a cnt ) ?_
  intro hO hWS
  refine Go.aload_n (pc' := 1) d_jdk_67_method_93_0 rfl rfl rfl ?_
  refine Go.callSp (pc' := 4) (z := N_16) (a := a) d_jdk_67_method_93_1 rfl (w_147 hw) (own_same (z := N_16) (u := ({ cls := "java/lang/AbstractStringBuilder", name := "ensureCapacityInternal", desc := "(I)V" } : Jvm.MethodName)) (v := ({ cls := "java/lang/AbstractStringBuilder", name := "ensureCapacityInternal", desc := "(I)V" } : Jvm.MethodName)) (K := "java/lang/StringBuilder") (w_78 hw) rfl (by decide) (w_143 hw)) (w_143 hw) (w_59 hw) (w_148 hw) (by decide) (Ins.self E_a) (argsL := []) (rest := []) (Pays.of_met (W := 0) (len := 3) (m_al hw hs a cnt h0 F_a_count) (w_148 hw) (w_43 hw) (by decide) (by decide)) rfl rfl (lenOf pd_8 rfl) rfl (Nat.le_of_eq rfl) mem0 (by decide) (by decide) ?_
  rintro _ _ _ - - ⟨rfl, rfl, rfl⟩
  change Go _ _ _ _ _ _ _ _ _ _ _ _ _ _ [] h0 0 0 4 #[.val (.ref a)] [(.int cnt)]
  exact Go.retI d_jdk_67_method_93_4 rfl (by decide) (by decide) [] sn0 ⟨rfl, rfl, rfl⟩
abbrev R_m_ail : Room := { frames := 0, cells := 0, slots := 0, locals := 0 }
theorem pn_m_ail : plainFor (⟨"java/lang/AbstractStringBuilder", "isLatin1", "()Z"⟩ : MethodName) = true := by first | (refine plainFor_of_name ?_; simp [plainName, overriddenIn]; done) | decide +kernel
abbrev Q_m_ail (Z : State) (a : Addr) (h0 : Heap) : Option Value → Heap → List Addr → Prop := fun res h' SN => res = some (.int (1 : Int32)) ∧ SN = [] ∧ h0 = h'
theorem ef_m_ail (mid : MethodId) (a : Addr) : entryFrame mid #[(.ref a)] 1 = mkF mid 0 #[.val (.ref a)] [] := by first | (simp [entryFrame, mkF, argsToLocals, Value.category]; done) | rfl
set_option maxRecDepth 65536 in
set_option maxHeartbeats 40000000 in
theorem m_ail {l : Launch} {Z : State} {a0 : Array Value} {n0 : Nat} (hw : ∀ d ∈ tables_1, d.before a0 Z = true) (hs : Stat Z) (a : Addr) (h0 : Heap) (F_a_coder : Fld Z h0 a "java/lang/AbstractStringBuilder" "coder" "B" (.int (0 : Int32))) :
    Met l Z EL0 n0 NR0 KN0 N_18 jdk_68_method_68_code 1 (Option.some Jvm.ClassFile.FieldType.boolean) R_m_ail [] #[(.ref a)] h0 (Q_m_ail Z a h0) := by
  refine Met.of_go pn_m_ail (fun mid => ef_m_ail mid a ) ?_
  intro hO hWS
  obtain ⟨zc, S_c, hzc⟩ := hs_c hs
  refine Go.getS (pc' := 3) d_jdk_68_method_68_0 rfl (host := "") (Or.inl (w_46 hw)) Via.refl S_c ?_
  refine Go.ifN (pc' := 6) d_jdk_68_method_68_3 rfl ((if0 _ _).trans (feq (hzc : ¬ (zc = (0 : Int32)))).1) ?_
  refine Go.aload_n (pc' := 7) d_jdk_68_method_68_6 rfl rfl rfl ?_
  refine Go.getF (pc' := 10) d_jdk_68_method_68_7 rfl (host := "") (Or.inl (w_49 hw)) Via.refl F_a_coder ?_
  refine Go.ifN (pc' := 13) d_jdk_68_method_68_10 rfl ((if0 _ _).trans (teq (rfl : (0 : Int32) = (0 : Int32))).2) ?_
  refine Go.iconst (pc' := 14) d_jdk_68_method_68_13 rfl ic_1 ?_
  refine Go.goto (pc' := 18) d_jdk_68_method_68_14 (by decide) (by decide) ?_
  exact Go.retS (ty := .boolean) d_jdk_68_method_68_18 rfl (by simp) rfl (by decide) (by decide) [] sn0 ⟨rfl, rfl, rfl⟩
abbrev R_m_cl : Room := { frames := 0, cells := 0, slots := 0, locals := 0 }
theorem pn_m_cl : plainFor (⟨"java/util/Arrays", "checkLength", "(II)V"⟩ : MethodName) = true := by first | (refine plainFor_of_name ?_; simp [plainName, overriddenIn]; done) | decide +kernel
abbrev Q_m_cl (Z : State) (cnt : Int32) (h0 : Heap) : Option Value → Heap → List Addr → Prop := fun res h' SN => res = none ∧ SN = [] ∧ h0 = h'
theorem ef_m_cl (mid : MethodId) (cnt : Int32) : entryFrame mid #[(.int (0 : Int32)), (.int cnt)] 2 = mkF mid 0 #[.val (.int (0 : Int32)), .val (.int cnt)] [] := by first | (simp [entryFrame, mkF, argsToLocals, Value.category]; done) | rfl
set_option maxRecDepth 65536 in
set_option maxHeartbeats 40000000 in
theorem m_cl {l : Launch} {Z : State} {a0 : Array Value} {n0 : Nat} (hw : ∀ d ∈ tables_1, d.before a0 Z = true) (hs : Stat Z) (cnt : Int32) (h0 : Heap) (hc0 : ¬ cnt < (0 : Int32)) :
    Met l Z EL0 n0 NR0 KN0 N_19 jdk_65_method_131_code 2 (Option.none : Option Jvm.ClassFile.FieldType) R_m_cl [] #[(.int (0 : Int32)), (.int cnt)] h0 (Q_m_cl Z cnt h0) := by
  refine Met.of_go pn_m_cl (fun mid => ef_m_cl mid cnt ) ?_
  intro hO hWS
  refine Go.iload_n (pc' := 1) d_jdk_65_method_131_0 rfl rfl ?_
  refine Go.iload_n (pc' := 2) d_jdk_65_method_131_1 rfl rfl ?_
  refine Go.icmpY (pc' := 37) d_jdk_65_method_131_2 (by decide) (by decide) (flt (hc0 : ¬ (cnt < (0 : Int32)))).2.1 ?_
  exact Go.retV d_jdk_65_method_131_37 rfl (by decide) (by decide) [] sn0 ⟨rfl, rfl, rfl⟩
abbrev R_m_crb : Room := { frames := 1, cells := 1, slots := 34, locals := 24 }
theorem pn_m_crb : plainFor (⟨"java/util/Arrays", "copyOfRangeByte", "([BII)[B"⟩ : MethodName) = true := by first | (refine plainFor_of_name ?_; simp [plainName, overriddenIn]; done) | decide +kernel
abbrev Q_m_crb (Z : State) (v : Addr) (kv : ClassId) (us : List Int32) (cnt : Int32) (h0 : Heap) : Option Value → Heap → List Addr → Prop := fun res h' SN => ∃ (b : Addr) (kb : ClassId), res = some (.ref b) ∧ SN = [] ∧ h0.size ≤ b ∧ Arv Z h' b kb .byte cnt (us.map Value.int) (.int (0 : Int32))
theorem ef_m_crb (mid : MethodId) (v : Addr) (kv : ClassId) (us : List Int32) (cnt : Int32) : entryFrame mid #[(.ref v), (.int (0 : Int32)), (.int cnt)] 5 = mkF mid 0 #[.val (.ref v), .val (.int (0 : Int32)), .val (.int cnt), .unset, .unset] [] := by first | (simp [entryFrame, mkF, argsToLocals, Value.category]; done) | rfl
set_option maxRecDepth 65536 in
set_option maxHeartbeats 40000000 in
theorem m_crb {l : Launch} {Z : State} {a0 : Array Value} {n0 : Nat} (hw : ∀ d ∈ tables_1, d.before a0 Z = true) (hs : Stat Z) (v : Addr) (kv : ClassId) (us : List Int32) (cnt : Int32) (h0 : Heap) (V_v : Arv Z h0 v kv .byte (34 : Int32) (us.map Value.int) (.int (0 : Int32))) (hc0 : ¬ cnt < 0) (hcnt : cnt.toNatClampNeg = us.length) (hlt : us.length < 34) :
    Met l Z EL0 n0 NR0 KN0 N_20 jdk_65_method_133_code 5 (Option.some (Jvm.ClassFile.FieldType.array Jvm.ClassFile.FieldType.byte)) R_m_crb [] #[(.ref v), (.int (0 : Int32)), (.int cnt)] h0 (Q_m_crb Z v kv us cnt h0) := by
  refine Met.of_go pn_m_crb (fun mid => ef_m_crb mid v kv us cnt ) ?_
  intro hO hWS
  have e34 : (34 : Int32).toNatClampNeg = 34 := by decide
  have e00 : (0 : Int32).toNatClampNeg = 0 := by decide
  refine Go.iload_n (pc' := 1) d_jdk_65_method_133_0 rfl rfl ?_
  refine Go.iload_n (pc' := 2) d_jdk_65_method_133_1 rfl rfl ?_
  refine Go.callS (pc' := 5) (z := N_19) d_jdk_65_method_133_2 rfl (w_160 hw) (w_161 hw) (w_97 hw) (w_162 hw) (by decide) (argsL := [(.int (0 : Int32)), (.int cnt)]) (rest := []) (Pays.of_met (W := 0) (len := 3) (m_cl hw hs cnt h0 (hc0)) (w_162 hw) (w_97 hw) (by decide) (by decide)) rfl rfl (lenOf pd_11 rfl) rfl (Nat.le_of_eq rfl) mem0 (by decide) (by decide) ?_
  rintro _ _ _ - - ⟨rfl, rfl, rfl⟩
  change Go _ _ _ _ _ _ _ _ _ _ _ _ _ _ [] h0 0 0 5 #[.val (.ref v), .val (.int (0 : Int32)), .val (.int cnt), .unset, .unset] []
  refine Go.iload_n (pc' := 6) d_jdk_65_method_133_5 rfl rfl ?_
  refine Go.iload_n (pc' := 7) d_jdk_65_method_133_6 rfl rfl ?_
  refine Go.isub (pc' := 8) d_jdk_65_method_133_7 rfl ?_
  rw [own_sub0]
  refine Go.istore_n (pc' := 9) (Ls' := #[.val (.ref v), .val (.int (0 : Int32)), .val (.int cnt), .val (.int cnt), .unset]) d_jdk_65_method_133_8 rfl rfl ?_
  refine Go.iload_n (pc' := 10) d_jdk_65_method_133_9 rfl rfl ?_
  refine Go.newP (pc' := 12) (cap := 34) (ad := "[B") d_jdk_65_method_133_10 rfl (w_20 hw) (by decide) hc0 (by omega) (by decide) (by decide) (by decide) ?_
  intro h83 b84 g85 ge_b84 q87 x86 V_b84 E_b84
  have o_v_b84 : v ≠ b84 := Nat.ne_of_lt (Nat.lt_of_lt_of_le V_v.lt (Nat.le_of_eq g85))
  replace V_v := V_v.ext x86
  replace V_b84 : Arv Z h83 b84 q87 .byte cnt [] (.int (0 : Int32)) := V_b84
  change Go _ _ _ _ _ _ _ _ _ _ _ _ _ _ [b84] h83 1 34 12 #[.val (.ref v), .val (.int (0 : Int32)), .val (.int cnt), .val (.int cnt), .unset] [(.ref b84)]
  replace V_b84 : Arv Z h83 b84 q87 .byte cnt (List.replicate us.length (.int (0 : Int32))) (.int (0 : Int32)) := V_b84.pad (pad_rep [] _ _)
  refine Go.astore (pc' := 14) (Ls' := #[.val (.ref v), .val (.int (0 : Int32)), .val (.int cnt), .val (.int cnt), .val (.ref b84)]) d_jdk_65_method_133_12 rfl rfl rfl ?_
  refine Go.aload_n (pc' := 15) d_jdk_65_method_133_14 rfl rfl rfl ?_
  refine Go.iload_n (pc' := 16) d_jdk_65_method_133_15 rfl rfl ?_
  refine Go.aload (pc' := 18) d_jdk_65_method_133_16 rfl rfl rfl ?_
  refine Go.iconst (pc' := 19) d_jdk_65_method_133_18 rfl ic_0 ?_
  refine Go.aload_n (pc' := 20) d_jdk_65_method_133_19 rfl rfl rfl ?_
  refine Go.lenV (pc' := 21) d_jdk_65_method_133_20 rfl V_v ?_
  refine Go.iload_n (pc' := 22) d_jdk_65_method_133_21 rfl rfl ?_
  refine Go.isub (pc' := 23) d_jdk_65_method_133_22 rfl ?_
  rw [show ((34 : Int32) - (0 : Int32)) = (34 : Int32) from by decide]
  refine Go.iload_n (pc' := 24) d_jdk_65_method_133_23 rfl rfl ?_
  refine Go.callS (pc' := 27) (z := N_3) d_jdk_65_method_133_24 rfl (w_99 hw) (w_100 hw) (w_91 hw) (w_101 hw) (by decide) (argsL := [(.int (34 : Int32)), (.int cnt)]) (rest := [(.int (0 : Int32)), (.ref b84), (.int (0 : Int32)), (.ref v)]) (Pays.of_met (W := 4) (len := 3) (m_min hw hs (34 : Int32) cnt h83) (w_101 hw) (w_91 hw) (by decide) (by decide)) rfl rfl (lenOf pd_1 rfl) rfl (Nat.le_of_eq rfl) mem0 (by decide) (by decide) ?_
  rintro _ _ _ - - ⟨rfl, rfl, rfl⟩
  change Go _ _ _ _ _ _ _ _ _ _ _ _ _ _ [b84] h83 1 34 27 #[.val (.ref v), .val (.int (0 : Int32)), .val (.int cnt), .val (.int cnt), .val (.ref b84)] [(.int (if cnt < (34 : Int32) then cnt else (34 : Int32))), (.int (0 : Int32)), (.ref b84), (.int (0 : Int32)), (.ref v)]
  rw [own_min34 hc0 (by omega)]
  refine Go.cpA (pc' := 30) (W := 0) (us := (us.map Value.int)) d_jdk_65_method_133_27 rfl (List.mem_of_getElem? (i := 0) rfl) (w_102 hw) (w_105 hw) (w_103 hw) (w_104 hw) V_v V_b84 (Or.inl ⟨rfl, rfl⟩) (by decide) (by decide) hc0 (by omega) (by omega) (own_range_all us _ hcnt.symm) (by simp; omega) rfl (by decide) (Nat.le_of_eq rfl) (by decide) ?_
  intro h9 K9 V9
  change Go _ _ _ _ _ _ _ _ _ _ _ _ _ _ [b84] h9 1 34 30 #[.val (.ref v), .val (.int (0 : Int32)), .val (.int cnt), .val (.int cnt), .val (.ref b84)] []
  refine Go.aload (pc' := 32) d_jdk_65_method_133_30 rfl rfl rfl ?_
  exact Go.retA d_jdk_65_method_133_32 rfl rfl rfl (by decide) (by decide) [] sn0 ⟨b84, _, rfl, rfl, ge_b84, V9.pad (own_cpall hcnt)⟩
abbrev R_m_cor : Room := { frames := 2, cells := 1, slots := 34, locals := 40 }
theorem pn_m_cor : plainFor (⟨"java/util/Arrays", "copyOfRange", "([BII)[B"⟩ : MethodName) = true := by first | (refine plainFor_of_name ?_; simp [plainName, overriddenIn]; done) | decide +kernel
abbrev Q_m_cor (Z : State) (v : Addr) (kv : ClassId) (us : List Int32) (cnt : Int32) (h0 : Heap) : Option Value → Heap → List Addr → Prop := fun res h' SN => ∃ (b : Addr) (kb : ClassId), res = some (.ref b) ∧ SN = [] ∧ h0.size ≤ b ∧ Arv Z h' b kb .byte cnt (us.map Value.int) (.int (0 : Int32))
theorem ef_m_cor (mid : MethodId) (v : Addr) (kv : ClassId) (us : List Int32) (cnt : Int32) : entryFrame mid #[(.ref v), (.int (0 : Int32)), (.int cnt)] 3 = mkF mid 0 #[.val (.ref v), .val (.int (0 : Int32)), .val (.int cnt)] [] := by first | (simp [entryFrame, mkF, argsToLocals, Value.category]; done) | rfl
set_option maxRecDepth 65536 in
set_option maxHeartbeats 40000000 in
theorem m_cor {l : Launch} {Z : State} {a0 : Array Value} {n0 : Nat} (hw : ∀ d ∈ tables_1, d.before a0 Z = true) (hs : Stat Z) (v : Addr) (kv : ClassId) (us : List Int32) (cnt : Int32) (h0 : Heap) (V_v : Arv Z h0 v kv .byte (34 : Int32) (us.map Value.int) (.int (0 : Int32))) (hc0 : ¬ cnt < 0) (hcnt : cnt.toNatClampNeg = us.length) (hlt : us.length < 34) :
    Met l Z EL0 n0 NR0 KN0 N_21 jdk_65_method_132_code 3 (Option.some (Jvm.ClassFile.FieldType.array Jvm.ClassFile.FieldType.byte)) R_m_cor [] #[(.ref v), (.int (0 : Int32)), (.int cnt)] h0 (Q_m_cor Z v kv us cnt h0) := by
  refine Met.of_go pn_m_cor (fun mid => ef_m_cor mid v kv us cnt ) ?_
  intro hO hWS
  refine Go.iload_n (pc' := 1) d_jdk_65_method_132_0 rfl rfl ?_
  refine Go.ifN (pc' := 4) d_jdk_65_method_132_1 rfl ((if0 _ _).trans (teq (rfl : (0 : Int32) = (0 : Int32))).2) ?_
  refine Go.iload_n (pc' := 5) d_jdk_65_method_132_4 rfl rfl ?_
  refine Go.aload_n (pc' := 6) d_jdk_65_method_132_5 rfl rfl rfl ?_
  refine Go.lenV (pc' := 7) d_jdk_65_method_132_6 rfl V_v ?_
  refine Go.icmpN (pc' := 10) d_jdk_65_method_132_7 rfl (feq (fun e => by have e34 : (34 : Int32).toNatClampNeg = 34 := (by decide); rw [e] at hcnt; omega : ¬ (cnt = (34 : Int32)))).1 ?_
  refine Go.aload_n (pc' := 11) d_jdk_65_method_132_10 rfl rfl rfl ?_
  refine Go.iload_n (pc' := 12) d_jdk_65_method_132_11 rfl rfl ?_
  refine Go.iload_n (pc' := 13) d_jdk_65_method_132_12 rfl rfl ?_
  refine Go.callS (pc' := 16) (z := N_20) d_jdk_65_method_132_13 rfl (w_157 hw) (w_158 hw) (w_97 hw) (w_159 hw) (by decide) (argsL := [(.ref v), (.int (0 : Int32)), (.int cnt)]) (rest := []) (Pays.of_met (W := 0) (len := 3) (m_crb hw hs v kv us cnt h0 V_v (hc0) (hcnt) (hlt)) (w_159 hw) (w_97 hw) (by decide) (by decide)) rfl rfl (lenOf pd_12 rfl) rfl (Nat.le_of_eq rfl) mem0 (by decide) (by decide) ?_
  rintro _ h90 _ K91 le92 ⟨b88, q89, rfl, rfl, p93, p94⟩
  have o_v_b88 : v ≠ b88 := Nat.ne_of_lt (Nat.lt_of_lt_of_le V_v.lt p93)
  have ge_b88 := Nat.le_trans le92 p93
  replace V_v := V_v.keep K91 nin0
  have V_b88 := p94
  change Go _ _ _ _ _ _ _ _ _ _ _ _ _ _ [] h90 1 34 16 #[.val (.ref v), .val (.int (0 : Int32)), .val (.int cnt)] [(.ref b88)]
  exact Go.retA d_jdk_65_method_132_16 rfl rfl rfl (by decide) (by decide) [] sn0 ⟨b88, _, rfl, rfl, ge_b88, V_b88⟩
abbrev R_m_si2 : Room := { frames := 3, cells := 1, slots := 34, locals := 55 }
theorem pn_m_si2 : plainFor (⟨"java/lang/String", "<init>", "(Ljava/lang/AbstractStringBuilder;Ljava/lang/Void;)V"⟩ : MethodName) = true := by first | (refine plainFor_of_name ?_; simp [plainName, overriddenIn]; done) | decide +kernel
abbrev Q_m_si2 (Z : State) (n : Addr) (a : Addr) (v : Addr) (kv : ClassId) (us : List Int32) (cnt : Int32) (h0 : Heap) : Option Value → Heap → List Addr → Prop := fun res h' SN => ∃ (b : Addr) (kb : ClassId), res = none ∧ SN = [] ∧ Exa Z h' n "java/lang/String" ∧ Fld Z h' n "java/lang/String" "coder" "B" (.int (0 : Int32)) ∧ Fld Z h' n "java/lang/String" "value" "[B" (.ref b) ∧ h0.size ≤ b ∧ Arv Z h' b kb .byte cnt (us.map Value.int) (.int (0 : Int32))
theorem ef_m_si2 (mid : MethodId) (n : Addr) (a : Addr) (v : Addr) (kv : ClassId) (us : List Int32) (cnt : Int32) : entryFrame mid #[(.ref n), (.ref a), .null] 5 = mkF mid 0 #[.val (.ref n), .val (.ref a), .val .null, .unset, .unset] [] := by first | (simp [entryFrame, mkF, argsToLocals, Value.category]; done) | rfl
set_option maxRecDepth 65536 in
set_option maxHeartbeats 40000000 in
theorem m_si2 {l : Launch} {Z : State} {a0 : Array Value} {n0 : Nat} (hw : ∀ d ∈ tables_1, d.before a0 Z = true) (hs : Stat Z) (n : Addr) (a : Addr) (v : Addr) (kv : ClassId) (us : List Int32) (cnt : Int32) (h0 : Heap) (E_n : Exa Z h0 n "java/lang/String") (F_n_coder : Fld Z h0 n "java/lang/String" "coder" "B" (.int (0 : Int32))) (F_n_value : Fld Z h0 n "java/lang/String" "value" "[B" .null) (E_a : Exa Z h0 a "java/lang/StringBuilder") (F_a_value : Fld Z h0 a "java/lang/AbstractStringBuilder" "value" "[B" (.ref v)) (F_a_coder : Fld Z h0 a "java/lang/AbstractStringBuilder" "coder" "B" (.int (0 : Int32))) (F_a_count : Fld Z h0 a "java/lang/AbstractStringBuilder" "count" "I" (.int cnt)) (V_v : Arv Z h0 v kv .byte (34 : Int32) (us.map Value.int) (.int (0 : Int32))) (hc0 : ¬ cnt < 0) (hcnt : cnt.toNatClampNeg = us.length) (hlt : us.length < 34) (ne_a_n : a ≠ n) (ne_v_n : v ≠ n) :
    Met l Z EL0 n0 NR0 KN0 N_22 jdk_42_method_150_code 5 (Option.none : Option Jvm.ClassFile.FieldType) R_m_si2 [n] #[(.ref n), (.ref a), .null] h0 (Q_m_si2 Z n a v kv us cnt h0) := by
  refine Met.of_go pn_m_si2 (fun mid => ef_m_si2 mid n a v kv us cnt ) ?_
  intro hO hWS
  refine Go.aload_n (pc' := 1) d_jdk_42_method_150_0 rfl rfl rfl ?_
  refine Go.initO (pc' := 4) (W := 0) d_jdk_42_method_150_1 rfl (w_16 hw) (w_17 hw) (w_18 hw) rfl (by decide) (Nat.le_of_eq rfl) (by decide) ?_
  refine Go.aload_n (pc' := 5) d_jdk_42_method_150_4 rfl rfl rfl ?_
  refine Go.callV (pc' := 8) (u := N_15) (z := N_15) (a := a) d_jdk_42_method_150_5 rfl (w_136 hw) (w_137 hw) (nf (w_139 hw) rfl) (w_139 hw) (w_138 hw) (by decide) E_a (argsL := []) (rest := []) (Pays.of_met (W := 0) (len := 3) (m_gv hw hs a v h0 F_a_value) (w_140 hw) (w_43 hw) (by decide) (by decide)) rfl rfl (lenOf pd_13 rfl) rfl (Nat.le_of_eq rfl) mem0 (by decide) (by decide) ?_
  rintro _ _ _ - - ⟨rfl, rfl, rfl⟩
  change Go _ _ _ _ _ _ _ _ _ _ _ _ _ _ [n] h0 0 0 8 #[.val (.ref n), .val (.ref a), .val .null, .unset, .unset] [(.ref v)]
  refine Go.astore_n (pc' := 9) (Ls' := #[.val (.ref n), .val (.ref a), .val .null, .val (.ref v), .unset]) d_jdk_42_method_150_8 rfl rfl rfl ?_
  refine Go.aload_n (pc' := 10) d_jdk_42_method_150_9 rfl rfl rfl ?_
  refine Go.callV (pc' := 13) (u := N_16) (z := N_17) (a := a) d_jdk_42_method_150_10 rfl (w_141 hw) (w_142 hw) (fun s hZ => own_nf (args := #[]) (mvT hZ (w_139 hw)) rfl) (w_144 hw) (w_145 hw) (by decide) E_a (argsL := []) (rest := []) (Pays.of_met (W := 0) (len := 3) (m_sl hw hs a cnt h0 E_a F_a_count) (w_146 hw) (w_35 hw) (by decide) (by decide)) rfl rfl (lenOf pd_8 rfl) rfl (Nat.le_of_eq rfl) mem0 (by decide) (by decide) ?_
  rintro _ _ _ - - ⟨rfl, rfl, rfl⟩
  change Go _ _ _ _ _ _ _ _ _ _ _ _ _ _ [n] h0 0 0 13 #[.val (.ref n), .val (.ref a), .val .null, .val (.ref v), .unset] [(.int cnt)]
  refine Go.istore (pc' := 15) (Ls' := #[.val (.ref n), .val (.ref a), .val .null, .val (.ref v), .val (.int cnt)]) d_jdk_42_method_150_13 rfl rfl ?_
  refine Go.aload_n (pc' := 16) d_jdk_42_method_150_15 rfl rfl rfl ?_
  refine Go.callV (pc' := 19) (u := N_18) (z := N_18) (a := a) d_jdk_42_method_150_16 rfl (w_149 hw) (w_150 hw) (nf (w_152 hw) rfl) (w_152 hw) (w_151 hw) (by decide) E_a (argsL := []) (rest := []) (Pays.of_met (W := 0) (len := 3) (m_ail hw hs a h0 F_a_coder) (w_153 hw) (w_43 hw) (by decide) (by decide)) rfl rfl (lenOf pd_14 rfl) rfl (Nat.le_of_eq rfl) mem0 (by decide) (by decide) ?_
  rintro _ _ _ - - ⟨rfl, rfl, rfl⟩
  change Go _ _ _ _ _ _ _ _ _ _ _ _ _ _ [n] h0 0 0 19 #[.val (.ref n), .val (.ref a), .val .null, .val (.ref v), .val (.int cnt)] [(.int (1 : Int32))]
  refine Go.ifN (pc' := 22) d_jdk_42_method_150_19 rfl ((if0 _ _).trans (feq (by decide : ¬ ((1 : Int32) = (0 : Int32)))).1) ?_
  refine Go.aload_n (pc' := 23) d_jdk_42_method_150_22 rfl rfl rfl ?_
  refine Go.iconst (pc' := 24) d_jdk_42_method_150_23 rfl ic_0 ?_
  refine Go.putFN (pc' := 27) (v' := (.int (0 : Int32))) d_jdk_42_method_150_24 rfl (List.mem_of_getElem? (i := 0) rfl) (w_26 hw) Via.refl F_n_coder E_n (Or.inr ⟨(w_22 hw), rfl, rfl⟩) (w_6 hw) (ty := .byte) (by decide) rfl rfl ?_
  intro h95 W96
  replace F_n_coder := F_n_coder.same W96
  replace E_n := E_n.wr W96
  replace F_n_value := F_n_value.other W96 (Or.inr (slot_ne (Or.inr (w_21 hw)) (Or.inr (w_22 hw)) (by decide) (t := (.array .byte)) (t' := .byte) (by decide) (by decide)))
  replace E_a := E_a.wr W96
  replace F_a_value := F_a_value.other W96 (Or.inl ne_a_n)
  replace F_a_coder := F_a_coder.other W96 (Or.inl ne_a_n)
  replace F_a_count := F_a_count.other W96 (Or.inl ne_a_n)
  replace V_v := V_v.other W96 ne_v_n
  change Go _ _ _ _ _ _ _ _ _ _ _ _ _ _ [n] h95 0 0 27 #[.val (.ref n), .val (.ref a), .val .null, .val (.ref v), .val (.int cnt)] []
  refine Go.aload_n (pc' := 28) d_jdk_42_method_150_27 rfl rfl rfl ?_
  refine Go.aload_n (pc' := 29) d_jdk_42_method_150_28 rfl rfl rfl ?_
  refine Go.iconst (pc' := 30) d_jdk_42_method_150_29 rfl ic_0 ?_
  refine Go.iload (pc' := 32) d_jdk_42_method_150_30 rfl rfl ?_
  refine Go.callS (pc' := 35) (z := N_21) d_jdk_42_method_150_32 rfl (w_154 hw) (w_155 hw) (w_97 hw) (w_156 hw) (by decide) (argsL := [(.ref v), (.int (0 : Int32)), (.int cnt)]) (rest := [(.ref n)]) (Pays.of_met (W := 1) (len := 3) (m_cor hw hs v kv us cnt h95 V_v (hc0) (hcnt) (hlt)) (w_156 hw) (w_97 hw) (by decide) (by decide)) rfl rfl (lenOf pd_12 rfl) rfl (Nat.le_of_eq rfl) mem0 (by decide) (by decide) ?_
  rintro _ h99 _ K100 le101 ⟨b97, q98, rfl, rfl, p102, p103⟩
  have o_n_b97 : n ≠ b97 := Nat.ne_of_lt (Nat.lt_of_lt_of_le E_n.lt p102)
  have o_a_b97 : a ≠ b97 := Nat.ne_of_lt (Nat.lt_of_lt_of_le E_a.lt p102)
  have o_v_b97 : v ≠ b97 := Nat.ne_of_lt (Nat.lt_of_lt_of_le V_v.lt p102)
  have ge_b97 := Nat.le_trans le101 p102
  replace E_n := E_n.keep K100
  replace F_n_value := F_n_value.keep K100 nin0
  replace E_a := E_a.keep K100
  replace F_a_value := F_a_value.keep K100 nin0
  replace F_a_coder := F_a_coder.keep K100 nin0
  replace F_a_count := F_a_count.keep K100 nin0
  replace V_v := V_v.keep K100 nin0
  replace F_n_coder := F_n_coder.keep K100 nin0
  have V_b97 := p103
  change Go _ _ _ _ _ _ _ _ _ _ _ _ _ _ [n] h99 1 34 35 #[.val (.ref n), .val (.ref a), .val .null, .val (.ref v), .val (.int cnt)] [(.ref b97), (.ref n)]
  refine Go.putF (pc' := 38) d_jdk_42_method_150_35 rfl (List.mem_of_getElem? (i := 0) rfl) (host := "") (Or.inl (w_25 hw)) Via.refl F_n_value E_n (Or.inr ⟨(w_21 hw), rfl, rfl⟩) (w_6 hw) (ty := (.array .byte)) (by decide) rfl rfl ?_
  intro h104 W105
  replace F_n_value := F_n_value.same W105
  replace E_n := E_n.wr W105
  replace E_a := E_a.wr W105
  replace F_a_value := F_a_value.other W105 (Or.inl ne_a_n)
  replace F_a_coder := F_a_coder.other W105 (Or.inl ne_a_n)
  replace F_a_count := F_a_count.other W105 (Or.inl ne_a_n)
  replace V_v := V_v.other W105 ne_v_n
  replace F_n_coder := F_n_coder.other W105 (Or.inr (slot_ne (Or.inr (w_22 hw)) (Or.inr (w_21 hw)) (by decide) (t := .byte) (t' := (.array .byte)) (by decide) (by decide)))
  replace V_b97 := V_b97.other W105 (Ne.symm o_n_b97)
  change Go _ _ _ _ _ _ _ _ _ _ _ _ _ _ [n] h104 1 34 38 #[.val (.ref n), .val (.ref a), .val .null, .val (.ref v), .val (.int cnt)] []
  refine Go.goto (pc' := 97) d_jdk_42_method_150_38 (by decide) (by decide) ?_
  exact Go.retV d_jdk_42_method_150_97 rfl (by decide) (by decide) [] sn0 ⟨b97, _, rfl, rfl, E_n, F_n_coder, F_n_value, ge_b97, V_b97⟩
abbrev R_m_si1 : Room := { frames := 4, cells := 1, slots := 34, locals := 71 }
theorem pn_m_si1 : plainFor (⟨"java/lang/String", "<init>", "(Ljava/lang/StringBuilder;)V"⟩ : MethodName) = true := by first | (refine plainFor_of_name ?_; simp [plainName, overriddenIn]; done) | decide +kernel
abbrev Q_m_si1 (Z : State) (n : Addr) (a : Addr) (v : Addr) (kv : ClassId) (us : List Int32) (cnt : Int32) (h0 : Heap) : Option Value → Heap → List Addr → Prop := fun res h' SN => ∃ (b : Addr) (kb : ClassId), res = none ∧ SN = [] ∧ Exa Z h' n "java/lang/String" ∧ Fld Z h' n "java/lang/String" "coder" "B" (.int (0 : Int32)) ∧ Fld Z h' n "java/lang/String" "value" "[B" (.ref b) ∧ h0.size ≤ b ∧ Arv Z h' b kb .byte cnt (us.map Value.int) (.int (0 : Int32))
theorem ef_m_si1 (mid : MethodId) (n : Addr) (a : Addr) (v : Addr) (kv : ClassId) (us : List Int32) (cnt : Int32) : entryFrame mid #[(.ref n), (.ref a)] 2 = mkF mid 0 #[.val (.ref n), .val (.ref a)] [] := by first | (simp [entryFrame, mkF, argsToLocals, Value.category]; done) | rfl
set_option maxRecDepth 65536 in
set_option maxHeartbeats 40000000 in
theorem m_si1 {l : Launch} {Z : State} {a0 : Array Value} {n0 : Nat} (hw : ∀ d ∈ tables_1, d.before a0 Z = true) (hs : Stat Z) (n : Addr) (a : Addr) (v : Addr) (kv : ClassId) (us : List Int32) (cnt : Int32) (h0 : Heap) (E_n : Exa Z h0 n "java/lang/String") (F_n_coder : Fld Z h0 n "java/lang/String" "coder" "B" (.int (0 : Int32))) (F_n_value : Fld Z h0 n "java/lang/String" "value" "[B" .null) (E_a : Exa Z h0 a "java/lang/StringBuilder") (F_a_value : Fld Z h0 a "java/lang/AbstractStringBuilder" "value" "[B" (.ref v)) (F_a_coder : Fld Z h0 a "java/lang/AbstractStringBuilder" "coder" "B" (.int (0 : Int32))) (F_a_count : Fld Z h0 a "java/lang/AbstractStringBuilder" "count" "I" (.int cnt)) (V_v : Arv Z h0 v kv .byte (34 : Int32) (us.map Value.int) (.int (0 : Int32))) (hc0 : ¬ cnt < 0) (hcnt : cnt.toNatClampNeg = us.length) (hlt : us.length < 34) (ne_a_n : a ≠ n) (ne_v_n : v ≠ n) :
    Met l Z EL0 n0 NR0 KN0 N_23 jdk_42_method_53_code 2 (Option.none : Option Jvm.ClassFile.FieldType) R_m_si1 [n] #[(.ref n), (.ref a)] h0 (Q_m_si1 Z n a v kv us cnt h0) := by
  refine Met.of_go pn_m_si1 (fun mid => ef_m_si1 mid n a v kv us cnt ) ?_
  intro hO hWS
  refine Go.aload_n (pc' := 1) d_jdk_42_method_53_0 rfl rfl rfl ?_
  refine Go.aload_n (pc' := 2) d_jdk_42_method_53_1 rfl rfl rfl ?_
  refine Go.aconst_null (pc' := 3) d_jdk_42_method_53_2 rfl ?_
  refine Go.callI (pc' := 6) (z := N_22) (a := n) d_jdk_42_method_53_3 rfl rfl (w_133 hw) (w_134 hw) (w_135 hw) (by decide) (argsL := [(.ref a), .null]) (rest := []) (Pays.of_met (W := 0) (len := 3) (m_si2 hw hs n a v kv us cnt h0 E_n F_n_coder F_n_value E_a F_a_value F_a_coder F_a_count V_v (hc0) (hcnt) (hlt) ne_a_n ne_v_n) (w_135 hw) (w_7 hw) (by decide) (by decide)) rfl rfl (lenOf pd_15 rfl) rfl (Nat.le_of_eq rfl) (memS (List.mem_of_getElem? (i := 0) rfl) mem0) (by decide) (by decide) ?_
  rintro _ h108 _ K109 le110 ⟨b106, q107, rfl, rfl, p111, p112, p113, p114, p115⟩
  have o_n_b106 : n ≠ b106 := Nat.ne_of_lt (Nat.lt_of_lt_of_le E_n.lt p114)
  have o_a_b106 : a ≠ b106 := Nat.ne_of_lt (Nat.lt_of_lt_of_le E_a.lt p114)
  have o_v_b106 : v ≠ b106 := Nat.ne_of_lt (Nat.lt_of_lt_of_le V_v.lt p114)
  have ge_b106 := Nat.le_trans le110 p114
  replace E_n := E_n.keep K109
  replace E_a := E_a.keep K109
  replace F_a_value := F_a_value.keep K109 (ninS ne_a_n nin0)
  replace F_a_coder := F_a_coder.keep K109 (ninS ne_a_n nin0)
  replace F_a_count := F_a_count.keep K109 (ninS ne_a_n nin0)
  replace V_v := V_v.keep K109 (ninS ne_v_n nin0)
  have F_n_coder := p112
  have F_n_value := p113
  have V_b106 := p115
  change Go _ _ _ _ _ _ _ _ _ _ _ _ _ _ [n] h108 1 34 6 #[.val (.ref n), .val (.ref a)] []
  exact Go.retV d_jdk_42_method_53_6 rfl (by decide) (by decide) [] sn0 ⟨b106, _, rfl, rfl, E_n, F_n_coder, F_n_value, ge_b106, V_b106⟩
abbrev R_m_sts : Room := { frames := 5, cells := 2, slots := 38, locals := 85 }
theorem pn_m_sts : plainFor (⟨"java/lang/StringBuilder", "toString", "()Ljava/lang/String;"⟩ : MethodName) = true := by first | (refine plainFor_of_name ?_; simp [plainName, overriddenIn]; done) | decide +kernel
abbrev Q_m_sts (Z : State) (a : Addr) (v : Addr) (kv : ClassId) (us : List Int32) (cnt : Int32) (h0 : Heap) : Option Value → Heap → List Addr → Prop := fun res h' SN => ∃ (n : Addr) (b : Addr) (kb : ClassId), res = some (.ref n) ∧ SN = [] ∧ h0.size ≤ n ∧ Exa Z h' n "java/lang/String" ∧ Fld Z h' n "java/lang/String" "coder" "B" (.int (0 : Int32)) ∧ Fld Z h' n "java/lang/String" "value" "[B" (.ref b) ∧ h0.size ≤ b ∧ Arv Z h' b kb .byte cnt (us.map Value.int) (.int (0 : Int32))
theorem ef_m_sts (mid : MethodId) (a : Addr) (v : Addr) (kv : ClassId) (us : List Int32) (cnt : Int32) : entryFrame mid #[(.ref a)] 1 = mkF mid 0 #[.val (.ref a)] [] := by first | (simp [entryFrame, mkF, argsToLocals, Value.category]; done) | rfl
set_option maxRecDepth 65536 in
set_option maxHeartbeats 40000000 in
theorem m_sts {l : Launch} {Z : State} {a0 : Array Value} {n0 : Nat} (hw : ∀ d ∈ tables_1, d.before a0 Z = true) (hs : Stat Z) (a : Addr) (v : Addr) (kv : ClassId) (us : List Int32) (cnt : Int32) (h0 : Heap) (E_a : Exa Z h0 a "java/lang/StringBuilder") (F_a_value : Fld Z h0 a "java/lang/AbstractStringBuilder" "value" "[B" (.ref v)) (F_a_coder : Fld Z h0 a "java/lang/AbstractStringBuilder" "coder" "B" (.int (0 : Int32))) (F_a_count : Fld Z h0 a "java/lang/AbstractStringBuilder" "count" "I" (.int cnt)) (V_v : Arv Z h0 v kv .byte (34 : Int32) (us.map Value.int) (.int (0 : Int32))) (hc0 : ¬ cnt < 0) (hcnt : cnt.toNatClampNeg = us.length) (hlt : us.length < 34) :
    Met l Z EL0 n0 NR0 KN0 N_24 jdk_67_method_42_code 1 (Option.some (Jvm.ClassFile.FieldType.object "java/lang/String")) R_m_sts [] #[(.ref a)] h0 (Q_m_sts Z a v kv us cnt h0) := by
  refine Met.of_go pn_m_sts (fun mid => ef_m_sts mid a v kv us cnt ) ?_
  intro hO hWS
  refine Go.newO (pc' := 3) d_jdk_67_method_42_0 rfl (w_129 hw) (w_6 hw) (w_7 hw) (by decide) (by decide) ?_
  intro h116 b117 g118 ge_b117 x119 E_b117 D_b117 U_b117
  have o_a_b117 : a ≠ b117 := Nat.ne_of_lt (Nat.lt_of_lt_of_le E_a.lt (Nat.le_of_eq g118))
  have o_v_b117 : v ≠ b117 := Nat.ne_of_lt (Nat.lt_of_lt_of_le V_v.lt (Nat.le_of_eq g118))
  replace E_a := E_a.ext x119
  replace F_a_value := F_a_value.ext x119
  replace F_a_coder := F_a_coder.ext x119
  replace F_a_count := F_a_count.ext x119
  replace V_v := V_v.ext x119
  have F_b117_value : Fld Z h116 b117 "java/lang/String" "value" "[B" .null := D_b117 (Or.inr (w_21 hw)) (ty := (.array .byte)) (by decide)
  have F_b117_coder : Fld Z h116 b117 "java/lang/String" "coder" "B" (.int (0 : Int32)) := D_b117 (Or.inr (w_22 hw)) (ty := .byte) (by decide)
  change Go _ _ _ _ _ _ _ _ _ _ _ _ _ _ [b117] h116 1 4 3 #[.val (.ref a)] [(.ref b117)]
  refine Go.dup (pc' := 4) d_jdk_67_method_42_3 rfl rfl ?_
  refine Go.aload_n (pc' := 5) d_jdk_67_method_42_4 rfl rfl rfl ?_
  refine Go.callI (pc' := 8) (z := N_23) (a := b117) d_jdk_67_method_42_5 rfl rfl (w_130 hw) (w_131 hw) (w_132 hw) (by decide) (argsL := [(.ref a)]) (rest := [(.ref b117)]) (Pays.of_met (W := 1) (len := 3) (m_si1 hw hs b117 a v kv us cnt h116 E_b117 F_b117_coder F_b117_value E_a F_a_value F_a_coder F_a_count V_v (hc0) (hcnt) (hlt) o_a_b117 o_v_b117) (w_132 hw) (w_7 hw) (by decide) (by decide)) rfl rfl (lenOf pd_16 rfl) rfl (Nat.le_of_eq rfl) (memS (List.mem_of_getElem? (i := 0) rfl) mem0) (by decide) (by decide) ?_
  rintro _ h122 _ K123 le124 ⟨b120, q121, rfl, rfl, p125, p126, p127, p128, p129⟩
  have o_a_b120 : a ≠ b120 := Nat.ne_of_lt (Nat.lt_of_lt_of_le E_a.lt p128)
  have o_v_b120 : v ≠ b120 := Nat.ne_of_lt (Nat.lt_of_lt_of_le V_v.lt p128)
  have o_b117_b120 : b117 ≠ b120 := Nat.ne_of_lt (Nat.lt_of_lt_of_le E_b117.lt p128)
  have ge_b120 := Nat.le_trans le124 p128
  replace E_a := E_a.keep K123
  replace F_a_value := F_a_value.keep K123 (ninS o_a_b117 nin0)
  replace F_a_coder := F_a_coder.keep K123 (ninS o_a_b117 nin0)
  replace F_a_count := F_a_count.keep K123 (ninS o_a_b117 nin0)
  replace V_v := V_v.keep K123 (ninS o_v_b117 nin0)
  replace E_b117 := E_b117.keep K123
  have F_b117_coder := p126
  have F_b117_value := p127
  have V_b120 := p129
  change Go _ _ _ _ _ _ _ _ _ _ _ _ _ _ [b117] h122 2 38 8 #[.val (.ref a)] [(.ref b117)]
  exact Go.retA d_jdk_67_method_42_8 rfl rfl rfl (by decide) (by decide) [] sn0 ⟨b117, b120, _, rfl, rfl, ge_b117, E_b117, F_b117_coder, F_b117_value, ge_b120, V_b120⟩
theorem thrW {Z : State} {a0 : Array Value} (hw : ∀ d ∈ tables_1, d.before a0 Z = true) : ThrW Z a0 "com/example/slackline/slackline/TooLargeException" 6 := fun d hd => by
  simp only [ThrWL, List.mem_cons, List.not_mem_nil, or_false] at hd
  rcases hd with rfl | rfl | rfl | rfl | rfl | rfl | rfl | rfl | rfl | rfl | rfl | rfl | rfl | rfl | rfl | rfl | rfl | rfl | rfl | rfl | rfl | rfl | rfl | rfl | rfl | rfl | rfl | rfl | rfl | rfl
  · exact (w_175 hw)
  · exact (w_193 hw)
  · exact (w_188 hw)
  · exact (by have e : jdk_78_method_18_code = LibCode.Throwable.Fill.code := (by decide +kernel); exact e ▸ (w_194 hw))
  · exact (w_195 hw)
  · exact (w_196 hw)
  · exact (w_17 hw)
  · exact (w_18 hw)
  · exact (w_177 hw)
  · exact (w_186 hw)
  · exact (w_199 hw)
  · exact (w_178 hw)
  · exact (w_181 hw)
  · exact (w_184 hw)
  · exact (w_180 hw)
  · exact (w_183 hw)
  · exact (w_204 hw)
  · exact (w_179 hw)
  · exact (w_182 hw)
  · exact (w_185 hw)
  · exact (w_209 hw)
  · exact (w_210 hw)
  · exact (w_211 hw)
  · exact (w_191 hw)
  · exact (w_192 hw)
  · exact (w_190 hw)
  · exact (w_208 hw)
  · exact (w_32 hw)
  · exact (w_206 hw)
  · exact (w_207 hw)
abbrev R_m_thr : Room := { frames := 3, cells := 1, slots := 2752, locals := 42 }
theorem pn_m_thr : plainFor (⟨"java/lang/Throwable", "<init>", "(Ljava/lang/String;)V"⟩ : MethodName) = true := by first | (refine plainFor_of_name ?_; simp [plainName, overriddenIn]; done) | decide +kernel
abbrev Q_m_thr (Z : State) (a : Addr) (m : Addr) (h0 : Heap) : Option Value → Heap → List Addr → Prop := fun res h' SN => res = none ∧ SN = [] ∧ Exa Z h' a "com/example/slackline/slackline/TooLargeException" ∧ Fld Z h' a "java/lang/Throwable" "detailMessage" "Ljava/lang/String;" (.ref m)
theorem ef_m_thr (mid : MethodId) (a : Addr) (m : Addr) : entryFrame mid #[(.ref a), (.ref m)] 2 = mkF mid 0 #[.val (.ref a), .val (.ref m)] [] := by first | (simp [entryFrame, mkF, argsToLocals, Value.category]; done) | rfl
set_option maxRecDepth 65536 in
set_option maxHeartbeats 40000000 in
theorem m_thr {l : Launch} {Z : State} {a0 : Array Value} {n0 : Nat} (hw : ∀ d ∈ tables_1, d.before a0 Z = true) (hs : Stat Z) (a : Addr) (m : Addr) (h0 : Heap) (E_a : Exa Z h0 a "com/example/slackline/slackline/TooLargeException") (U_a : Unt h0 a) (F_a_cause : Fld Z h0 a "java/lang/Throwable" "cause" "Ljava/lang/Throwable;" .null) (F_a_stackTrace : Fld Z h0 a "java/lang/Throwable" "stackTrace" "[Ljava/lang/StackTraceElement;" .null) (F_a_suppressedExceptions : Fld Z h0 a "java/lang/Throwable" "suppressedExceptions" "Ljava/util/List;" .null) (F_a_detailMessage : Fld Z h0 a "java/lang/Throwable" "detailMessage" "Ljava/lang/String;" .null) (F_a_backtrace : Fld Z h0 a "java/lang/Throwable" "backtrace" "Ljava/lang/Object;" .null) (hst : l.stackTraces = true) :
    Met l Z EL0 n0 NR0 KN0 N_26 jdk_78_method_2_code 2 (Option.none : Option Jvm.ClassFile.FieldType) R_m_thr [a] #[(.ref a), (.ref m)] h0 (Q_m_thr Z a m h0) := by
  refine Met.of_go pn_m_thr (fun mid => ef_m_thr mid a m ) ?_
  intro hO hWS
  obtain ⟨⟨u0, S_u⟩, v0, S_v⟩ := hs_T hs
  refine Go.aload_n (pc' := 1) d_jdk_78_method_2_0 rfl rfl rfl ?_
  refine Go.initO (pc' := 4) (W := 0) d_jdk_78_method_2_1 rfl (w_177 hw) (w_17 hw) (w_18 hw) rfl (by decide) (Nat.le_of_eq rfl) (by decide) ?_
  refine Go.aload_n (pc' := 5) d_jdk_78_method_2_4 rfl rfl rfl ?_
  refine Go.aload_n (pc' := 6) d_jdk_78_method_2_5 rfl rfl rfl ?_
  refine Go.putF (pc' := 9) d_jdk_78_method_2_6 rfl (List.mem_of_getElem? (i := 0) rfl) (host := "") (Or.inl (w_178 hw)) Via.refl F_a_cause E_a (Or.inl (w_179 hw)) (w_32 hw) (ty := (.object "java/lang/Throwable")) (by decide) rfl rfl ?_
  intro h130 W131
  replace F_a_cause := F_a_cause.same W131
  replace E_a := E_a.wr W131
  replace U_a := own_unt_wr W131 U_a
  replace F_a_stackTrace := F_a_stackTrace.other W131 (Or.inr (slot_ne (Or.inl (w_182 hw)) (Or.inl (w_179 hw)) (by decide) (t := (.array (.object "java/lang/StackTraceElement"))) (t' := (.object "java/lang/Throwable")) (by decide) (by decide)))
  replace F_a_suppressedExceptions := F_a_suppressedExceptions.other W131 (Or.inr (slot_ne (Or.inl (w_185 hw)) (Or.inl (w_179 hw)) (by decide) (t := (.object "java/util/List")) (t' := (.object "java/lang/Throwable")) (by decide) (by decide)))
  replace F_a_detailMessage := F_a_detailMessage.other W131 (Or.inr (slot_ne (Or.inl (w_209 hw)) (Or.inl (w_179 hw)) (by decide) (t := (.object "java/lang/String")) (t' := (.object "java/lang/Throwable")) (by decide) (by decide)))
  replace F_a_backtrace := F_a_backtrace.other W131 (Or.inr (slot_ne (Or.inl (w_210 hw)) (Or.inl (w_179 hw)) (by decide) (t := (.object "java/lang/Object")) (t' := (.object "java/lang/Throwable")) (by decide) (by decide)))
  change Go _ _ _ _ _ _ _ _ _ _ _ _ _ _ [a] h130 0 0 9 #[.val (.ref a), .val (.ref m)] []
  refine Go.aload_n (pc' := 10) d_jdk_78_method_2_9 rfl rfl rfl ?_
  refine Go.getS (pc' := 13) d_jdk_78_method_2_10 rfl (host := "") (Or.inl (w_180 hw)) Via.refl S_u ?_
  refine Go.putF (pc' := 16) d_jdk_78_method_2_13 rfl (List.mem_of_getElem? (i := 0) rfl) (host := "") (Or.inl (w_181 hw)) Via.refl F_a_stackTrace E_a (Or.inl (w_182 hw)) (w_32 hw) (ty := (.array (.object "java/lang/StackTraceElement"))) (by decide) rfl rfl ?_
  intro h132 W133
  replace F_a_stackTrace := F_a_stackTrace.same W133
  replace E_a := E_a.wr W133
  replace U_a := own_unt_wr W133 U_a
  replace F_a_suppressedExceptions := F_a_suppressedExceptions.other W133 (Or.inr (slot_ne (Or.inl (w_185 hw)) (Or.inl (w_182 hw)) (by decide) (t := (.object "java/util/List")) (t' := (.array (.object "java/lang/StackTraceElement"))) (by decide) (by decide)))
  replace F_a_detailMessage := F_a_detailMessage.other W133 (Or.inr (slot_ne (Or.inl (w_209 hw)) (Or.inl (w_182 hw)) (by decide) (t := (.object "java/lang/String")) (t' := (.array (.object "java/lang/StackTraceElement"))) (by decide) (by decide)))
  replace F_a_backtrace := F_a_backtrace.other W133 (Or.inr (slot_ne (Or.inl (w_210 hw)) (Or.inl (w_182 hw)) (by decide) (t := (.object "java/lang/Object")) (t' := (.array (.object "java/lang/StackTraceElement"))) (by decide) (by decide)))
  replace F_a_cause := F_a_cause.other W133 (Or.inr (slot_ne (Or.inl (w_179 hw)) (Or.inl (w_182 hw)) (by decide) (t := (.object "java/lang/Throwable")) (t' := (.array (.object "java/lang/StackTraceElement"))) (by decide) (by decide)))
  change Go _ _ _ _ _ _ _ _ _ _ _ _ _ _ [a] h132 0 0 16 #[.val (.ref a), .val (.ref m)] []
  refine Go.aload_n (pc' := 17) d_jdk_78_method_2_16 rfl rfl rfl ?_
  refine Go.getS (pc' := 20) d_jdk_78_method_2_17 rfl (host := "") (Or.inl (w_183 hw)) Via.refl S_v ?_
  refine Go.putF (pc' := 23) d_jdk_78_method_2_20 rfl (List.mem_of_getElem? (i := 0) rfl) (host := "") (Or.inl (w_184 hw)) Via.refl F_a_suppressedExceptions E_a (Or.inl (w_185 hw)) (w_32 hw) (ty := (.object "java/util/List")) (by decide) rfl rfl ?_
  intro h134 W135
  replace F_a_suppressedExceptions := F_a_suppressedExceptions.same W135
  replace E_a := E_a.wr W135
  replace U_a := own_unt_wr W135 U_a
  replace F_a_detailMessage := F_a_detailMessage.other W135 (Or.inr (slot_ne (Or.inl (w_209 hw)) (Or.inl (w_185 hw)) (by decide) (t := (.object "java/lang/String")) (t' := (.object "java/util/List")) (by decide) (by decide)))
  replace F_a_backtrace := F_a_backtrace.other W135 (Or.inr (slot_ne (Or.inl (w_210 hw)) (Or.inl (w_185 hw)) (by decide) (t := (.object "java/lang/Object")) (t' := (.object "java/util/List")) (by decide) (by decide)))
  replace F_a_cause := F_a_cause.other W135 (Or.inr (slot_ne (Or.inl (w_179 hw)) (Or.inl (w_185 hw)) (by decide) (t := (.object "java/lang/Throwable")) (t' := (.object "java/util/List")) (by decide) (by decide)))
  replace F_a_stackTrace := F_a_stackTrace.other W135 (Or.inr (slot_ne (Or.inl (w_182 hw)) (Or.inl (w_185 hw)) (by decide) (t := (.array (.object "java/lang/StackTraceElement"))) (t' := (.object "java/util/List")) (by decide) (by decide)))
  change Go _ _ _ _ _ _ _ _ _ _ _ _ _ _ [a] h134 0 0 23 #[.val (.ref a), .val (.ref m)] []
  refine Go.aload_n (pc' := 24) d_jdk_78_method_2_23 rfl rfl rfl ?_
  refine Go.callV (pc' := 27) (u := N_25) (z := N_25) (a := a) d_jdk_78_method_2_24 rfl (w_186 hw) (w_187 hw) (nf (w_189 hw) rfl) (w_189 hw) (w_188 hw) (by decide) E_a (argsL := []) (rest := []) (own_fillPays (W := 0) hst (thrW hw) S_u E_a U_a F_a_stackTrace F_a_backtrace (by decide) (by decide)) rfl rfl (lenOf pd_17 rfl) rfl (Nat.le_of_eq rfl) (memS (List.mem_of_getElem? (i := 0) rfl) mem0) (by decide) (by decide) ?_
  rintro _ h136 _ K137 le138 ⟨rfl, rfl, E_n, hM⟩
  replace F_a_detailMessage := hM _ F_a_detailMessage
  replace E_a := E_a.keep K137
  change Go _ _ _ _ _ _ _ _ _ _ _ _ _ _ [a] h136 1 2752 27 #[.val (.ref a), .val (.ref m)] [(.ref a)]
  refine Go.pop (pc' := 28) d_jdk_78_method_2_27 rfl rfl ?_
  refine Go.aload_n (pc' := 29) d_jdk_78_method_2_28 rfl rfl rfl ?_
  refine Go.aload_n (pc' := 30) d_jdk_78_method_2_29 rfl rfl rfl ?_
  refine Go.putF (pc' := 33) d_jdk_78_method_2_30 rfl (List.mem_of_getElem? (i := 0) rfl) (host := "") (Or.inl (w_213 hw)) Via.refl F_a_detailMessage E_a (Or.inl (w_209 hw)) (w_32 hw) (ty := (.object "java/lang/String")) (by decide) rfl rfl ?_
  intro h139 W140
  replace F_a_detailMessage := F_a_detailMessage.same W140
  replace E_a := E_a.wr W140
  change Go _ _ _ _ _ _ _ _ _ _ _ _ _ _ [a] h139 1 2752 33 #[.val (.ref a), .val (.ref m)] []
  exact Go.retV d_jdk_78_method_2_33 rfl (by decide) (by decide) [] sn0 ⟨rfl, rfl, E_a, F_a_detailMessage⟩
abbrev R_m_exc : Room := { frames := 4, cells := 1, slots := 2752, locals := 55 }
theorem pn_m_exc : plainFor (⟨"java/lang/Exception", "<init>", "(Ljava/lang/String;)V"⟩ : MethodName) = true := by first | (refine plainFor_of_name ?_; simp [plainName, overriddenIn]; done) | decide +kernel
abbrev Q_m_exc (Z : State) (a : Addr) (m : Addr) (h0 : Heap) : Option Value → Heap → List Addr → Prop := fun res h' SN => res = none ∧ SN = [] ∧ Exa Z h' a "com/example/slackline/slackline/TooLargeException" ∧ Fld Z h' a "java/lang/Throwable" "detailMessage" "Ljava/lang/String;" (.ref m)
theorem ef_m_exc (mid : MethodId) (a : Addr) (m : Addr) : entryFrame mid #[(.ref a), (.ref m)] 2 = mkF mid 0 #[.val (.ref a), .val (.ref m)] [] := by first | (simp [entryFrame, mkF, argsToLocals, Value.category]; done) | rfl
set_option maxRecDepth 65536 in
set_option maxHeartbeats 40000000 in
theorem m_exc {l : Launch} {Z : State} {a0 : Array Value} {n0 : Nat} (hw : ∀ d ∈ tables_1, d.before a0 Z = true) (hs : Stat Z) (a : Addr) (m : Addr) (h0 : Heap) (E_a : Exa Z h0 a "com/example/slackline/slackline/TooLargeException") (U_a : Unt h0 a) (F_a_cause : Fld Z h0 a "java/lang/Throwable" "cause" "Ljava/lang/Throwable;" .null) (F_a_stackTrace : Fld Z h0 a "java/lang/Throwable" "stackTrace" "[Ljava/lang/StackTraceElement;" .null) (F_a_suppressedExceptions : Fld Z h0 a "java/lang/Throwable" "suppressedExceptions" "Ljava/util/List;" .null) (F_a_detailMessage : Fld Z h0 a "java/lang/Throwable" "detailMessage" "Ljava/lang/String;" .null) (F_a_backtrace : Fld Z h0 a "java/lang/Throwable" "backtrace" "Ljava/lang/Object;" .null) (hst : l.stackTraces = true) :
    Met l Z EL0 n0 NR0 KN0 N_27 jdk_59_method_2_code 2 (Option.none : Option Jvm.ClassFile.FieldType) R_m_exc [a] #[(.ref a), (.ref m)] h0 (Q_m_exc Z a m h0) := by
  refine Met.of_go pn_m_exc (fun mid => ef_m_exc mid a m ) ?_
  intro hO hWS
  refine Go.aload_n (pc' := 1) d_jdk_59_method_2_0 rfl rfl rfl ?_
  refine Go.aload_n (pc' := 2) d_jdk_59_method_2_1 rfl rfl rfl ?_
  refine Go.callI (pc' := 5) (z := N_26) (a := a) d_jdk_59_method_2_2 rfl rfl (w_171 hw) (w_172 hw) (w_176 hw) (by decide) (argsL := [(.ref m)]) (rest := []) (Pays.of_met (W := 0) (len := 3) (m_thr hw hs a m h0 E_a U_a F_a_cause F_a_stackTrace F_a_suppressedExceptions F_a_detailMessage F_a_backtrace (hst)) (w_176 hw) (w_175 hw) (by decide) (by decide)) rfl rfl (lenOf pd_6 rfl) rfl (Nat.le_of_eq rfl) (memS (List.mem_of_getElem? (i := 0) rfl) mem0) (by decide) (by decide) ?_
  rintro _ h141 _ K142 le143 ⟨rfl, rfl, p144, p145⟩
  replace E_a := E_a.keep K142
  have F_a_detailMessage := p145
  change Go _ _ _ _ _ _ _ _ _ _ _ _ _ _ [a] h141 1 2752 5 #[.val (.ref a), .val (.ref m)] []
  exact Go.retV d_jdk_59_method_2_5 rfl (by decide) (by decide) [] sn0 ⟨rfl, rfl, E_a, F_a_detailMessage⟩
abbrev R_m_own : Room := { frames := 5, cells := 1, slots := 2752, locals := 68 }
theorem pn_m_own : plainFor (⟨"com/example/slackline/slackline/TooLargeException", "<init>", "(Ljava/lang/String;)V"⟩ : MethodName) = true := by first | (refine plainFor_of_name ?_; simp [plainName, overriddenIn]; done) | decide +kernel
abbrev Q_m_own (Z : State) (a : Addr) (m : Addr) (h0 : Heap) : Option Value → Heap → List Addr → Prop := fun res h' SN => res = none ∧ SN = [] ∧ Exa Z h' a "com/example/slackline/slackline/TooLargeException" ∧ Fld Z h' a "java/lang/Throwable" "detailMessage" "Ljava/lang/String;" (.ref m)
theorem ef_m_own (mid : MethodId) (a : Addr) (m : Addr) : entryFrame mid #[(.ref a), (.ref m)] 2 = mkF mid 0 #[.val (.ref a), .val (.ref m)] [] := by first | (simp [entryFrame, mkF, argsToLocals, Value.category]; done) | rfl
set_option maxRecDepth 65536 in
set_option maxHeartbeats 40000000 in
theorem m_own {l : Launch} {Z : State} {a0 : Array Value} {n0 : Nat} (hw : ∀ d ∈ tables_1, d.before a0 Z = true) (hs : Stat Z) (a : Addr) (m : Addr) (h0 : Heap) (E_a : Exa Z h0 a "com/example/slackline/slackline/TooLargeException") (U_a : Unt h0 a) (F_a_cause : Fld Z h0 a "java/lang/Throwable" "cause" "Ljava/lang/Throwable;" .null) (F_a_stackTrace : Fld Z h0 a "java/lang/Throwable" "stackTrace" "[Ljava/lang/StackTraceElement;" .null) (F_a_suppressedExceptions : Fld Z h0 a "java/lang/Throwable" "suppressedExceptions" "Ljava/util/List;" .null) (F_a_detailMessage : Fld Z h0 a "java/lang/Throwable" "detailMessage" "Ljava/lang/String;" .null) (F_a_backtrace : Fld Z h0 a "java/lang/Throwable" "backtrace" "Ljava/lang/Object;" .null) (hst : l.stackTraces = true) :
    Met l Z EL0 n0 NR0 KN0 N_28 prog_52_method_1_code 2 (Option.none : Option Jvm.ClassFile.FieldType) R_m_own [a] #[(.ref a), (.ref m)] h0 (Q_m_own Z a m h0) := by
  refine Met.of_go pn_m_own (fun mid => ef_m_own mid a m ) ?_
  intro hO hWS
  refine Go.aload_n (pc' := 1) d_prog_52_method_1_0 rfl rfl rfl ?_
  refine Go.aload_n (pc' := 2) d_prog_52_method_1_1 rfl rfl rfl ?_
  refine Go.callI (pc' := 5) (z := N_27) (a := a) d_prog_52_method_1_2 rfl rfl (w_166 hw) (w_167 hw) (w_170 hw) (by decide) (argsL := [(.ref m)]) (rest := []) (Pays.of_met (W := 0) (len := 3) (m_exc hw hs a m h0 E_a U_a F_a_cause F_a_stackTrace F_a_suppressedExceptions F_a_detailMessage F_a_backtrace (hst)) (w_170 hw) (w_169 hw) (by decide) (by decide)) rfl rfl (lenOf pd_6 rfl) rfl (Nat.le_of_eq rfl) (memS (List.mem_of_getElem? (i := 0) rfl) mem0) (by decide) (by decide) ?_
  rintro _ h146 _ K147 le148 ⟨rfl, rfl, p149, p150⟩
  replace E_a := E_a.keep K147
  have F_a_detailMessage := p150
  change Go _ _ _ _ _ _ _ _ _ _ _ _ _ _ [a] h146 1 2752 5 #[.val (.ref a), .val (.ref m)] []
  exact Go.retV d_prog_52_method_1_5 rfl (by decide) (by decide) [] sn0 ⟨rfl, rfl, E_a, F_a_detailMessage⟩
abbrev R_m_gm : Room := { frames := 0, cells := 0, slots := 0, locals := 0 }
theorem pn_m_gm : plainFor (⟨"java/lang/Throwable", "getMessage", "()Ljava/lang/String;"⟩ : MethodName) = true := by first | (refine plainFor_of_name ?_; simp [plainName, overriddenIn]; done) | decide +kernel
abbrev Q_m_gm (Z : State) (a : Addr) (m : Addr) (h0 : Heap) : Option Value → Heap → List Addr → Prop := fun res h' SN => res = some (.ref m) ∧ SN = [] ∧ h0 = h'
theorem ef_m_gm (mid : MethodId) (a : Addr) (m : Addr) : entryFrame mid #[(.ref a)] 1 = mkF mid 0 #[.val (.ref a)] [] := by first | (simp [entryFrame, mkF, argsToLocals, Value.category]; done) | rfl
set_option maxRecDepth 65536 in
set_option maxHeartbeats 40000000 in
theorem m_gm {l : Launch} {Z : State} {a0 : Array Value} {n0 : Nat} (hw : ∀ d ∈ tables_1, d.before a0 Z = true) (hs : Stat Z) (a : Addr) (m : Addr) (h0 : Heap) (F_a_detailMessage : Fld Z h0 a "java/lang/Throwable" "detailMessage" "Ljava/lang/String;" (.ref m)) :
    Met l Z EL0 n0 NR0 KN0 N_29 jdk_78_method_6_code 1 (Option.some (Jvm.ClassFile.FieldType.object "java/lang/String")) R_m_gm [] #[(.ref a)] h0 (Q_m_gm Z a m h0) := by
  refine Met.of_go pn_m_gm (fun mid => ef_m_gm mid a m ) ?_
  intro hO hWS
  refine Go.aload_n (pc' := 1) d_jdk_78_method_6_0 rfl rfl rfl ?_
  refine Go.getF (pc' := 4) d_jdk_78_method_6_1 rfl (host := "") (Or.inl (w_213 hw)) Via.refl F_a_detailMessage ?_
  exact Go.retA d_jdk_78_method_6_4 rfl rfl rfl (by decide) (by decide) [] sn0 ⟨rfl, rfl, rfl⟩
abbrev R_m_fm : Room := { frames := 6, cells := 11, slots := 2954, locals := 99 }
theorem pn_m_fm : plainFor (⟨"com/example/slackline/slackline/TooLargeException", "forMethod", "(Ljava/lang/String;Ljava/lang/String;)Lcom/example/slackline/slackline/TooLargeException;"⟩ : MethodName) = true := by first | (refine plainFor_of_name ?_; simp [plainName, overriddenIn]; done) | decide +kernel
abbrev Q_m_fm (Z : State) (s : Addr) (t : Addr) (kt : ClassId) (ws : List Int32) (z2 : Int32) (r : Addr) (q : Addr) (kq : ClassId) (vs : List Int32) (z3 : Int32) (h0 : Heap) : Option Value → Heap → List Addr → Prop := fun res h' SN => ∃ (e : Addr) (n : Addr) (b : Addr) (kb : ClassId), res = some (.ref e) ∧ SN = [] ∧ Exa Z h' e "com/example/slackline/slackline/TooLargeException" ∧ Fld Z h' e "java/lang/Throwable" "detailMessage" "Ljava/lang/String;" (.ref n) ∧ Exa Z h' n "java/lang/String" ∧ Fld Z h' n "java/lang/String" "coder" "B" (.int (0 : Int32)) ∧ Fld Z h' n "java/lang/String" "value" "[B" (.ref b) ∧ Arv Z h' b kb .byte ((((22 : Int32) + z2) + (2 : Int32)) + z3) ((((PFX ++ ws) ++ [(58 : Int32), (32 : Int32)]) ++ vs).map Value.int) (.int (0 : Int32))
theorem ef_m_fm (mid : MethodId) (s : Addr) (t : Addr) (kt : ClassId) (ws : List Int32) (z2 : Int32) (r : Addr) (q : Addr) (kq : ClassId) (vs : List Int32) (z3 : Int32) : entryFrame mid #[(.ref s), (.ref r)] 2 = mkF mid 0 #[.val (.ref s), .val (.ref r)] [] := by first | (simp [entryFrame, mkF, argsToLocals, Value.category]; done) | rfl
set_option maxRecDepth 65536 in
set_option maxHeartbeats 40000000 in
theorem m_fm {l : Launch} {Z : State} {a0 : Array Value} {n0 : Nat} (hw : ∀ d ∈ tables_1, d.before a0 Z = true) (hs : Stat Z) (s : Addr) (t : Addr) (kt : ClassId) (ws : List Int32) (z2 : Int32) (r : Addr) (q : Addr) (kq : ClassId) (vs : List Int32) (z3 : Int32) (h0 : Heap) (E_s : Exa Z h0 s "java/lang/String") (F_s_coder : Fld Z h0 s "java/lang/String" "coder" "B" (.int (0 : Int32))) (F_s_value : Fld Z h0 s "java/lang/String" "value" "[B" (.ref t)) (V_t : Arv Z h0 t kt .byte z2 (ws.map Value.int) (.int (0 : Int32))) (E_r : Exa Z h0 r "java/lang/String") (F_r_coder : Fld Z h0 r "java/lang/String" "coder" "B" (.int (0 : Int32))) (F_r_value : Fld Z h0 r "java/lang/String" "value" "[B" (.ref q)) (V_q : Arv Z h0 q kq .byte z3 (vs.map Value.int) (.int (0 : Int32))) (hz2 : z2.toNatClampNeg = ws.length) (hz3 : z3.toNatClampNeg = vs.length) (hw3 : ws.length ≤ 2) (hv3 : vs.length ≤ 2) (hst : l.stackTraces = true) :
    Met l Z EL0 n0 NR0 KN0 N_30 prog_52_method_2_code 2 (Option.some (Jvm.ClassFile.FieldType.object "com/example/slackline/slackline/TooLargeException")) R_m_fm [] #[(.ref s), (.ref r)] h0 (Q_m_fm Z s t kt ws z2 r q kq vs z3 h0) := by
  refine Met.of_go pn_m_fm (fun mid => ef_m_fm mid s t kt ws z2 r q kq vs z3 ) ?_
  intro hO hWS
  have zn := arv_nn V_t
  have zr := arv_nn V_q
  have e22 : (22 : Int32).toNatClampNeg = 22 := by decide
  have e2 : (2 : Int32).toNatClampNeg = 2 := by decide
  have a1 := own_addc (c := (22 : Int32)) (z := z2) (by decide) zn (by omega)
  have a2 := own_addc (c := (22 : Int32) + z2) (z := (2 : Int32)) a1.1 (by decide) (by omega)
  have a3 := own_addc (c := ((22 : Int32) + z2) + (2 : Int32)) (z := z3) a2.1 zr (by omega)
  refine Go.newO (pc' := 3) d_prog_52_method_2_0 rfl (w_31 hw) (w_32 hw) (w_29 hw) (by decide) (by decide) ?_
  intro h151 b152 g153 ge_b152 x154 E_b152 D_b152 U_b152
  have o_s_b152 : s ≠ b152 := Nat.ne_of_lt (Nat.lt_of_lt_of_le E_s.lt (Nat.le_of_eq g153))
  have o_t_b152 : t ≠ b152 := Nat.ne_of_lt (Nat.lt_of_lt_of_le V_t.lt (Nat.le_of_eq g153))
  have o_r_b152 : r ≠ b152 := Nat.ne_of_lt (Nat.lt_of_lt_of_le E_r.lt (Nat.le_of_eq g153))
  have o_q_b152 : q ≠ b152 := Nat.ne_of_lt (Nat.lt_of_lt_of_le V_q.lt (Nat.le_of_eq g153))
  replace E_s := E_s.ext x154
  replace F_s_coder := F_s_coder.ext x154
  replace F_s_value := F_s_value.ext x154
  replace V_t := V_t.ext x154
  replace E_r := E_r.ext x154
  replace F_r_coder := F_r_coder.ext x154
  replace F_r_value := F_r_value.ext x154
  replace V_q := V_q.ext x154
  have F_b152_cause : Fld Z h151 b152 "java/lang/Throwable" "cause" "Ljava/lang/Throwable;" .null := D_b152 (Or.inl (w_179 hw)) (ty := (.object "java/lang/Throwable")) (by decide)
  have F_b152_stackTrace : Fld Z h151 b152 "java/lang/Throwable" "stackTrace" "[Ljava/lang/StackTraceElement;" .null := D_b152 (Or.inl (w_182 hw)) (ty := (.array (.object "java/lang/StackTraceElement"))) (by decide)
  have F_b152_suppressedExceptions : Fld Z h151 b152 "java/lang/Throwable" "suppressedExceptions" "Ljava/util/List;" .null := D_b152 (Or.inl (w_185 hw)) (ty := (.object "java/util/List")) (by decide)
  have F_b152_detailMessage : Fld Z h151 b152 "java/lang/Throwable" "detailMessage" "Ljava/lang/String;" .null := D_b152 (Or.inl (w_209 hw)) (ty := (.object "java/lang/String")) (by decide)
  have F_b152_backtrace : Fld Z h151 b152 "java/lang/Throwable" "backtrace" "Ljava/lang/Object;" .null := D_b152 (Or.inl (w_210 hw)) (ty := (.object "java/lang/Object")) (by decide)
  have F_b152_depth : Fld Z h151 b152 "java/lang/Throwable" "depth" "I" (.int (0 : Int32)) := D_b152 (Or.inl (w_211 hw)) (ty := .int) (by decide)
  change Go _ _ _ _ _ _ _ _ _ _ _ _ _ _ [b152] h151 1 6 3 #[.val (.ref s), .val (.ref r)] [(.ref b152)]
  refine Go.dup (pc' := 4) d_prog_52_method_2_3 rfl rfl ?_
  refine Go.newO (pc' := 7) d_prog_52_method_2_4 rfl (w_33 hw) (w_34 hw) (w_35 hw) (by decide) (by decide) ?_
  intro h155 b156 g157 ge_b156 x158 E_b156 D_b156 U_b156
  have o_s_b156 : s ≠ b156 := Nat.ne_of_lt (Nat.lt_of_lt_of_le E_s.lt (Nat.le_of_eq g157))
  have o_t_b156 : t ≠ b156 := Nat.ne_of_lt (Nat.lt_of_lt_of_le V_t.lt (Nat.le_of_eq g157))
  have o_r_b156 : r ≠ b156 := Nat.ne_of_lt (Nat.lt_of_lt_of_le E_r.lt (Nat.le_of_eq g157))
  have o_q_b156 : q ≠ b156 := Nat.ne_of_lt (Nat.lt_of_lt_of_le V_q.lt (Nat.le_of_eq g157))
  have o_b152_b156 : b152 ≠ b156 := Nat.ne_of_lt (Nat.lt_of_lt_of_le E_b152.lt (Nat.le_of_eq g157))
  replace E_s := E_s.ext x158
  replace F_s_coder := F_s_coder.ext x158
  replace F_s_value := F_s_value.ext x158
  replace V_t := V_t.ext x158
  replace E_r := E_r.ext x158
  replace F_r_coder := F_r_coder.ext x158
  replace F_r_value := F_r_value.ext x158
  replace V_q := V_q.ext x158
  replace E_b152 := E_b152.ext x158
  replace U_b152 := unt_ext x158 U_b152
  replace F_b152_cause := F_b152_cause.ext x158
  replace F_b152_stackTrace := F_b152_stackTrace.ext x158
  replace F_b152_suppressedExceptions := F_b152_suppressedExceptions.ext x158
  replace F_b152_detailMessage := F_b152_detailMessage.ext x158
  replace F_b152_backtrace := F_b152_backtrace.ext x158
  replace F_b152_depth := F_b152_depth.ext x158
  have F_b156_value : Fld Z h155 b156 "java/lang/AbstractStringBuilder" "value" "[B" .null := D_b156 (Or.inl (w_48 hw)) (ty := (.array .byte)) (by decide)
  have F_b156_coder : Fld Z h155 b156 "java/lang/AbstractStringBuilder" "coder" "B" (.int (0 : Int32)) := D_b156 (Or.inl (w_50 hw)) (ty := .byte) (by decide)
  have F_b156_count : Fld Z h155 b156 "java/lang/AbstractStringBuilder" "count" "I" (.int (0 : Int32)) := D_b156 (Or.inl (w_74 hw)) (ty := .int) (by decide)
  change Go _ _ _ _ _ _ _ _ _ _ _ _ _ _ [b156, b152] h155 2 10 7 #[.val (.ref s), .val (.ref r)] [(.ref b156), (.ref b152), (.ref b152)]
  refine Go.dup (pc' := 8) d_prog_52_method_2_7 rfl rfl ?_
  refine Go.callI (pc' := 11) (z := N_1) (a := b156) d_prog_52_method_2_8 rfl rfl (w_36 hw) (w_37 hw) (w_38 hw) (by decide) (argsL := []) (rest := [(.ref b156), (.ref b152), (.ref b152)]) (Pays.of_met (W := 3) (len := 3) (m_sb hw hs b156 h155 E_b156 F_b156_value F_b156_coder F_b156_count) (w_38 hw) (w_35 hw) (by decide) (by decide)) rfl rfl (lenOf pd_18 rfl) rfl (Nat.le_of_eq rfl) (memS (List.mem_of_getElem? (i := 0) rfl) mem0) (by decide) (by decide) ?_
  rintro _ h161 _ K162 le163 ⟨b159, q160, rfl, rfl, p164, p165, p166, p167, p168, p169⟩
  have o_s_b159 : s ≠ b159 := Nat.ne_of_lt (Nat.lt_of_lt_of_le E_s.lt p168)
  have o_t_b159 : t ≠ b159 := Nat.ne_of_lt (Nat.lt_of_lt_of_le V_t.lt p168)
  have o_r_b159 : r ≠ b159 := Nat.ne_of_lt (Nat.lt_of_lt_of_le E_r.lt p168)
  have o_q_b159 : q ≠ b159 := Nat.ne_of_lt (Nat.lt_of_lt_of_le V_q.lt p168)
  have o_b152_b159 : b152 ≠ b159 := Nat.ne_of_lt (Nat.lt_of_lt_of_le E_b152.lt p168)
  have o_b156_b159 : b156 ≠ b159 := Nat.ne_of_lt (Nat.lt_of_lt_of_le E_b156.lt p168)
  have ge_b159 := Nat.le_trans le163 p168
  replace E_s := E_s.keep K162
  replace F_s_coder := F_s_coder.keep K162 (ninS o_s_b156 nin0)
  replace F_s_value := F_s_value.keep K162 (ninS o_s_b156 nin0)
  replace V_t := V_t.keep K162 (ninS o_t_b156 nin0)
  replace E_r := E_r.keep K162
  replace F_r_coder := F_r_coder.keep K162 (ninS o_r_b156 nin0)
  replace F_r_value := F_r_value.keep K162 (ninS o_r_b156 nin0)
  replace V_q := V_q.keep K162 (ninS o_q_b156 nin0)
  replace E_b152 := E_b152.keep K162
  replace U_b152 := own_unt_keep K162 (ninS o_b152_b156 nin0) U_b152
  replace F_b152_cause := F_b152_cause.keep K162 (ninS o_b152_b156 nin0)
  replace F_b152_stackTrace := F_b152_stackTrace.keep K162 (ninS o_b152_b156 nin0)
  replace F_b152_suppressedExceptions := F_b152_suppressedExceptions.keep K162 (ninS o_b152_b156 nin0)
  replace F_b152_detailMessage := F_b152_detailMessage.keep K162 (ninS o_b152_b156 nin0)
  replace F_b152_backtrace := F_b152_backtrace.keep K162 (ninS o_b152_b156 nin0)
  replace F_b152_depth := F_b152_depth.keep K162 (ninS o_b152_b156 nin0)
  replace E_b156 := E_b156.keep K162
  have F_b156_value := p165
  have F_b156_coder := p166
  have F_b156_count := p167
  have V_b159 := p169
  change Go _ _ _ _ _ _ _ _ _ _ _ _ _ _ [b159, b156, b152] h161 3 26 11 #[.val (.ref s), .val (.ref r)] [(.ref b156), (.ref b152), (.ref b152)]
  refine Go.ldcS (pc' := 13) (nn := 88) (z := 22) (vs := [(.int (110 : Int32)), (.int (101 : Int32)), (.int (116 : Int32)), (.int (119 : Int32)), (.int (111 : Int32)), (.int (114 : Int32)), (.int (107 : Int32)), (.int (32 : Int32)), (.int (116 : Int32)), (.int (111 : Int32)), (.int (111 : Int32)), (.int (32 : Int32)), (.int (108 : Int32)), (.int (97 : Int32)), (.int (114 : Int32)), (.int (103 : Int32)), (.int (101 : Int32)), (.int (32 : Int32)), (.int (102 : Int32)), (.int (111 : Int32)), (.int (114 : Int32)), (.int (32 : Int32))]) rfl d_prog_52_method_2_11 rfl (w_51 hw) (sA hw) (by decide) lit_0 (by decide) (by decide) (by decide) (by decide) (by decide) (by decide) ?_
  intro h170 s171 t172 q173 x174 E_s171 F_s171_coder F_s171_value V_t172 ne175
  replace E_s := E_s.ext x174
  replace F_s_coder := F_s_coder.ext x174
  replace F_s_value := F_s_value.ext x174
  replace V_t := V_t.ext x174
  replace E_r := E_r.ext x174
  replace F_r_coder := F_r_coder.ext x174
  replace F_r_value := F_r_value.ext x174
  replace V_q := V_q.ext x174
  replace E_b152 := E_b152.ext x174
  replace U_b152 := unt_ext x174 U_b152
  replace F_b152_cause := F_b152_cause.ext x174
  replace F_b152_stackTrace := F_b152_stackTrace.ext x174
  replace F_b152_suppressedExceptions := F_b152_suppressedExceptions.ext x174
  replace F_b152_detailMessage := F_b152_detailMessage.ext x174
  replace F_b152_backtrace := F_b152_backtrace.ext x174
  replace F_b152_depth := F_b152_depth.ext x174
  replace E_b156 := E_b156.ext x174
  replace F_b156_value := F_b156_value.ext x174
  replace F_b156_coder := F_b156_coder.ext x174
  replace F_b156_count := F_b156_count.ext x174
  replace V_b159 := V_b159.ext x174
  have o_b159_s171 := (ne175 b159 (List.mem_of_getElem? (i := 0) rfl)).1
  have o_b159_t172 := (ne175 b159 (List.mem_of_getElem? (i := 0) rfl)).2
  have o_b156_s171 := (ne175 b156 (List.mem_of_getElem? (i := 1) rfl)).1
  have o_b156_t172 := (ne175 b156 (List.mem_of_getElem? (i := 1) rfl)).2
  have o_b152_s171 := (ne175 b152 (List.mem_of_getElem? (i := 2) rfl)).1
  have o_b152_t172 := (ne175 b152 (List.mem_of_getElem? (i := 2) rfl)).2
  change Go _ _ _ _ _ _ _ _ _ _ _ _ _ _ [b159, b156, b152] h170 5 118 13 #[.val (.ref s), .val (.ref r)] [(.ref s171), (.ref b156), (.ref b152), (.ref b152)]
  replace V_t172 : Arv Z h170 t172 q173 .byte (22 : Int32) (PFX.map Value.int) (.int (0 : Int32)) := V_t172
  refine Go.callV (pc' := 16) (u := N_14) (z := N_14) (a := b156) d_prog_52_method_2_13 rfl (w_52 hw) (w_53 hw) (nf (w_55 hw) rfl) (w_55 hw) (w_54 hw) (by decide) E_b156 (argsL := [(.ref s171)]) (rest := [(.ref b152), (.ref b152)]) (Pays.of_met (W := 2) (len := 3) (m_aapg2 hw hs b156 s171 t172 q173 PFX b159 q160 h170 E_b156 F_b156_value F_b156_coder F_b156_count V_b159 E_s171 F_s171_coder F_s171_value V_t172 (rfl) (Ne.symm o_b156_b159) (Ne.symm o_b156_t172) (Ne.symm o_b159_t172) (Ne.symm o_b156_s171)) (w_56 hw) (w_35 hw) (by decide) (by decide)) rfl rfl (lenOf pd_19 rfl) rfl (Nat.le_of_eq rfl) (memS (List.mem_of_getElem? (i := 1) rfl) mem0) (by decide) (by decide) ?_
  rintro _ h178 _ K179 le180 ⟨b176, q177, rfl, rfl, p181, p182, p183, p184, p185, p186⟩
  have o_s_b176 : s ≠ b176 := Nat.ne_of_lt (Nat.lt_of_lt_of_le E_s.lt p185)
  have o_t_b176 : t ≠ b176 := Nat.ne_of_lt (Nat.lt_of_lt_of_le V_t.lt p185)
  have o_r_b176 : r ≠ b176 := Nat.ne_of_lt (Nat.lt_of_lt_of_le E_r.lt p185)
  have o_q_b176 : q ≠ b176 := Nat.ne_of_lt (Nat.lt_of_lt_of_le V_q.lt p185)
  have o_b152_b176 : b152 ≠ b176 := Nat.ne_of_lt (Nat.lt_of_lt_of_le E_b152.lt p185)
  have o_b156_b176 : b156 ≠ b176 := Nat.ne_of_lt (Nat.lt_of_lt_of_le E_b156.lt p185)
  have o_b159_b176 : b159 ≠ b176 := Nat.ne_of_lt (Nat.lt_of_lt_of_le V_b159.lt p185)
  have o_s171_b176 : s171 ≠ b176 := Nat.ne_of_lt (Nat.lt_of_lt_of_le E_s171.lt p185)
  have o_t172_b176 : t172 ≠ b176 := Nat.ne_of_lt (Nat.lt_of_lt_of_le V_t172.lt p185)
  have ge_b176 := Nat.le_trans le180 p185
  replace E_s := E_s.keep K179
  replace F_s_coder := F_s_coder.keep K179 (ninS o_s_b156 nin0)
  replace F_s_value := F_s_value.keep K179 (ninS o_s_b156 nin0)
  replace V_t := V_t.keep K179 (ninS o_t_b156 nin0)
  replace E_r := E_r.keep K179
  replace F_r_coder := F_r_coder.keep K179 (ninS o_r_b156 nin0)
  replace F_r_value := F_r_value.keep K179 (ninS o_r_b156 nin0)
  replace V_q := V_q.keep K179 (ninS o_q_b156 nin0)
  replace E_b152 := E_b152.keep K179
  replace U_b152 := own_unt_keep K179 (ninS o_b152_b156 nin0) U_b152
  replace F_b152_cause := F_b152_cause.keep K179 (ninS o_b152_b156 nin0)
  replace F_b152_stackTrace := F_b152_stackTrace.keep K179 (ninS o_b152_b156 nin0)
  replace F_b152_suppressedExceptions := F_b152_suppressedExceptions.keep K179 (ninS o_b152_b156 nin0)
  replace F_b152_detailMessage := F_b152_detailMessage.keep K179 (ninS o_b152_b156 nin0)
  replace F_b152_backtrace := F_b152_backtrace.keep K179 (ninS o_b152_b156 nin0)
  replace F_b152_depth := F_b152_depth.keep K179 (ninS o_b152_b156 nin0)
  replace E_b156 := E_b156.keep K179
  replace V_b159 := V_b159.keep K179 (ninS (Ne.symm o_b156_b159) nin0)
  replace E_s171 := E_s171.keep K179
  replace F_s171_coder := F_s171_coder.keep K179 (ninS (Ne.symm o_b156_s171) nin0)
  replace F_s171_value := F_s171_value.keep K179 (ninS (Ne.symm o_b156_s171) nin0)
  replace V_t172 := V_t172.keep K179 (ninS (Ne.symm o_b156_t172) nin0)
  have F_b156_value := p182
  have F_b156_coder := p183
  have F_b156_count := p184
  have V_b176 := p186
  change Go _ _ _ _ _ _ _ _ _ _ _ _ _ _ [b176, b159, b156, b152] h178 6 152 16 #[.val (.ref s), .val (.ref r)] [(.ref b156), (.ref b152), (.ref b152)]
  refine Go.aload_n (pc' := 17) d_prog_52_method_2_16 rfl rfl rfl ?_
  refine Go.callV (pc' := 20) (u := N_14) (z := N_14) (a := b156) d_prog_52_method_2_17 rfl (w_52 hw) (w_53 hw) (nf (w_55 hw) rfl) (w_55 hw) (w_54 hw) (by decide) E_b156 (argsL := [(.ref s)]) (rest := [(.ref b152), (.ref b152)]) (Pays.of_met (W := 2) (len := 3) (m_aapf2 hw hs b156 s t kt ws z2 b176 q177 PFX (22 : Int32) h178 E_b156 F_b156_value F_b156_coder F_b156_count V_b176 E_s F_s_coder F_s_value V_t (hz2) (by decide) (e22) (show 22 + ws.length ≤ 34 from by omega) (Ne.symm o_b156_b176) o_t_b156 o_t_b176 o_s_b156) (w_56 hw) (w_35 hw) (by decide) (by decide)) rfl rfl (lenOf pd_19 rfl) rfl (Nat.le_of_eq rfl) (memS (List.mem_of_getElem? (i := 2) rfl) (memS (List.mem_of_getElem? (i := 0) rfl) mem0)) (by decide) (by decide) ?_
  rintro _ h187 _ K188 le189 ⟨rfl, rfl, p190, p191, p192, p193, p194⟩
  replace E_s := E_s.keep K188
  replace F_s_coder := F_s_coder.keep K188 (ninS o_s_b156 (ninS o_s_b176 nin0))
  replace F_s_value := F_s_value.keep K188 (ninS o_s_b156 (ninS o_s_b176 nin0))
  replace V_t := V_t.keep K188 (ninS o_t_b156 (ninS o_t_b176 nin0))
  replace E_r := E_r.keep K188
  replace F_r_coder := F_r_coder.keep K188 (ninS o_r_b156 (ninS o_r_b176 nin0))
  replace F_r_value := F_r_value.keep K188 (ninS o_r_b156 (ninS o_r_b176 nin0))
  replace V_q := V_q.keep K188 (ninS o_q_b156 (ninS o_q_b176 nin0))
  replace E_b152 := E_b152.keep K188
  replace U_b152 := own_unt_keep K188 (ninS o_b152_b156 (ninS o_b152_b176 nin0)) U_b152
  replace F_b152_cause := F_b152_cause.keep K188 (ninS o_b152_b156 (ninS o_b152_b176 nin0))
  replace F_b152_stackTrace := F_b152_stackTrace.keep K188 (ninS o_b152_b156 (ninS o_b152_b176 nin0))
  replace F_b152_suppressedExceptions := F_b152_suppressedExceptions.keep K188 (ninS o_b152_b156 (ninS o_b152_b176 nin0))
  replace F_b152_detailMessage := F_b152_detailMessage.keep K188 (ninS o_b152_b156 (ninS o_b152_b176 nin0))
  replace F_b152_backtrace := F_b152_backtrace.keep K188 (ninS o_b152_b156 (ninS o_b152_b176 nin0))
  replace F_b152_depth := F_b152_depth.keep K188 (ninS o_b152_b156 (ninS o_b152_b176 nin0))
  replace E_b156 := E_b156.keep K188
  replace V_b159 := V_b159.keep K188 (ninS (Ne.symm o_b156_b159) (ninS o_b159_b176 nin0))
  replace E_s171 := E_s171.keep K188
  replace F_s171_coder := F_s171_coder.keep K188 (ninS (Ne.symm o_b156_s171) (ninS o_s171_b176 nin0))
  replace F_s171_value := F_s171_value.keep K188 (ninS (Ne.symm o_b156_s171) (ninS o_s171_b176 nin0))
  replace V_t172 := V_t172.keep K188 (ninS (Ne.symm o_b156_t172) (ninS o_t172_b176 nin0))
  have F_b156_value := p191
  have F_b156_coder := p192
  have F_b156_count := p193
  have V_b176 := p194
  change Go _ _ _ _ _ _ _ _ _ _ _ _ _ _ [b176, b159, b156, b152] h187 6 152 20 #[.val (.ref s), .val (.ref r)] [(.ref b156), (.ref b152), (.ref b152)]
  refine Go.ldcS (pc' := 22) (nn := 8) (z := 2) (vs := [(.int (58 : Int32)), (.int (32 : Int32))]) rfl d_prog_52_method_2_20 rfl (w_123 hw) (sA hw) (by decide) lit_1 (by decide) (by decide) (by decide) (by decide) (by decide) (by decide) ?_
  intro h195 s196 t197 q198 x199 E_s196 F_s196_coder F_s196_value V_t197 ne200
  replace E_s := E_s.ext x199
  replace F_s_coder := F_s_coder.ext x199
  replace F_s_value := F_s_value.ext x199
  replace V_t := V_t.ext x199
  replace E_r := E_r.ext x199
  replace F_r_coder := F_r_coder.ext x199
  replace F_r_value := F_r_value.ext x199
  replace V_q := V_q.ext x199
  replace E_b152 := E_b152.ext x199
  replace U_b152 := unt_ext x199 U_b152
  replace F_b152_cause := F_b152_cause.ext x199
  replace F_b152_stackTrace := F_b152_stackTrace.ext x199
  replace F_b152_suppressedExceptions := F_b152_suppressedExceptions.ext x199
  replace F_b152_detailMessage := F_b152_detailMessage.ext x199
  replace F_b152_backtrace := F_b152_backtrace.ext x199
  replace F_b152_depth := F_b152_depth.ext x199
  replace E_b156 := E_b156.ext x199
  replace V_b159 := V_b159.ext x199
  replace E_s171 := E_s171.ext x199
  replace F_s171_coder := F_s171_coder.ext x199
  replace F_s171_value := F_s171_value.ext x199
  replace V_t172 := V_t172.ext x199
  replace F_b156_value := F_b156_value.ext x199
  replace F_b156_coder := F_b156_coder.ext x199
  replace F_b156_count := F_b156_count.ext x199
  replace V_b176 := V_b176.ext x199
  have o_b176_s196 := (ne200 b176 (List.mem_of_getElem? (i := 0) rfl)).1
  have o_b176_t197 := (ne200 b176 (List.mem_of_getElem? (i := 0) rfl)).2
  have o_b159_s196 := (ne200 b159 (List.mem_of_getElem? (i := 1) rfl)).1
  have o_b159_t197 := (ne200 b159 (List.mem_of_getElem? (i := 1) rfl)).2
  have o_b156_s196 := (ne200 b156 (List.mem_of_getElem? (i := 2) rfl)).1
  have o_b156_t197 := (ne200 b156 (List.mem_of_getElem? (i := 2) rfl)).2
  have o_b152_s196 := (ne200 b152 (List.mem_of_getElem? (i := 3) rfl)).1
  have o_b152_t197 := (ne200 b152 (List.mem_of_getElem? (i := 3) rfl)).2
  change Go _ _ _ _ _ _ _ _ _ _ _ _ _ _ [b176, b159, b156, b152] h195 8 164 22 #[.val (.ref s), .val (.ref r)] [(.ref s196), (.ref b156), (.ref b152), (.ref b152)]
  replace V_t197 : Arv Z h195 t197 q198 .byte (2 : Int32) ([(58 : Int32), (32 : Int32)].map Value.int) (.int (0 : Int32)) := V_t197
  refine Go.callV (pc' := 25) (u := N_14) (z := N_14) (a := b156) d_prog_52_method_2_22 rfl (w_52 hw) (w_53 hw) (nf (w_55 hw) rfl) (w_55 hw) (w_54 hw) (by decide) E_b156 (argsL := [(.ref s196)]) (rest := [(.ref b152), (.ref b152)]) (Pays.of_met (W := 2) (len := 3) (m_aapf2 hw hs b156 s196 t197 q198 [(58 : Int32), (32 : Int32)] (2 : Int32) b176 q177 (PFX ++ ws) ((22 : Int32) + z2) h195 E_b156 F_b156_value F_b156_coder F_b156_count V_b176 E_s196 F_s196_coder F_s196_value V_t197 (e2) (a1.1) (by rw [List.length_append, a1.2, e22, hz2]; rfl) (by rw [List.length_append]; show 22 + ws.length + 2 ≤ 34; omega) (Ne.symm o_b156_b176) (Ne.symm o_b156_t197) (Ne.symm o_b176_t197) (Ne.symm o_b156_s196)) (w_56 hw) (w_35 hw) (by decide) (by decide)) rfl rfl (lenOf pd_19 rfl) rfl (Nat.le_of_eq rfl) (memS (List.mem_of_getElem? (i := 2) rfl) (memS (List.mem_of_getElem? (i := 0) rfl) mem0)) (by decide) (by decide) ?_
  rintro _ h201 _ K202 le203 ⟨rfl, rfl, p204, p205, p206, p207, p208⟩
  replace E_s := E_s.keep K202
  replace F_s_coder := F_s_coder.keep K202 (ninS o_s_b156 (ninS o_s_b176 nin0))
  replace F_s_value := F_s_value.keep K202 (ninS o_s_b156 (ninS o_s_b176 nin0))
  replace V_t := V_t.keep K202 (ninS o_t_b156 (ninS o_t_b176 nin0))
  replace E_r := E_r.keep K202
  replace F_r_coder := F_r_coder.keep K202 (ninS o_r_b156 (ninS o_r_b176 nin0))
  replace F_r_value := F_r_value.keep K202 (ninS o_r_b156 (ninS o_r_b176 nin0))
  replace V_q := V_q.keep K202 (ninS o_q_b156 (ninS o_q_b176 nin0))
  replace E_b152 := E_b152.keep K202
  replace U_b152 := own_unt_keep K202 (ninS o_b152_b156 (ninS o_b152_b176 nin0)) U_b152
  replace F_b152_cause := F_b152_cause.keep K202 (ninS o_b152_b156 (ninS o_b152_b176 nin0))
  replace F_b152_stackTrace := F_b152_stackTrace.keep K202 (ninS o_b152_b156 (ninS o_b152_b176 nin0))
  replace F_b152_suppressedExceptions := F_b152_suppressedExceptions.keep K202 (ninS o_b152_b156 (ninS o_b152_b176 nin0))
  replace F_b152_detailMessage := F_b152_detailMessage.keep K202 (ninS o_b152_b156 (ninS o_b152_b176 nin0))
  replace F_b152_backtrace := F_b152_backtrace.keep K202 (ninS o_b152_b156 (ninS o_b152_b176 nin0))
  replace F_b152_depth := F_b152_depth.keep K202 (ninS o_b152_b156 (ninS o_b152_b176 nin0))
  replace E_b156 := E_b156.keep K202
  replace V_b159 := V_b159.keep K202 (ninS (Ne.symm o_b156_b159) (ninS o_b159_b176 nin0))
  replace E_s171 := E_s171.keep K202
  replace F_s171_coder := F_s171_coder.keep K202 (ninS (Ne.symm o_b156_s171) (ninS o_s171_b176 nin0))
  replace F_s171_value := F_s171_value.keep K202 (ninS (Ne.symm o_b156_s171) (ninS o_s171_b176 nin0))
  replace V_t172 := V_t172.keep K202 (ninS (Ne.symm o_b156_t172) (ninS o_t172_b176 nin0))
  replace E_s196 := E_s196.keep K202
  replace F_s196_coder := F_s196_coder.keep K202 (ninS (Ne.symm o_b156_s196) (ninS (Ne.symm o_b176_s196) nin0))
  replace F_s196_value := F_s196_value.keep K202 (ninS (Ne.symm o_b156_s196) (ninS (Ne.symm o_b176_s196) nin0))
  replace V_t197 := V_t197.keep K202 (ninS (Ne.symm o_b156_t197) (ninS (Ne.symm o_b176_t197) nin0))
  have F_b156_value := p205
  have F_b156_coder := p206
  have F_b156_count := p207
  have V_b176 := p208
  change Go _ _ _ _ _ _ _ _ _ _ _ _ _ _ [b176, b159, b156, b152] h201 8 164 25 #[.val (.ref s), .val (.ref r)] [(.ref b156), (.ref b152), (.ref b152)]
  refine Go.aload_n (pc' := 26) d_prog_52_method_2_25 rfl rfl rfl ?_
  refine Go.callV (pc' := 29) (u := N_14) (z := N_14) (a := b156) d_prog_52_method_2_26 rfl (w_52 hw) (w_53 hw) (nf (w_55 hw) rfl) (w_55 hw) (w_54 hw) (by decide) E_b156 (argsL := [(.ref r)]) (rest := [(.ref b152), (.ref b152)]) (Pays.of_met (W := 2) (len := 3) (m_aapf2 hw hs b156 r q kq vs z3 b176 q177 ((PFX ++ ws) ++ [(58 : Int32), (32 : Int32)]) (((22 : Int32) + z2) + (2 : Int32)) h201 E_b156 F_b156_value F_b156_coder F_b156_count V_b176 E_r F_r_coder F_r_value V_q (hz3) (a2.1) (by rw [List.length_append, List.length_append, a2.2, a1.2, e22, e2, hz2]; rfl) (by rw [List.length_append, List.length_append]; show 22 + ws.length + 2 + vs.length ≤ 34; omega) (Ne.symm o_b156_b176) o_q_b156 o_q_b176 o_r_b156) (w_56 hw) (w_35 hw) (by decide) (by decide)) rfl rfl (lenOf pd_19 rfl) rfl (Nat.le_of_eq rfl) (memS (List.mem_of_getElem? (i := 2) rfl) (memS (List.mem_of_getElem? (i := 0) rfl) mem0)) (by decide) (by decide) ?_
  rintro _ h209 _ K210 le211 ⟨rfl, rfl, p212, p213, p214, p215, p216⟩
  replace E_s := E_s.keep K210
  replace F_s_coder := F_s_coder.keep K210 (ninS o_s_b156 (ninS o_s_b176 nin0))
  replace F_s_value := F_s_value.keep K210 (ninS o_s_b156 (ninS o_s_b176 nin0))
  replace V_t := V_t.keep K210 (ninS o_t_b156 (ninS o_t_b176 nin0))
  replace E_r := E_r.keep K210
  replace F_r_coder := F_r_coder.keep K210 (ninS o_r_b156 (ninS o_r_b176 nin0))
  replace F_r_value := F_r_value.keep K210 (ninS o_r_b156 (ninS o_r_b176 nin0))
  replace V_q := V_q.keep K210 (ninS o_q_b156 (ninS o_q_b176 nin0))
  replace E_b152 := E_b152.keep K210
  replace U_b152 := own_unt_keep K210 (ninS o_b152_b156 (ninS o_b152_b176 nin0)) U_b152
  replace F_b152_cause := F_b152_cause.keep K210 (ninS o_b152_b156 (ninS o_b152_b176 nin0))
  replace F_b152_stackTrace := F_b152_stackTrace.keep K210 (ninS o_b152_b156 (ninS o_b152_b176 nin0))
  replace F_b152_suppressedExceptions := F_b152_suppressedExceptions.keep K210 (ninS o_b152_b156 (ninS o_b152_b176 nin0))
  replace F_b152_detailMessage := F_b152_detailMessage.keep K210 (ninS o_b152_b156 (ninS o_b152_b176 nin0))
  replace F_b152_backtrace := F_b152_backtrace.keep K210 (ninS o_b152_b156 (ninS o_b152_b176 nin0))
  replace F_b152_depth := F_b152_depth.keep K210 (ninS o_b152_b156 (ninS o_b152_b176 nin0))
  replace E_b156 := E_b156.keep K210
  replace V_b159 := V_b159.keep K210 (ninS (Ne.symm o_b156_b159) (ninS o_b159_b176 nin0))
  replace E_s171 := E_s171.keep K210
  replace F_s171_coder := F_s171_coder.keep K210 (ninS (Ne.symm o_b156_s171) (ninS o_s171_b176 nin0))
  replace F_s171_value := F_s171_value.keep K210 (ninS (Ne.symm o_b156_s171) (ninS o_s171_b176 nin0))
  replace V_t172 := V_t172.keep K210 (ninS (Ne.symm o_b156_t172) (ninS o_t172_b176 nin0))
  replace E_s196 := E_s196.keep K210
  replace F_s196_coder := F_s196_coder.keep K210 (ninS (Ne.symm o_b156_s196) (ninS (Ne.symm o_b176_s196) nin0))
  replace F_s196_value := F_s196_value.keep K210 (ninS (Ne.symm o_b156_s196) (ninS (Ne.symm o_b176_s196) nin0))
  replace V_t197 := V_t197.keep K210 (ninS (Ne.symm o_b156_t197) (ninS (Ne.symm o_b176_t197) nin0))
  have F_b156_value := p213
  have F_b156_coder := p214
  have F_b156_count := p215
  have V_b176 := p216
  change Go _ _ _ _ _ _ _ _ _ _ _ _ _ _ [b176, b159, b156, b152] h209 8 164 29 #[.val (.ref s), .val (.ref r)] [(.ref b156), (.ref b152), (.ref b152)]
  refine Go.callV (pc' := 32) (u := N_24) (z := N_24) (a := b156) d_prog_52_method_2_29 rfl (w_124 hw) (w_125 hw) (nf (w_127 hw) rfl) (w_127 hw) (w_126 hw) (by decide) E_b156 (argsL := []) (rest := [(.ref b152), (.ref b152)]) (Pays.of_met (W := 2) (len := 3) (m_sts hw hs b156 b176 q177 (((PFX ++ ws) ++ [(58 : Int32), (32 : Int32)]) ++ vs) ((((22 : Int32) + z2) + (2 : Int32)) + z3) h209 E_b156 F_b156_value F_b156_coder F_b156_count V_b176 (a3.1) (by rw [List.length_append, List.length_append, List.length_append, a3.2, a2.2, a1.2, e22, e2, hz2, hz3]; rfl) (by rw [List.length_append, List.length_append, List.length_append]; show 22 + ws.length + 2 + vs.length < 34; omega)) (w_128 hw) (w_35 hw) (by decide) (by decide)) rfl rfl (lenOf pd_20 rfl) rfl (Nat.le_of_eq rfl) mem0 (by decide) (by decide) ?_
  rintro _ h220 _ K221 le222 ⟨b217, b218, q219, rfl, rfl, p223, p224, p225, p226, p227, p228⟩
  have o_s_b217 : s ≠ b217 := Nat.ne_of_lt (Nat.lt_of_lt_of_le E_s.lt p223)
  have o_t_b217 : t ≠ b217 := Nat.ne_of_lt (Nat.lt_of_lt_of_le V_t.lt p223)
  have o_r_b217 : r ≠ b217 := Nat.ne_of_lt (Nat.lt_of_lt_of_le E_r.lt p223)
  have o_q_b217 : q ≠ b217 := Nat.ne_of_lt (Nat.lt_of_lt_of_le V_q.lt p223)
  have o_b152_b217 : b152 ≠ b217 := Nat.ne_of_lt (Nat.lt_of_lt_of_le E_b152.lt p223)
  have o_b156_b217 : b156 ≠ b217 := Nat.ne_of_lt (Nat.lt_of_lt_of_le E_b156.lt p223)
  have o_b159_b217 : b159 ≠ b217 := Nat.ne_of_lt (Nat.lt_of_lt_of_le V_b159.lt p223)
  have o_s171_b217 : s171 ≠ b217 := Nat.ne_of_lt (Nat.lt_of_lt_of_le E_s171.lt p223)
  have o_t172_b217 : t172 ≠ b217 := Nat.ne_of_lt (Nat.lt_of_lt_of_le V_t172.lt p223)
  have o_s196_b217 : s196 ≠ b217 := Nat.ne_of_lt (Nat.lt_of_lt_of_le E_s196.lt p223)
  have o_t197_b217 : t197 ≠ b217 := Nat.ne_of_lt (Nat.lt_of_lt_of_le V_t197.lt p223)
  have o_b176_b217 : b176 ≠ b217 := Nat.ne_of_lt (Nat.lt_of_lt_of_le V_b176.lt p223)
  have ge_b217 := Nat.le_trans le222 p223
  have o_s_b218 : s ≠ b218 := Nat.ne_of_lt (Nat.lt_of_lt_of_le E_s.lt p227)
  have o_t_b218 : t ≠ b218 := Nat.ne_of_lt (Nat.lt_of_lt_of_le V_t.lt p227)
  have o_r_b218 : r ≠ b218 := Nat.ne_of_lt (Nat.lt_of_lt_of_le E_r.lt p227)
  have o_q_b218 : q ≠ b218 := Nat.ne_of_lt (Nat.lt_of_lt_of_le V_q.lt p227)
  have o_b152_b218 : b152 ≠ b218 := Nat.ne_of_lt (Nat.lt_of_lt_of_le E_b152.lt p227)
  have o_b156_b218 : b156 ≠ b218 := Nat.ne_of_lt (Nat.lt_of_lt_of_le E_b156.lt p227)
  have o_b159_b218 : b159 ≠ b218 := Nat.ne_of_lt (Nat.lt_of_lt_of_le V_b159.lt p227)
  have o_s171_b218 : s171 ≠ b218 := Nat.ne_of_lt (Nat.lt_of_lt_of_le E_s171.lt p227)
  have o_t172_b218 : t172 ≠ b218 := Nat.ne_of_lt (Nat.lt_of_lt_of_le V_t172.lt p227)
  have o_s196_b218 : s196 ≠ b218 := Nat.ne_of_lt (Nat.lt_of_lt_of_le E_s196.lt p227)
  have o_t197_b218 : t197 ≠ b218 := Nat.ne_of_lt (Nat.lt_of_lt_of_le V_t197.lt p227)
  have o_b176_b218 : b176 ≠ b218 := Nat.ne_of_lt (Nat.lt_of_lt_of_le V_b176.lt p227)
  have ge_b218 := Nat.le_trans le222 p227
  replace E_s := E_s.keep K221
  replace F_s_coder := F_s_coder.keep K221 nin0
  replace F_s_value := F_s_value.keep K221 nin0
  replace V_t := V_t.keep K221 nin0
  replace E_r := E_r.keep K221
  replace F_r_coder := F_r_coder.keep K221 nin0
  replace F_r_value := F_r_value.keep K221 nin0
  replace V_q := V_q.keep K221 nin0
  replace E_b152 := E_b152.keep K221
  replace U_b152 := own_unt_keep K221 nin0 U_b152
  replace F_b152_cause := F_b152_cause.keep K221 nin0
  replace F_b152_stackTrace := F_b152_stackTrace.keep K221 nin0
  replace F_b152_suppressedExceptions := F_b152_suppressedExceptions.keep K221 nin0
  replace F_b152_detailMessage := F_b152_detailMessage.keep K221 nin0
  replace F_b152_backtrace := F_b152_backtrace.keep K221 nin0
  replace F_b152_depth := F_b152_depth.keep K221 nin0
  replace E_b156 := E_b156.keep K221
  replace V_b159 := V_b159.keep K221 nin0
  replace E_s171 := E_s171.keep K221
  replace F_s171_coder := F_s171_coder.keep K221 nin0
  replace F_s171_value := F_s171_value.keep K221 nin0
  replace V_t172 := V_t172.keep K221 nin0
  replace E_s196 := E_s196.keep K221
  replace F_s196_coder := F_s196_coder.keep K221 nin0
  replace F_s196_value := F_s196_value.keep K221 nin0
  replace V_t197 := V_t197.keep K221 nin0
  replace F_b156_value := F_b156_value.keep K221 nin0
  replace F_b156_coder := F_b156_coder.keep K221 nin0
  replace F_b156_count := F_b156_count.keep K221 nin0
  replace V_b176 := V_b176.keep K221 nin0
  have E_b217 := p224
  have F_b217_coder := p225
  have F_b217_value := p226
  have V_b218 := p228
  change Go _ _ _ _ _ _ _ _ _ _ _ _ _ _ [b176, b159, b156, b152] h220 10 202 32 #[.val (.ref s), .val (.ref r)] [(.ref b217), (.ref b152), (.ref b152)]
  refine Go.callI (pc' := 35) (z := N_28) (a := b152) d_prog_52_method_2_32 rfl rfl (w_163 hw) (w_164 hw) (w_165 hw) (by decide) (argsL := [(.ref b217)]) (rest := [(.ref b152)]) (Pays.of_met (W := 1) (len := 3) (m_own hw hs b152 b217 h220 E_b152 U_b152 F_b152_cause F_b152_stackTrace F_b152_suppressedExceptions F_b152_detailMessage F_b152_backtrace (hst)) (w_165 hw) (w_29 hw) (by decide) (by decide)) rfl rfl (lenOf pd_6 rfl) rfl (Nat.le_of_eq rfl) (memS (List.mem_of_getElem? (i := 3) rfl) mem0) (by decide) (by decide) ?_
  rintro _ h229 _ K230 le231 ⟨rfl, rfl, p232, p233⟩
  replace E_s := E_s.keep K230
  replace F_s_coder := F_s_coder.keep K230 (ninS o_s_b152 nin0)
  replace F_s_value := F_s_value.keep K230 (ninS o_s_b152 nin0)
  replace V_t := V_t.keep K230 (ninS o_t_b152 nin0)
  replace E_r := E_r.keep K230
  replace F_r_coder := F_r_coder.keep K230 (ninS o_r_b152 nin0)
  replace F_r_value := F_r_value.keep K230 (ninS o_r_b152 nin0)
  replace V_q := V_q.keep K230 (ninS o_q_b152 nin0)
  replace E_b152 := E_b152.keep K230
  replace E_b156 := E_b156.keep K230
  replace V_b159 := V_b159.keep K230 (ninS (Ne.symm o_b152_b159) nin0)
  replace E_s171 := E_s171.keep K230
  replace F_s171_coder := F_s171_coder.keep K230 (ninS (Ne.symm o_b152_s171) nin0)
  replace F_s171_value := F_s171_value.keep K230 (ninS (Ne.symm o_b152_s171) nin0)
  replace V_t172 := V_t172.keep K230 (ninS (Ne.symm o_b152_t172) nin0)
  replace E_s196 := E_s196.keep K230
  replace F_s196_coder := F_s196_coder.keep K230 (ninS (Ne.symm o_b152_s196) nin0)
  replace F_s196_value := F_s196_value.keep K230 (ninS (Ne.symm o_b152_s196) nin0)
  replace V_t197 := V_t197.keep K230 (ninS (Ne.symm o_b152_t197) nin0)
  replace F_b156_value := F_b156_value.keep K230 (ninS (Ne.symm o_b152_b156) nin0)
  replace F_b156_coder := F_b156_coder.keep K230 (ninS (Ne.symm o_b152_b156) nin0)
  replace F_b156_count := F_b156_count.keep K230 (ninS (Ne.symm o_b152_b156) nin0)
  replace V_b176 := V_b176.keep K230 (ninS (Ne.symm o_b152_b176) nin0)
  replace E_b217 := E_b217.keep K230
  replace F_b217_coder := F_b217_coder.keep K230 (ninS (Ne.symm o_b152_b217) nin0)
  replace F_b217_value := F_b217_value.keep K230 (ninS (Ne.symm o_b152_b217) nin0)
  replace V_b218 := V_b218.keep K230 (ninS (Ne.symm o_b152_b218) nin0)
  have F_b152_detailMessage := p233
  change Go _ _ _ _ _ _ _ _ _ _ _ _ _ _ [b176, b159, b156, b152] h229 11 2954 35 #[.val (.ref s), .val (.ref r)] [(.ref b152)]
  exact Go.retA d_prog_52_method_2_35 rfl rfl rfl (by decide) (by decide) [] sn0 ⟨b152, b217, b218, _, rfl, rfl, E_b152, F_b152_detailMessage, E_b217, F_b217_coder, F_b217_value, V_b218⟩
abbrev R_m_cmpL : Room := { frames := 0, cells := 0, slots := 0, locals := 0 }
set_option maxRecDepth 65536 in
set_option maxHeartbeats 40000000 in
theorem m_cmpL_loop {l : Launch} {Z : State} {n0 : Nat} {h0 : Heap} {Q : Option Value → Heap → List Addr → Prop} {c t : Addr} {kc kt : ClassId} {cs : List Int32} {z : Int32} (hz : z.toNatClampNeg = cs.length) (hcs : ∀ x ∈ cs, ¬ x < 0 ∧ ¬ 255 < x) (ne_c_t : c ≠ t)
    (K : ∀ h' o, Arv Z h' t kt .byte z (cs.map lowV) (.int (0 : Int32)) → Go l Z EL0 n0 NR0 KN0 N_31 jdk_52_method_21_code 7 (Option.some Jvm.ClassFile.FieldType.int) R_m_cmpL h0 [t] Q [t] h' 0 0 44 #[.val (.ref c), .val (.int (Int32.ofNat cs.length)), .val (.ref t), .val (.int (Int32.ofNat cs.length)), .val (.int z), .val (.int (Int32.ofNat cs.length)), o] []) :
    ∀ (m i : Nat) (h : Heap) (o : Slot), i + m = cs.length → One o → Arv Z h c kc .char z (cs.map Value.int) (.int (0 : Int32)) → Arv Z h t kt .byte z ((cs.take i).map lowV ++ List.replicate m (.int (0 : Int32))) (.int (0 : Int32)) →
      Go l Z EL0 n0 NR0 KN0 N_31 jdk_52_method_21_code 7 (Option.some Jvm.ClassFile.FieldType.int) R_m_cmpL h0 [t] Q [t] h 0 0 3 #[.val (.ref c), .val (.int (Int32.ofNat i)), .val (.ref t), .val (.int (Int32.ofNat i)), .val (.int z), .val (.int (Int32.ofNat i)), o] [] := by
  intro m
  induction m with
  | zero =>
    intro i h o hi ho V_c V_t
    obtain rfl : i = cs.length := by omega
    have zn := arv_nn V_c
    have q := (back32 zn).2
    refine Go.iload (pc' := 5) d_jdk_52_method_21_3 rfl rfl ?_
    refine Go.iload (pc' := 7) d_jdk_52_method_21_5 rfl rfl ?_
    refine Go.icmpY (pc' := 44) d_jdk_52_method_21_7 (by decide) (by decide) (flt (ofNat_ge zn (by omega) (Nat.le_of_eq hz) : ¬ ((Int32.ofNat cs.length) < z))).2.1 ?_
    refine K h o ?_
    simpa using V_t
  | succ m ih =>
    intro i h o hi ho V_c V_t
    have zn := arv_nn V_c
    have q := (back32 zn).2
    have hi2 : i < cs.length := by omega
    have b1 := getD_mem hcs hi2
    have ci := ofNat_clamp (i := i) (by omega)
    have nn := ofNat_nn (i := i) (by omega)
    have lt := ofNat_lt (i := i) zn (by omega)
    refine Go.iload (pc' := 5) d_jdk_52_method_21_3 rfl rfl ?_
    refine Go.iload (pc' := 7) d_jdk_52_method_21_5 rfl rfl ?_
    refine Go.icmpN (pc' := 10) d_jdk_52_method_21_7 rfl (tlt (lt : (Int32.ofNat i) < z)).2.1 ?_
    refine Go.aload_n (pc' := 11) d_jdk_52_method_21_10 rfl rfl rfl ?_
    refine Go.iload_n (pc' := 12) d_jdk_52_method_21_11 rfl rfl ?_
    refine Go.caloadV (pc' := 13) (v := (.int (cs.getD i 0))) d_jdk_52_method_21_12 rfl V_c ⟨nn, lt⟩ (by rw [ci]; exact getD_int cs i) ?_
    refine Go.istoreS (pc' := 15) (Ls' := #[.val (.ref c), .val (.int (Int32.ofNat i)), .val (.ref t), .val (.int (Int32.ofNat i)), .val (.int z), .val (.int (Int32.ofNat i)), .val (.int (cs.getD i 0))]) d_jdk_52_method_21_13 rfl rfl ho rfl ?_
    refine Go.iload (pc' := 17) d_jdk_52_method_21_15 rfl rfl ?_
    refine Go.sipush (pc' := 20) d_jdk_52_method_21_17 rfl ics_255 ?_
    refine Go.icmpY (pc' := 26) d_jdk_52_method_21_20 (by decide) (by decide) (flt (b1.2 : ¬ ((255 : Int32) < (cs.getD i 0)))).2.2.2 ?_
    refine Go.aload_n (pc' := 27) d_jdk_52_method_21_26 rfl rfl rfl ?_
    refine Go.iload_n (pc' := 28) d_jdk_52_method_21_27 rfl rfl ?_
    refine Go.iload (pc' := 30) d_jdk_52_method_21_28 rfl rfl ?_
    refine Go.i2b (pc' := 31) d_jdk_52_method_21_30 rfl ?_
    refine Go.bastoreV (pc' := 32) (i := i) d_jdk_52_method_21_31 rfl (List.mem_of_getElem? (i := 0) rfl) V_t ⟨nn, lt⟩ ci (by simp; omega) ?_
    intro h2 W2 V_t2
    rw [nar_byte] at V_t2
    have V_t3 := V_t2
    rw [show (Value.int (cs.getD i 0).toInt8.toInt32) = lowV (cs.getD i 0) from rfl, set_low cs i m hi2] at V_t3
    replace V_c := V_c.other W2 ne_c_t
    change Go _ _ _ _ _ _ _ _ _ _ _ _ _ _ [t] h2 0 0 32 #[.val (.ref c), .val (.int (Int32.ofNat i)), .val (.ref t), .val (.int (Int32.ofNat i)), .val (.int z), .val (.int (Int32.ofNat i)), .val (.int (cs.getD i 0))] []
    refine Go.iinc (pc' := 35) (Ls' := #[.val (.ref c), .val (.int ((Int32.ofNat i) + (1 : Int32))), .val (.ref t), .val (.int (Int32.ofNat i)), .val (.int z), .val (.int (Int32.ofNat i)), .val (.int (cs.getD i 0))]) d_jdk_52_method_21_32 rfl ic_1 rfl rfl ?_
    refine Go.iinc (pc' := 38) (Ls' := #[.val (.ref c), .val (.int ((Int32.ofNat i) + (1 : Int32))), .val (.ref t), .val (.int ((Int32.ofNat i) + (1 : Int32))), .val (.int z), .val (.int (Int32.ofNat i)), .val (.int (cs.getD i 0))]) d_jdk_52_method_21_35 rfl ic_1 rfl rfl ?_
    refine Go.iinc (pc' := 41) (Ls' := #[.val (.ref c), .val (.int ((Int32.ofNat i) + (1 : Int32))), .val (.ref t), .val (.int ((Int32.ofNat i) + (1 : Int32))), .val (.int z), .val (.int ((Int32.ofNat i) + (1 : Int32))), .val (.int (cs.getD i 0))]) d_jdk_52_method_21_38 rfl ic_1 rfl rfl ?_
    refine Go.goto (pc' := 3) d_jdk_52_method_21_41 (by decide) (by decide) ?_
    rw [ofNat_succ i]
    exact ih (i + 1) h2 _ (by omega) (One.val rfl) V_c V_t3
theorem pn_m_cmpL : plainFor (⟨"java/lang/StringUTF16", "compress", "([CI[BII)I"⟩ : MethodName) = true := by first | (refine plainFor_of_name ?_; simp [plainName, overriddenIn]; done) | decide +kernel
theorem ef_m_cmpL (m : MethodId) (c t : Addr) (z : Int32) : entryFrame m #[(.ref c), (.int (0 : Int32)), (.ref t), (.int (0 : Int32)), (.int z)] 7 = mkF m 0 #[.val (.ref c), .val (.int (0 : Int32)), .val (.ref t), .val (.int (0 : Int32)), .val (.int z), .unset, .unset] [] := by first | (simp [entryFrame, mkF, argsToLocals, Value.category]; done) | rfl
set_option maxRecDepth 65536 in
set_option maxHeartbeats 40000000 in
theorem m_cmpL {l : Launch} {Z : State} {a0 : Array Value} {n0 : Nat} (hw : ∀ d ∈ tables_1, d.before a0 Z = true) (hs : Stat Z) (c t : Addr) (kc kt : ClassId) (cs : List Int32) (z : Int32) (h0 : Heap) (V_c : Arv Z h0 c kc .char z (cs.map Value.int) (.int (0 : Int32))) (V_t : Arv Z h0 t kt .byte z (List.replicate cs.length (.int (0 : Int32))) (.int (0 : Int32))) (hz : z.toNatClampNeg = cs.length) (hcs : ∀ x ∈ cs, ¬ x < 0 ∧ ¬ 255 < x) (ne_c_t : c ≠ t) :
    Met l Z EL0 n0 NR0 KN0 N_31 jdk_52_method_21_code 7 (Option.some Jvm.ClassFile.FieldType.int) R_m_cmpL [t] #[(.ref c), (.int (0 : Int32)), (.ref t), (.int (0 : Int32)), (.int z)] h0 (fun v h' SN => v = some (.int z) ∧ SN = [] ∧ Arv Z h' t kt .byte z (cs.map lowV) (.int (0 : Int32))) := by
  refine Met.of_go pn_m_cmpL (fun m => ef_m_cmpL m c t z) ?_
  intro hO hWS
  refine Go.iconst (pc' := 1) d_jdk_52_method_21_0 rfl ic_0 ?_
  refine Go.istore (pc' := 3) (Ls' := #[.val (.ref c), .val (.int (0 : Int32)), .val (.ref t), .val (.int (0 : Int32)), .val (.int z), .val (.int (0 : Int32)), .unset]) d_jdk_52_method_21_1 rfl rfl ?_
  refine m_cmpL_loop (kc := kc) hz hcs ne_c_t (fun h' o V => ?_) cs.length 0 h0 _ (by omega) One.u V_c (by simpa using V_t)
  refine Go.iload (pc' := 46) d_jdk_52_method_21_44 rfl rfl ?_
  exact Go.retI d_jdk_52_method_21_46 rfl (by decide) (by decide) [] sn0 ⟨rfl, rfl, V⟩
abbrev R_m_cmp : Room := { frames := 1, cells := 1, slots := 2, locals := 18 }
theorem pn_m_cmp : plainFor (⟨"java/lang/StringUTF16", "compress", "([CII)[B"⟩ : MethodName) = true := by first | (refine plainFor_of_name ?_; simp [plainName, overriddenIn]; done) | decide +kernel
abbrev Q_m_cmp (Z : State) (c : Addr) (kc : ClassId) (cs : List Int32) (z : Int32) (h0 : Heap) : Option Value → Heap → List Addr → Prop := fun res h' SN => ∃ (t : Addr) (kt : ClassId), res = some (.ref t) ∧ SN = [] ∧ h0.size ≤ t ∧ Arv Z h' t kt .byte z (cs.map lowV) (.int (0 : Int32))
theorem ef_m_cmp (mid : MethodId) (c : Addr) (kc : ClassId) (cs : List Int32) (z : Int32) : entryFrame mid #[(.ref c), (.int (0 : Int32)), (.int z)] 6 = mkF mid 0 #[.val (.ref c), .val (.int (0 : Int32)), .val (.int z), .unset, .unset, .unset] [] := by first | (simp [entryFrame, mkF, argsToLocals, Value.category]; done) | rfl
set_option maxRecDepth 65536 in
set_option maxHeartbeats 40000000 in
theorem m_cmp {l : Launch} {Z : State} {a0 : Array Value} {n0 : Nat} (hw : ∀ d ∈ tables_1, d.before a0 Z = true) (hs : Stat Z) (c : Addr) (kc : ClassId) (cs : List Int32) (z : Int32) (h0 : Heap) (V_c : Arv Z h0 c kc .char z (cs.map Value.int) (.int (0 : Int32))) (hz : z.toNatClampNeg = cs.length) (hcs : ∀ x ∈ cs, ¬ x < 0 ∧ ¬ 255 < x) (hcap : z.toNatClampNeg ≤ CAP) :
    Met l Z EL0 n0 NR0 KN0 N_32 jdk_52_method_16_code 6 (Option.some (Jvm.ClassFile.FieldType.array Jvm.ClassFile.FieldType.byte)) R_m_cmp [] #[(.ref c), (.int (0 : Int32)), (.int z)] h0 (Q_m_cmp Z c kc cs z h0) := by
  refine Met.of_go pn_m_cmp (fun mid => ef_m_cmp mid c kc cs z ) ?_
  intro hO hWS
  have zn := arv_nn V_c
  refine Go.iload_n (pc' := 1) d_jdk_52_method_16_0 rfl rfl ?_
  refine Go.newP (pc' := 3) (cap := CAP) (ad := "[B") d_jdk_52_method_16_1 rfl (w_20 hw) (by decide) zn hcap (by decide) (by decide) (by decide) ?_
  intro h1 b1 g1 ge_b1 k1 x1 V_b1 E_b1
  have o_c_b1 : c ≠ b1 := Nat.ne_of_lt (Nat.lt_of_lt_of_le V_c.lt (Nat.le_of_eq g1))
  replace V_c := V_c.ext x1
  replace V_b1 : Arv Z h1 b1 k1 .byte z (List.replicate cs.length (.int (0 : Int32))) (.int (0 : Int32)) := V_b1.pad (fun i => pad_rep [] _ cs.length i)
  change Go _ _ _ _ _ _ _ _ _ _ _ _ _ _ [b1] h1 1 2 3 #[.val (.ref c), .val (.int (0 : Int32)), .val (.int z), .unset, .unset, .unset] [(.ref b1)]
  refine Go.astore_n (pc' := 4) (Ls' := #[.val (.ref c), .val (.int (0 : Int32)), .val (.int z), .val (.ref b1), .unset, .unset]) d_jdk_52_method_16_3 rfl rfl rfl ?_
  refine Go.aload_n (pc' := 5) d_jdk_52_method_16_4 rfl rfl rfl ?_
  refine Go.iload_n (pc' := 6) d_jdk_52_method_16_5 rfl rfl ?_
  refine Go.aload_n (pc' := 7) d_jdk_52_method_16_6 rfl rfl rfl ?_
  refine Go.iconst (pc' := 8) d_jdk_52_method_16_7 rfl ic_0 ?_
  refine Go.iload_n (pc' := 9) d_jdk_52_method_16_8 rfl rfl ?_
  refine Go.callS (pc' := 12) (z := N_31) d_jdk_52_method_16_9 rfl (w_250 hw) (w_251 hw) (w_248 hw) (w_252 hw) (by decide) (argsL := [(.ref c), (.int (0 : Int32)), (.ref b1), (.int (0 : Int32)), (.int z)]) (rest := []) (Pays.of_met (W := 0) (len := 3) (m_cmpL hw hs c b1 kc k1 cs z h1 V_c V_b1 (hz) (hcs) o_c_b1) (w_252 hw) (w_248 hw) (by decide) (by decide)) rfl rfl (lenOf pd_21 rfl) rfl (Nat.le_of_eq rfl) (memS (List.mem_of_getElem? (i := 0) rfl) mem0) (by decide) (by decide) ?_
  rintro _ h234 _ K235 le236 ⟨rfl, rfl, p237⟩
  replace V_c := V_c.keep K235 (ninS o_c_b1 nin0)
  have V_b1 := p237
  change Go _ _ _ _ _ _ _ _ _ _ _ _ _ _ [b1] h234 1 2 12 #[.val (.ref c), .val (.int (0 : Int32)), .val (.int z), .val (.ref b1), .unset, .unset] [(.int z)]
  refine Go.istore (pc' := 14) (Ls' := #[.val (.ref c), .val (.int (0 : Int32)), .val (.int z), .val (.ref b1), .val (.int z), .unset]) d_jdk_52_method_16_12 rfl rfl ?_
  refine Go.iload (pc' := 16) d_jdk_52_method_16_14 rfl rfl ?_
  refine Go.iload_n (pc' := 17) d_jdk_52_method_16_16 rfl rfl ?_
  refine Go.icmpY (pc' := 57) d_jdk_52_method_16_17 (by decide) (by decide) (teq (rfl : z = z)).1 ?_
  refine Go.aload_n (pc' := 58) d_jdk_52_method_16_57 rfl rfl rfl ?_
  exact Go.retA d_jdk_52_method_16_58 rfl rfl rfl (by decide) (by decide) [] sn0 ⟨b1, k1, rfl, rfl, ge_b1, V_b1⟩
abbrev R_m_cfl : Room := { frames := 0, cells := 0, slots := 0, locals := 0 }
theorem pn_m_cfl : plainFor (⟨"java/lang/StringUTF16", "coderFromArrayLen", "([BI)B"⟩ : MethodName) = true := by first | (refine plainFor_of_name ?_; simp [plainName, overriddenIn]; done) | decide +kernel
abbrev Q_m_cfl (Z : State) (t : Addr) (kt : ClassId) (z : Int32) (vs : List Value) (h0 : Heap) : Option Value → Heap → List Addr → Prop := fun res h' SN => res = some (.int (0 : Int32)) ∧ SN = [] ∧ h0 = h'
theorem ef_m_cfl (mid : MethodId) (t : Addr) (kt : ClassId) (z : Int32) (vs : List Value) : entryFrame mid #[(.ref t), (.int z)] 2 = mkF mid 0 #[.val (.ref t), .val (.int z)] [] := by first | (simp [entryFrame, mkF, argsToLocals, Value.category]; done) | rfl
set_option maxRecDepth 65536 in
set_option maxHeartbeats 40000000 in
theorem m_cfl {l : Launch} {Z : State} {a0 : Array Value} {n0 : Nat} (hw : ∀ d ∈ tables_1, d.before a0 Z = true) (hs : Stat Z) (t : Addr) (kt : ClassId) (z : Int32) (vs : List Value) (h0 : Heap) (V_t : Arv Z h0 t kt .byte z vs (.int (0 : Int32))) :
    Met l Z EL0 n0 NR0 KN0 N_33 jdk_52_method_15_code 2 (Option.some Jvm.ClassFile.FieldType.byte) R_m_cfl [] #[(.ref t), (.int z)] h0 (Q_m_cfl Z t kt z vs h0) := by
  refine Met.of_go pn_m_cfl (fun mid => ef_m_cfl mid t kt z vs ) ?_
  intro hO hWS
  refine Go.iload_n (pc' := 1) d_jdk_52_method_15_0 rfl rfl ?_
  refine Go.aload_n (pc' := 2) d_jdk_52_method_15_1 rfl rfl rfl ?_
  refine Go.lenV (pc' := 3) d_jdk_52_method_15_2 rfl V_t ?_
  refine Go.isub (pc' := 4) d_jdk_52_method_15_3 rfl ?_
  refine Go.bipush (pc' := 6) d_jdk_52_method_15_4 rfl icb_31 ?_
  refine Go.iushr (pc' := 7) d_jdk_52_method_15_6 rfl ?_
  refine Go.i2b (pc' := 8) d_jdk_52_method_15_7 rfl ?_
  rw [own_coder0]
  exact Go.retS (ty := .byte) d_jdk_52_method_15_8 rfl (by simp) rfl (by decide) (by decide) [] sn0 ⟨rfl, rfl, rfl⟩
abbrev R_m_str4 : Room := { frames := 2, cells := 1, slots := 2, locals := 35 }
theorem pn_m_str4 : plainFor (⟨"java/lang/String", "<init>", "([CIILjava/lang/Void;)V"⟩ : MethodName) = true := by first | (refine plainFor_of_name ?_; simp [plainName, overriddenIn]; done) | decide +kernel
abbrev Q_m_str4 (Z : State) (a : Addr) (c : Addr) (kc : ClassId) (cs : List Int32) (z : Int32) (h0 : Heap) : Option Value → Heap → List Addr → Prop := fun res h' SN => ∃ (t : Addr) (kt : ClassId), res = none ∧ SN = [] ∧ Exa Z h' a "java/lang/String" ∧ Fld Z h' a "java/lang/String" "coder" "B" (.int (0 : Int32)) ∧ Fld Z h' a "java/lang/String" "value" "[B" (.ref t) ∧ Arv Z h' t kt .byte z (cs.map lowV) (.int (0 : Int32)) ∧ h0.size ≤ t
theorem ef_m_str4 (mid : MethodId) (a : Addr) (c : Addr) (kc : ClassId) (cs : List Int32) (z : Int32) : entryFrame mid #[(.ref a), (.ref c), (.int (0 : Int32)), (.int z), .null] 6 = mkF mid 0 #[.val (.ref a), .val (.ref c), .val (.int (0 : Int32)), .val (.int z), .val .null, .unset] [] := by first | (simp [entryFrame, mkF, argsToLocals, Value.category]; done) | rfl
set_option maxRecDepth 65536 in
set_option maxHeartbeats 40000000 in
theorem m_str4 {l : Launch} {Z : State} {a0 : Array Value} {n0 : Nat} (hw : ∀ d ∈ tables_1, d.before a0 Z = true) (hs : Stat Z) (a : Addr) (c : Addr) (kc : ClassId) (cs : List Int32) (z : Int32) (h0 : Heap) (E_a : Exa Z h0 a "java/lang/String") (F_a_coder : Fld Z h0 a "java/lang/String" "coder" "B" (.int (0 : Int32))) (F_a_value : Fld Z h0 a "java/lang/String" "value" "[B" .null) (V_c : Arv Z h0 c kc .char z (cs.map Value.int) (.int (0 : Int32))) (hz : z.toNatClampNeg = cs.length) (hcs : ∀ x ∈ cs, ¬ x < 0 ∧ ¬ 255 < x) (hcs0 : cs ≠ []) (hcap : z.toNatClampNeg ≤ CAP) (ne_c_a : c ≠ a) :
    Met l Z EL0 n0 NR0 KN0 N_34 jdk_42_method_149_code 6 (Option.none : Option Jvm.ClassFile.FieldType) R_m_str4 [a] #[(.ref a), (.ref c), (.int (0 : Int32)), (.int z), .null] h0 (Q_m_str4 Z a c kc cs z h0) := by
  refine Met.of_go pn_m_str4 (fun mid => ef_m_str4 mid a c kc cs z ) ?_
  intro hO hWS
  obtain ⟨zc, S_c, hzc⟩ := hs_c hs
  have zn := arv_nn V_c
  refine Go.aload_n (pc' := 1) d_jdk_42_method_149_0 rfl rfl rfl ?_
  refine Go.initO (pc' := 4) (W := 0) d_jdk_42_method_149_1 rfl (w_16 hw) (w_17 hw) (w_18 hw) rfl (by decide) (Nat.le_of_eq rfl) (by decide) ?_
  refine Go.iload_n (pc' := 5) d_jdk_42_method_149_4 rfl rfl ?_
  refine Go.ifY (pc' := 27) d_jdk_42_method_149_5 (by decide) (by decide) ((if0 _ _).trans (feq (own_nz hz hcs0 : ¬ (z = (0 : Int32)))).2) ?_
  refine Go.getS (pc' := 30) d_jdk_42_method_149_27 rfl (host := "") (Or.inl (w_72 hw)) Via.refl S_c ?_
  refine Go.ifN (pc' := 33) d_jdk_42_method_149_30 rfl ((if0 _ _).trans (feq (hzc : ¬ (zc = (0 : Int32)))).1) ?_
  refine Go.aload_n (pc' := 34) d_jdk_42_method_149_33 rfl rfl rfl ?_
  refine Go.iload_n (pc' := 35) d_jdk_42_method_149_34 rfl rfl ?_
  refine Go.iload_n (pc' := 36) d_jdk_42_method_149_35 rfl rfl ?_
  refine Go.callS (pc' := 39) (z := N_32) d_jdk_42_method_149_36 rfl (w_246 hw) (w_247 hw) (w_248 hw) (w_249 hw) (by decide) (argsL := [(.ref c), (.int (0 : Int32)), (.int z)]) (rest := []) (Pays.of_met (W := 0) (len := 3) (m_cmp hw hs c kc cs z h0 V_c (hz) (hcs) (hcap)) (w_249 hw) (w_248 hw) (by decide) (by decide)) rfl rfl (lenOf pd_22 rfl) rfl (Nat.le_of_eq rfl) mem0 (by decide) (by decide) ?_
  rintro _ h240 _ K241 le242 ⟨b238, q239, rfl, rfl, p243, p244⟩
  have o_a_b238 : a ≠ b238 := Nat.ne_of_lt (Nat.lt_of_lt_of_le E_a.lt p243)
  have o_c_b238 : c ≠ b238 := Nat.ne_of_lt (Nat.lt_of_lt_of_le V_c.lt p243)
  have ge_b238 := Nat.le_trans le242 p243
  replace E_a := E_a.keep K241
  replace F_a_coder := F_a_coder.keep K241 nin0
  replace F_a_value := F_a_value.keep K241 nin0
  replace V_c := V_c.keep K241 nin0
  have V_b238 := p244
  change Go _ _ _ _ _ _ _ _ _ _ _ _ _ _ [a] h240 1 2 39 #[.val (.ref a), .val (.ref c), .val (.int (0 : Int32)), .val (.int z), .val .null, .unset] [(.ref b238)]
  refine Go.astore (pc' := 41) (Ls' := #[.val (.ref a), .val (.ref c), .val (.int (0 : Int32)), .val (.int z), .val .null, .val (.ref b238)]) d_jdk_42_method_149_39 rfl rfl rfl ?_
  refine Go.aload_n (pc' := 42) d_jdk_42_method_149_41 rfl rfl rfl ?_
  refine Go.aload (pc' := 44) d_jdk_42_method_149_42 rfl rfl rfl ?_
  refine Go.iload_n (pc' := 45) d_jdk_42_method_149_44 rfl rfl ?_
  refine Go.callS (pc' := 48) (z := N_33) d_jdk_42_method_149_45 rfl (w_253 hw) (w_254 hw) (w_248 hw) (w_255 hw) (by decide) (argsL := [(.ref b238), (.int z)]) (rest := [(.ref a)]) (Pays.of_met (W := 1) (len := 3) (m_cfl hw hs b238 q239 z (cs.map lowV) h240 V_b238) (w_255 hw) (w_248 hw) (by decide) (by decide)) rfl rfl (lenOf pd_23 rfl) rfl (Nat.le_of_eq rfl) mem0 (by decide) (by decide) ?_
  rintro _ _ _ - - ⟨rfl, rfl, rfl⟩
  change Go _ _ _ _ _ _ _ _ _ _ _ _ _ _ [a] h240 1 2 48 #[.val (.ref a), .val (.ref c), .val (.int (0 : Int32)), .val (.int z), .val .null, .val (.ref b238)] [(.int (0 : Int32)), (.ref a)]
  refine Go.putFN (pc' := 51) (v' := (.int (0 : Int32))) d_jdk_42_method_149_48 rfl (List.mem_of_getElem? (i := 0) rfl) (w_26 hw) Via.refl F_a_coder E_a (Or.inr ⟨(w_22 hw), rfl, rfl⟩) (w_6 hw) (ty := .byte) (by decide) rfl rfl ?_
  intro h245 W246
  replace F_a_coder := F_a_coder.same W246
  replace E_a := E_a.wr W246
  replace F_a_value := F_a_value.other W246 (Or.inr (slot_ne (Or.inr (w_21 hw)) (Or.inr (w_22 hw)) (by decide) (t := (.array .byte)) (t' := .byte) (by decide) (by decide)))
  replace V_c := V_c.other W246 ne_c_a
  replace V_b238 := V_b238.other W246 (Ne.symm o_a_b238)
  change Go _ _ _ _ _ _ _ _ _ _ _ _ _ _ [a] h245 1 2 51 #[.val (.ref a), .val (.ref c), .val (.int (0 : Int32)), .val (.int z), .val .null, .val (.ref b238)] []
  refine Go.aload_n (pc' := 52) d_jdk_42_method_149_51 rfl rfl rfl ?_
  refine Go.aload (pc' := 54) d_jdk_42_method_149_52 rfl rfl rfl ?_
  refine Go.putF (pc' := 57) d_jdk_42_method_149_54 rfl (List.mem_of_getElem? (i := 0) rfl) (host := "") (Or.inl (w_25 hw)) Via.refl F_a_value E_a (Or.inr ⟨(w_21 hw), rfl, rfl⟩) (w_6 hw) (ty := (.array .byte)) (by decide) rfl rfl ?_
  intro h247 W248
  replace F_a_value := F_a_value.same W248
  replace E_a := E_a.wr W248
  replace V_c := V_c.other W248 ne_c_a
  replace V_b238 := V_b238.other W248 (Ne.symm o_a_b238)
  replace F_a_coder := F_a_coder.other W248 (Or.inr (slot_ne (Or.inr (w_22 hw)) (Or.inr (w_21 hw)) (by decide) (t := .byte) (t' := (.array .byte)) (by decide) (by decide)))
  change Go _ _ _ _ _ _ _ _ _ _ _ _ _ _ [a] h247 1 2 57 #[.val (.ref a), .val (.ref c), .val (.int (0 : Int32)), .val (.int z), .val .null, .val (.ref b238)] []
  exact Go.retV d_jdk_42_method_149_57 rfl (by decide) (by decide) [] sn0 ⟨b238, q239, rfl, rfl, E_a, F_a_coder, F_a_value, V_b238, ge_b238⟩
abbrev R_m_str : Room := { frames := 3, cells := 1, slots := 2, locals := 52 }
theorem pn_m_str : plainFor (⟨"java/lang/String", "<init>", "([C)V"⟩ : MethodName) = true := by first | (refine plainFor_of_name ?_; simp [plainName, overriddenIn]; done) | decide +kernel
abbrev Q_m_str (Z : State) (a : Addr) (c : Addr) (kc : ClassId) (cs : List Int32) (z : Int32) (h0 : Heap) : Option Value → Heap → List Addr → Prop := fun res h' SN => ∃ (t : Addr) (kt : ClassId), res = none ∧ SN = [] ∧ Exa Z h' a "java/lang/String" ∧ Fld Z h' a "java/lang/String" "coder" "B" (.int (0 : Int32)) ∧ Fld Z h' a "java/lang/String" "value" "[B" (.ref t) ∧ Arv Z h' t kt .byte z (cs.map lowV) (.int (0 : Int32)) ∧ h0.size ≤ t
theorem ef_m_str (mid : MethodId) (a : Addr) (c : Addr) (kc : ClassId) (cs : List Int32) (z : Int32) : entryFrame mid #[(.ref a), (.ref c)] 2 = mkF mid 0 #[.val (.ref a), .val (.ref c)] [] := by first | (simp [entryFrame, mkF, argsToLocals, Value.category]; done) | rfl
set_option maxRecDepth 65536 in
set_option maxHeartbeats 40000000 in
theorem m_str {l : Launch} {Z : State} {a0 : Array Value} {n0 : Nat} (hw : ∀ d ∈ tables_1, d.before a0 Z = true) (hs : Stat Z) (a : Addr) (c : Addr) (kc : ClassId) (cs : List Int32) (z : Int32) (h0 : Heap) (E_a : Exa Z h0 a "java/lang/String") (F_a_coder : Fld Z h0 a "java/lang/String" "coder" "B" (.int (0 : Int32))) (F_a_value : Fld Z h0 a "java/lang/String" "value" "[B" .null) (V_c : Arv Z h0 c kc .char z (cs.map Value.int) (.int (0 : Int32))) (hz : z.toNatClampNeg = cs.length) (hcs : ∀ x ∈ cs, ¬ x < 0 ∧ ¬ 255 < x) (hcs0 : cs ≠ []) (hcap : z.toNatClampNeg ≤ CAP) (ne_c_a : c ≠ a) :
    Met l Z EL0 n0 NR0 KN0 N_35 jdk_42_method_3_code 2 (Option.none : Option Jvm.ClassFile.FieldType) R_m_str [a] #[(.ref a), (.ref c)] h0 (Q_m_str Z a c kc cs z h0) := by
  refine Met.of_go pn_m_str (fun mid => ef_m_str mid a c kc cs z ) ?_
  intro hO hWS
  refine Go.aload_n (pc' := 1) d_jdk_42_method_3_0 rfl rfl rfl ?_
  refine Go.aload_n (pc' := 2) d_jdk_42_method_3_1 rfl rfl rfl ?_
  refine Go.iconst (pc' := 3) d_jdk_42_method_3_2 rfl ic_0 ?_
  refine Go.aload_n (pc' := 4) d_jdk_42_method_3_3 rfl rfl rfl ?_
  refine Go.lenV (pc' := 5) d_jdk_42_method_3_4 rfl V_c ?_
  refine Go.aconst_null (pc' := 6) d_jdk_42_method_3_5 rfl ?_
  refine Go.callI (pc' := 9) (z := N_34) (a := a) d_jdk_42_method_3_6 rfl rfl (w_12 hw) (w_13 hw) (w_15 hw) (by decide) (argsL := [(.ref c), (.int (0 : Int32)), (.int z), .null]) (rest := []) (Pays.of_met (W := 0) (len := 3) (m_str4 hw hs a c kc cs z h0 E_a F_a_coder F_a_value V_c (hz) (hcs) (hcs0) (hcap) ne_c_a) (w_15 hw) (w_7 hw) (by decide) (by decide)) rfl rfl (lenOf pd_24 rfl) rfl (Nat.le_of_eq rfl) (memS (List.mem_of_getElem? (i := 0) rfl) mem0) (by decide) (by decide) ?_
  rintro _ h251 _ K252 le253 ⟨b249, q250, rfl, rfl, p254, p255, p256, p257, p258⟩
  have o_a_b249 : a ≠ b249 := Nat.ne_of_lt (Nat.lt_of_lt_of_le E_a.lt p258)
  have o_c_b249 : c ≠ b249 := Nat.ne_of_lt (Nat.lt_of_lt_of_le V_c.lt p258)
  have ge_b249 := Nat.le_trans le253 p258
  replace E_a := E_a.keep K252
  replace V_c := V_c.keep K252 (ninS ne_c_a nin0)
  have F_a_coder := p255
  have F_a_value := p256
  have V_b249 := p257
  change Go _ _ _ _ _ _ _ _ _ _ _ _ _ _ [a] h251 1 2 9 #[.val (.ref a), .val (.ref c)] []
  exact Go.retV d_jdk_42_method_3_9 rfl (by decide) (by decide) [] sn0 ⟨b249, q250, rfl, rfl, E_a, F_a_coder, F_a_value, V_b249, ge_b249⟩
abbrev R_m_str4e : Room := { frames := 1, cells := 4, slots := 8, locals := 12 }
theorem pn_m_str4e : plainFor (⟨"java/lang/String", "<init>", "([CIILjava/lang/Void;)V"⟩ : MethodName) = true := by first | (refine plainFor_of_name ?_; simp [plainName, overriddenIn]; done) | decide +kernel
abbrev Q_m_str4e (Z : State) (a : Addr) (c : Addr) (h0 : Heap) : Option Value → Heap → List Addr → Prop := fun res h' SN => ∃ (t : Addr) (kt : ClassId), res = none ∧ SN = [] ∧ Exa Z h' a "java/lang/String" ∧ Fld Z h' a "java/lang/String" "coder" "B" (.int (0 : Int32)) ∧ Fld Z h' a "java/lang/String" "value" "[B" (.ref t) ∧ Arv Z h' t kt .byte (0 : Int32) [] (.int (0 : Int32))
theorem ef_m_str4e (mid : MethodId) (a : Addr) (c : Addr) : entryFrame mid #[(.ref a), (.ref c), (.int (0 : Int32)), (.int (0 : Int32)), .null] 6 = mkF mid 0 #[.val (.ref a), .val (.ref c), .val (.int (0 : Int32)), .val (.int (0 : Int32)), .val .null, .unset] [] := by first | (simp [entryFrame, mkF, argsToLocals, Value.category]; done) | rfl
set_option maxRecDepth 65536 in
set_option maxHeartbeats 40000000 in
theorem m_str4e {l : Launch} {Z : State} {a0 : Array Value} {n0 : Nat} (hw : ∀ d ∈ tables_1, d.before a0 Z = true) (hs : Stat Z) (a : Addr) (c : Addr) (h0 : Heap) (E_a : Exa Z h0 a "java/lang/String") (F_a_coder : Fld Z h0 a "java/lang/String" "coder" "B" (.int (0 : Int32))) (F_a_value : Fld Z h0 a "java/lang/String" "value" "[B" .null) :
    Met l Z EL0 n0 NR0 KN0 N_34 jdk_42_method_149_code 6 (Option.none : Option Jvm.ClassFile.FieldType) R_m_str4e [a] #[(.ref a), (.ref c), (.int (0 : Int32)), (.int (0 : Int32)), .null] h0 (Q_m_str4e Z a c h0) := by
  refine Met.of_go pn_m_str4e (fun mid => ef_m_str4e mid a c ) ?_
  intro hO hWS
  refine Go.aload_n (pc' := 1) d_jdk_42_method_149_0 rfl rfl rfl ?_
  refine Go.initO (pc' := 4) (W := 0) d_jdk_42_method_149_1 rfl (w_16 hw) (w_17 hw) (w_18 hw) rfl (by decide) (Nat.le_of_eq rfl) (by decide) ?_
  refine Go.iload_n (pc' := 5) d_jdk_42_method_149_4 rfl rfl ?_
  refine Go.ifN (pc' := 8) d_jdk_42_method_149_5 rfl ((if0 _ _).trans (teq (rfl : (0 : Int32) = (0 : Int32))).2) ?_
  refine Go.aload_n (pc' := 9) d_jdk_42_method_149_8 rfl rfl rfl ?_
  refine Go.ldcS (pc' := 11) (nn := 0) (z := 0) (vs := []) rfl d_jdk_42_method_149_9 rfl (w_19 hw) (sA hw) (by decide) lit_2 (by decide) (by decide) (by decide) (by decide) (by decide) (by decide) ?_
  intro h259 s260 t261 q262 x263 E_s260 F_s260_coder F_s260_value V_t261 ne264
  replace E_a := E_a.ext x263
  replace F_a_coder := F_a_coder.ext x263
  replace F_a_value := F_a_value.ext x263
  have o_a_s260 := (ne264 a (List.mem_of_getElem? (i := 0) rfl)).1
  have o_a_t261 := (ne264 a (List.mem_of_getElem? (i := 0) rfl)).2
  change Go _ _ _ _ _ _ _ _ _ _ _ _ _ _ [a] h259 2 4 11 #[.val (.ref a), .val (.ref c), .val (.int (0 : Int32)), .val (.int (0 : Int32)), .val .null, .unset] [(.ref s260), (.ref a)]
  refine Go.getF (pc' := 14) d_jdk_42_method_149_11 rfl (host := "") (Or.inl (w_25 hw)) Via.refl F_s260_value ?_
  refine Go.putF (pc' := 17) d_jdk_42_method_149_14 rfl (List.mem_of_getElem? (i := 0) rfl) (host := "") (Or.inl (w_25 hw)) Via.refl F_a_value E_a (Or.inr ⟨(w_21 hw), rfl, rfl⟩) (w_6 hw) (ty := (.array .byte)) (by decide) rfl rfl ?_
  intro h265 W266
  replace F_a_value := F_a_value.same W266
  replace E_a := E_a.wr W266
  replace F_a_coder := F_a_coder.other W266 (Or.inr (slot_ne (Or.inr (w_22 hw)) (Or.inr (w_21 hw)) (by decide) (t := .byte) (t' := (.array .byte)) (by decide) (by decide)))
  replace E_s260 := E_s260.wr W266
  replace F_s260_coder := F_s260_coder.other W266 (Or.inl (Ne.symm o_a_s260))
  replace F_s260_value := F_s260_value.other W266 (Or.inl (Ne.symm o_a_s260))
  replace V_t261 := V_t261.other W266 (Ne.symm o_a_t261)
  change Go _ _ _ _ _ _ _ _ _ _ _ _ _ _ [a] h265 2 4 17 #[.val (.ref a), .val (.ref c), .val (.int (0 : Int32)), .val (.int (0 : Int32)), .val .null, .unset] []
  refine Go.aload_n (pc' := 18) d_jdk_42_method_149_17 rfl rfl rfl ?_
  refine Go.ldcS (pc' := 20) (nn := 0) (z := 0) (vs := []) rfl d_jdk_42_method_149_18 rfl (w_19 hw) (sA hw) (by decide) lit_2 (by decide) (by decide) (by decide) (by decide) (by decide) (by decide) ?_
  intro h267 s268 t269 q270 x271 E_s268 F_s268_coder F_s268_value V_t269 ne272
  replace E_a := E_a.ext x271
  replace F_a_coder := F_a_coder.ext x271
  replace E_s260 := E_s260.ext x271
  replace F_s260_coder := F_s260_coder.ext x271
  replace F_s260_value := F_s260_value.ext x271
  replace V_t261 := V_t261.ext x271
  replace F_a_value := F_a_value.ext x271
  have o_a_s268 := (ne272 a (List.mem_of_getElem? (i := 0) rfl)).1
  have o_a_t269 := (ne272 a (List.mem_of_getElem? (i := 0) rfl)).2
  change Go _ _ _ _ _ _ _ _ _ _ _ _ _ _ [a] h267 4 8 20 #[.val (.ref a), .val (.ref c), .val (.int (0 : Int32)), .val (.int (0 : Int32)), .val .null, .unset] [(.ref s268), (.ref a)]
  refine Go.getF (pc' := 23) d_jdk_42_method_149_20 rfl (host := "") (Or.inl (w_26 hw)) Via.refl F_s268_coder ?_
  refine Go.putFN (pc' := 26) (v' := (.int (0 : Int32))) d_jdk_42_method_149_23 rfl (List.mem_of_getElem? (i := 0) rfl) (w_26 hw) Via.refl F_a_coder E_a (Or.inr ⟨(w_22 hw), rfl, rfl⟩) (w_6 hw) (ty := .byte) (by decide) rfl rfl ?_
  intro h273 W274
  replace F_a_coder := F_a_coder.same W274
  replace E_a := E_a.wr W274
  replace E_s260 := E_s260.wr W274
  replace F_s260_coder := F_s260_coder.other W274 (Or.inl (Ne.symm o_a_s260))
  replace F_s260_value := F_s260_value.other W274 (Or.inl (Ne.symm o_a_s260))
  replace V_t261 := V_t261.other W274 (Ne.symm o_a_t261)
  replace F_a_value := F_a_value.other W274 (Or.inr (slot_ne (Or.inr (w_21 hw)) (Or.inr (w_22 hw)) (by decide) (t := (.array .byte)) (t' := .byte) (by decide) (by decide)))
  replace E_s268 := E_s268.wr W274
  replace F_s268_coder := F_s268_coder.other W274 (Or.inl (Ne.symm o_a_s268))
  replace F_s268_value := F_s268_value.other W274 (Or.inl (Ne.symm o_a_s268))
  replace V_t269 := V_t269.other W274 (Ne.symm o_a_t269)
  change Go _ _ _ _ _ _ _ _ _ _ _ _ _ _ [a] h273 4 8 26 #[.val (.ref a), .val (.ref c), .val (.int (0 : Int32)), .val (.int (0 : Int32)), .val .null, .unset] []
  exact Go.retV d_jdk_42_method_149_26 rfl (by decide) (by decide) [] sn0 ⟨t261, q262, rfl, rfl, E_a, F_a_coder, F_a_value, V_t261⟩
abbrev R_m_stre : Room := { frames := 2, cells := 4, slots := 8, locals := 29 }
theorem pn_m_stre : plainFor (⟨"java/lang/String", "<init>", "([C)V"⟩ : MethodName) = true := by first | (refine plainFor_of_name ?_; simp [plainName, overriddenIn]; done) | decide +kernel
abbrev Q_m_stre (Z : State) (a : Addr) (c : Addr) (kc : ClassId) (vs : List Value) (h0 : Heap) : Option Value → Heap → List Addr → Prop := fun res h' SN => ∃ (t : Addr) (kt : ClassId), res = none ∧ SN = [] ∧ Exa Z h' a "java/lang/String" ∧ Fld Z h' a "java/lang/String" "coder" "B" (.int (0 : Int32)) ∧ Fld Z h' a "java/lang/String" "value" "[B" (.ref t) ∧ Arv Z h' t kt .byte (0 : Int32) [] (.int (0 : Int32))
theorem ef_m_stre (mid : MethodId) (a : Addr) (c : Addr) (kc : ClassId) (vs : List Value) : entryFrame mid #[(.ref a), (.ref c)] 2 = mkF mid 0 #[.val (.ref a), .val (.ref c)] [] := by first | (simp [entryFrame, mkF, argsToLocals, Value.category]; done) | rfl
set_option maxRecDepth 65536 in
set_option maxHeartbeats 40000000 in
theorem m_stre {l : Launch} {Z : State} {a0 : Array Value} {n0 : Nat} (hw : ∀ d ∈ tables_1, d.before a0 Z = true) (hs : Stat Z) (a : Addr) (c : Addr) (kc : ClassId) (vs : List Value) (h0 : Heap) (E_a : Exa Z h0 a "java/lang/String") (F_a_coder : Fld Z h0 a "java/lang/String" "coder" "B" (.int (0 : Int32))) (F_a_value : Fld Z h0 a "java/lang/String" "value" "[B" .null) (V_c : Arv Z h0 c kc .char (0 : Int32) vs (.int (0 : Int32))) (ne_c_a : c ≠ a) :
    Met l Z EL0 n0 NR0 KN0 N_35 jdk_42_method_3_code 2 (Option.none : Option Jvm.ClassFile.FieldType) R_m_stre [a] #[(.ref a), (.ref c)] h0 (Q_m_stre Z a c kc vs h0) := by
  refine Met.of_go pn_m_stre (fun mid => ef_m_stre mid a c kc vs ) ?_
  intro hO hWS
  refine Go.aload_n (pc' := 1) d_jdk_42_method_3_0 rfl rfl rfl ?_
  refine Go.aload_n (pc' := 2) d_jdk_42_method_3_1 rfl rfl rfl ?_
  refine Go.iconst (pc' := 3) d_jdk_42_method_3_2 rfl ic_0 ?_
  refine Go.aload_n (pc' := 4) d_jdk_42_method_3_3 rfl rfl rfl ?_
  refine Go.lenV (pc' := 5) d_jdk_42_method_3_4 rfl V_c ?_
  refine Go.aconst_null (pc' := 6) d_jdk_42_method_3_5 rfl ?_
  refine Go.callI (pc' := 9) (z := N_34) (a := a) d_jdk_42_method_3_6 rfl rfl (w_12 hw) (w_13 hw) (w_15 hw) (by decide) (argsL := [(.ref c), (.int (0 : Int32)), (.int (0 : Int32)), .null]) (rest := []) (Pays.of_met (W := 0) (len := 3) (m_str4e hw hs a c h0 E_a F_a_coder F_a_value) (w_15 hw) (w_7 hw) (by decide) (by decide)) rfl rfl (lenOf pd_24 rfl) rfl (Nat.le_of_eq rfl) (memS (List.mem_of_getElem? (i := 0) rfl) mem0) (by decide) (by decide) ?_
  rintro _ h277 _ K278 le279 ⟨b275, q276, rfl, rfl, p280, p281, p282, p283⟩
  replace E_a := E_a.keep K278
  replace V_c := V_c.keep K278 (ninS ne_c_a nin0)
  have F_a_coder := p281
  have F_a_value := p282
  have V_b275 := p283
  change Go _ _ _ _ _ _ _ _ _ _ _ _ _ _ [a] h277 4 8 9 #[.val (.ref a), .val (.ref c)] []
  exact Go.retV d_jdk_42_method_3_9 rfl (by decide) (by decide) [] sn0 ⟨b275, q276, rfl, rfl, E_a, F_a_coder, F_a_value, V_b275⟩
abbrev R_m_isL : Room := { frames := 0, cells := 0, slots := 0, locals := 0 }
theorem pn_m_isL : plainFor (⟨"java/lang/String", "isLatin1", "()Z"⟩ : MethodName) = true := by first | (refine plainFor_of_name ?_; simp [plainName, overriddenIn]; done) | decide +kernel
abbrev Q_m_isL (Z : State) (a : Addr) (h0 : Heap) : Option Value → Heap → List Addr → Prop := fun res h' SN => res = some (.int (1 : Int32)) ∧ SN = [] ∧ h0 = h'
theorem ef_m_isL (mid : MethodId) (a : Addr) : entryFrame mid #[(.ref a)] 1 = mkF mid 0 #[.val (.ref a)] [] := by first | (simp [entryFrame, mkF, argsToLocals, Value.category]; done) | rfl
set_option maxRecDepth 65536 in
set_option maxHeartbeats 40000000 in
theorem m_isL {l : Launch} {Z : State} {a0 : Array Value} {n0 : Nat} (hw : ∀ d ∈ tables_1, d.before a0 Z = true) (hs : Stat Z) (a : Addr) (h0 : Heap) (F_a_coder : Fld Z h0 a "java/lang/String" "coder" "B" (.int (0 : Int32))) :
    Met l Z EL0 n0 NR0 KN0 N_36 jdk_42_method_154_code 1 (Option.some Jvm.ClassFile.FieldType.boolean) R_m_isL [] #[(.ref a)] h0 (Q_m_isL Z a h0) := by
  refine Met.of_go pn_m_isL (fun mid => ef_m_isL mid a ) ?_
  intro hO hWS
  obtain ⟨zc, S_c, hzc⟩ := hs_c hs
  refine Go.getS (pc' := 3) d_jdk_42_method_154_0 rfl (host := "") (Or.inl (w_72 hw)) Via.refl S_c ?_
  refine Go.ifN (pc' := 6) d_jdk_42_method_154_3 rfl ((if0 _ _).trans (feq (hzc : ¬ (zc = (0 : Int32)))).1) ?_
  refine Go.aload_n (pc' := 7) d_jdk_42_method_154_6 rfl rfl rfl ?_
  refine Go.getF (pc' := 10) d_jdk_42_method_154_7 rfl (host := "") (Or.inl (w_26 hw)) Via.refl F_a_coder ?_
  refine Go.ifN (pc' := 13) d_jdk_42_method_154_10 rfl ((if0 _ _).trans (teq (rfl : (0 : Int32) = (0 : Int32))).2) ?_
  refine Go.iconst (pc' := 14) d_jdk_42_method_154_13 rfl ic_1 ?_
  refine Go.goto (pc' := 18) d_jdk_42_method_154_14 (by decide) (by decide) ?_
  exact Go.retS (ty := .boolean) d_jdk_42_method_154_18 rfl (by simp) rfl (by decide) (by decide) [] sn0 ⟨rfl, rfl, rfl⟩
abbrev R_m_pre : Room := { frames := 0, cells := 0, slots := 0, locals := 0 }
theorem pn_m_pre : plainFor (⟨"jdk/internal/util/Preconditions", "checkIndex", "(IILjava/util/function/BiFunction;)I"⟩ : MethodName) = true := by first | (refine plainFor_of_name ?_; simp [plainName, overriddenIn]; done) | decide +kernel
abbrev Q_m_pre (Z : State) (j : Int32) (z : Int32) (f : Value) (h0 : Heap) : Option Value → Heap → List Addr → Prop := fun res h' SN => res = some (.int j) ∧ SN = [] ∧ h0 = h'
theorem ef_m_pre (mid : MethodId) (j : Int32) (z : Int32) (f : Value) (hv_f : f.isRef = true) : entryFrame mid #[(.int j), (.int z), f] 3 = mkF mid 0 #[.val (.int j), .val (.int z), .val f] [] := by rcases ref_cases hv_f with rfl | ⟨_, rfl⟩ <;> first | (simp [entryFrame, mkF, argsToLocals, Value.category]; done) | rfl
set_option maxRecDepth 65536 in
set_option maxHeartbeats 40000000 in
theorem m_pre {l : Launch} {Z : State} {a0 : Array Value} {n0 : Nat} (hw : ∀ d ∈ tables_1, d.before a0 Z = true) (hs : Stat Z) (j : Int32) (z : Int32) (f : Value) (h0 : Heap) (hv_f : f.isRef = true) (hj : ¬ j < 0 ∧ j < z) :
    Met l Z EL0 n0 NR0 KN0 N_37 jdk_41_method_11_code 3 (Option.some Jvm.ClassFile.FieldType.int) R_m_pre [] #[(.int j), (.int z), f] h0 (Q_m_pre Z j z f h0) := by
  refine Met.of_go pn_m_pre (fun mid => ef_m_pre mid j z f hv_f) ?_
  intro hO hWS
  refine Go.iload_n (pc' := 1) d_jdk_41_method_11_0 rfl rfl ?_
  refine Go.ifN (pc' := 4) d_jdk_41_method_11_1 rfl ((if0 _ _).trans (flt (hj.1 : ¬ (j < (0 : Int32)))).1) ?_
  refine Go.iload_n (pc' := 5) d_jdk_41_method_11_4 rfl rfl ?_
  refine Go.iload_n (pc' := 6) d_jdk_41_method_11_5 rfl rfl ?_
  refine Go.icmpY (pc' := 16) d_jdk_41_method_11_6 (by decide) (by decide) (tlt (hj.2 : j < z)).1 ?_
  refine Go.iload_n (pc' := 17) d_jdk_41_method_11_16 rfl rfl ?_
  exact Go.retI d_jdk_41_method_11_17 rfl (by decide) (by decide) [] sn0 ⟨rfl, rfl, rfl⟩
abbrev R_m_chk : Room := { frames := 1, cells := 0, slots := 0, locals := 14 }
theorem pn_m_chk : plainFor (⟨"java/lang/String", "checkIndex", "(II)V"⟩ : MethodName) = true := by first | (refine plainFor_of_name ?_; simp [plainName, overriddenIn]; done) | decide +kernel
abbrev Q_m_chk (Z : State) (j : Int32) (z : Int32) (h0 : Heap) : Option Value → Heap → List Addr → Prop := fun res h' SN => res = none ∧ SN = [] ∧ h0 = h'
theorem ef_m_chk (mid : MethodId) (j : Int32) (z : Int32) : entryFrame mid #[(.int j), (.int z)] 2 = mkF mid 0 #[.val (.int j), .val (.int z)] [] := by first | (simp [entryFrame, mkF, argsToLocals, Value.category]; done) | rfl
set_option maxRecDepth 65536 in
set_option maxHeartbeats 40000000 in
theorem m_chk {l : Launch} {Z : State} {a0 : Array Value} {n0 : Nat} (hw : ∀ d ∈ tables_1, d.before a0 Z = true) (hs : Stat Z) (j : Int32) (z : Int32) (h0 : Heap) (hj : ¬ j < 0 ∧ j < z) :
    Met l Z EL0 n0 NR0 KN0 N_38 jdk_42_method_155_code 2 (Option.none : Option Jvm.ClassFile.FieldType) R_m_chk [] #[(.int j), (.int z)] h0 (Q_m_chk Z j z h0) := by
  refine Met.of_go pn_m_chk (fun mid => ef_m_chk mid j z ) ?_
  intro hO hWS
  obtain ⟨fm, S_f, hv_fm⟩ := hs_f hs
  refine Go.iload_n (pc' := 1) d_jdk_42_method_155_0 rfl rfl ?_
  refine Go.iload_n (pc' := 2) d_jdk_42_method_155_1 rfl rfl ?_
  refine Go.getS (pc' := 5) d_jdk_42_method_155_2 rfl (host := "") (Or.inl (w_241 hw)) Via.refl S_f ?_
  refine Go.callS (pc' := 8) (z := N_37) d_jdk_42_method_155_5 rfl (w_243 hw) (w_244 hw) (w_242 hw) (w_245 hw) (by decide) (argsL := [(.int j), (.int z), fm]) (rest := []) (Pays.of_met (W := 0) (len := 3) (m_pre hw hs j z fm h0 hv_fm (hj)) (w_245 hw) (w_242 hw) (by decide) (by decide)) rfl rfl (lenOf pd_25 rfl) rfl (Nat.le_of_eq rfl) mem0 (by decide) (by decide) ?_
  rintro _ _ _ - - ⟨rfl, rfl, rfl⟩
  change Go _ _ _ _ _ _ _ _ _ _ _ _ _ _ [] h0 0 0 8 #[.val (.int j), .val (.int z)] [(.int j)]
  refine Go.pop (pc' := 9) d_jdk_42_method_155_8 rfl rfl ?_
  exact Go.retV d_jdk_42_method_155_9 rfl (by decide) (by decide) [] sn0 ⟨rfl, rfl, rfl⟩
abbrev R_m_l1c : Room := { frames := 2, cells := 0, slots := 0, locals := 27 }
theorem pn_m_l1c : plainFor (⟨"java/lang/StringLatin1", "charAt", "([BI)C"⟩ : MethodName) = true := by first | (refine plainFor_of_name ?_; simp [plainName, overriddenIn]; done) | decide +kernel
abbrev Q_m_l1c (Z : State) (t : Addr) (kt : ClassId) (z : Int32) (vs : List Value) (j : Int32) (u : Int32) (h0 : Heap) : Option Value → Heap → List Addr → Prop := fun res h' SN => res = some (.int (u &&& (255 : Int32)).toUInt32.toUInt16.toUInt32.toInt32) ∧ SN = [] ∧ h0 = h'
theorem ef_m_l1c (mid : MethodId) (t : Addr) (kt : ClassId) (z : Int32) (vs : List Value) (j : Int32) (u : Int32) : entryFrame mid #[(.ref t), (.int j)] 2 = mkF mid 0 #[.val (.ref t), .val (.int j)] [] := by first | (simp [entryFrame, mkF, argsToLocals, Value.category]; done) | rfl
set_option maxRecDepth 65536 in
set_option maxHeartbeats 40000000 in
theorem m_l1c {l : Launch} {Z : State} {a0 : Array Value} {n0 : Nat} (hw : ∀ d ∈ tables_1, d.before a0 Z = true) (hs : Stat Z) (t : Addr) (kt : ClassId) (z : Int32) (vs : List Value) (j : Int32) (u : Int32) (h0 : Heap) (V_t : Arv Z h0 t kt .byte z vs (.int (0 : Int32))) (hj : ¬ j < 0 ∧ j < z) (hu : vs.getD j.toNatClampNeg (.int (0 : Int32)) = .int u) :
    Met l Z EL0 n0 NR0 KN0 N_39 jdk_43_method_2_code 2 (Option.some Jvm.ClassFile.FieldType.char) R_m_l1c [] #[(.ref t), (.int j)] h0 (Q_m_l1c Z t kt z vs j u h0) := by
  refine Met.of_go pn_m_l1c (fun mid => ef_m_l1c mid t kt z vs j u ) ?_
  intro hO hWS
  refine Go.iload_n (pc' := 1) d_jdk_43_method_2_0 rfl rfl ?_
  refine Go.aload_n (pc' := 2) d_jdk_43_method_2_1 rfl rfl rfl ?_
  refine Go.lenV (pc' := 3) d_jdk_43_method_2_2 rfl V_t ?_
  refine Go.callS (pc' := 6) (z := N_38) d_jdk_43_method_2_3 rfl (w_238 hw) (w_239 hw) (w_7 hw) (w_240 hw) (by decide) (argsL := [(.int j), (.int z)]) (rest := []) (Pays.of_met (W := 0) (len := 3) (m_chk hw hs j z h0 (hj)) (w_240 hw) (w_7 hw) (by decide) (by decide)) rfl rfl (lenOf pd_11 rfl) rfl (Nat.le_of_eq rfl) mem0 (by decide) (by decide) ?_
  rintro _ _ _ - - ⟨rfl, rfl, rfl⟩
  change Go _ _ _ _ _ _ _ _ _ _ _ _ _ _ [] h0 0 0 6 #[.val (.ref t), .val (.int j)] []
  refine Go.aload_n (pc' := 7) d_jdk_43_method_2_6 rfl rfl rfl ?_
  refine Go.iload_n (pc' := 8) d_jdk_43_method_2_7 rfl rfl ?_
  refine Go.baloadV (pc' := 9) (v := (.int u)) d_jdk_43_method_2_8 rfl V_t hj hu ?_
  refine Go.sipush (pc' := 12) d_jdk_43_method_2_9 rfl ics_255 ?_
  refine Go.iand (pc' := 13) d_jdk_43_method_2_12 rfl ?_
  refine Go.i2c (pc' := 14) d_jdk_43_method_2_13 rfl ?_
  exact Go.retS (ty := .char) d_jdk_43_method_2_14 rfl (by simp) (own_narc u) (by decide) (by decide) [] sn0 ⟨rfl, rfl, rfl⟩
abbrev R_m_charAt : Room := { frames := 3, cells := 0, slots := 0, locals := 40 }
theorem pn_m_charAt : plainFor (⟨"java/lang/String", "charAt", "(I)C"⟩ : MethodName) = true := by first | (refine plainFor_of_name ?_; simp [plainName, overriddenIn]; done) | decide +kernel
abbrev Q_m_charAt (Z : State) (a : Addr) (t : Addr) (kt : ClassId) (z : Int32) (vs : List Value) (j : Int32) (u : Int32) (h0 : Heap) : Option Value → Heap → List Addr → Prop := fun res h' SN => res = some (.int (u &&& (255 : Int32)).toUInt32.toUInt16.toUInt32.toInt32) ∧ SN = [] ∧ h0 = h'
theorem ef_m_charAt (mid : MethodId) (a : Addr) (t : Addr) (kt : ClassId) (z : Int32) (vs : List Value) (j : Int32) (u : Int32) : entryFrame mid #[(.ref a), (.int j)] 2 = mkF mid 0 #[.val (.ref a), .val (.int j)] [] := by first | (simp [entryFrame, mkF, argsToLocals, Value.category]; done) | rfl
set_option maxRecDepth 65536 in
set_option maxHeartbeats 40000000 in
theorem m_charAt {l : Launch} {Z : State} {a0 : Array Value} {n0 : Nat} (hw : ∀ d ∈ tables_1, d.before a0 Z = true) (hs : Stat Z) (a : Addr) (t : Addr) (kt : ClassId) (z : Int32) (vs : List Value) (j : Int32) (u : Int32) (h0 : Heap) (E_a : Exa Z h0 a "java/lang/String") (F_a_coder : Fld Z h0 a "java/lang/String" "coder" "B" (.int (0 : Int32))) (F_a_value : Fld Z h0 a "java/lang/String" "value" "[B" (.ref t)) (V_t : Arv Z h0 t kt .byte z vs (.int (0 : Int32))) (hj : ¬ j < 0 ∧ j < z) (hu : vs.getD j.toNatClampNeg (.int (0 : Int32)) = .int u) :
    Met l Z EL0 n0 NR0 KN0 N_40 jdk_42_method_56_code 2 (Option.some Jvm.ClassFile.FieldType.char) R_m_charAt [] #[(.ref a), (.int j)] h0 (Q_m_charAt Z a t kt z vs j u h0) := by
  refine Met.of_go pn_m_charAt (fun mid => ef_m_charAt mid a t kt z vs j u ) ?_
  intro hO hWS
  refine Go.aload_n (pc' := 1) d_jdk_42_method_56_0 rfl rfl rfl ?_
  refine Go.callV (pc' := 4) (u := N_36) (z := N_36) (a := a) d_jdk_42_method_56_1 rfl (w_229 hw) (w_230 hw) (nf (w_232 hw) rfl) (w_232 hw) (w_231 hw) (by decide) E_a (argsL := []) (rest := []) (Pays.of_met (W := 0) (len := 3) (m_isL hw hs a h0 F_a_coder) (w_233 hw) (w_7 hw) (by decide) (by decide)) rfl rfl (lenOf pd_14 rfl) rfl (Nat.le_of_eq rfl) mem0 (by decide) (by decide) ?_
  rintro _ _ _ - - ⟨rfl, rfl, rfl⟩
  change Go _ _ _ _ _ _ _ _ _ _ _ _ _ _ [] h0 0 0 4 #[.val (.ref a), .val (.int j)] [(.int (1 : Int32))]
  refine Go.ifN (pc' := 7) d_jdk_42_method_56_4 rfl ((if0 _ _).trans (feq (by decide : ¬ ((1 : Int32) = (0 : Int32)))).1) ?_
  refine Go.aload_n (pc' := 8) d_jdk_42_method_56_7 rfl rfl rfl ?_
  refine Go.getF (pc' := 11) d_jdk_42_method_56_8 rfl (host := "") (Or.inl (w_25 hw)) Via.refl F_a_value ?_
  refine Go.iload_n (pc' := 12) d_jdk_42_method_56_11 rfl rfl ?_
  refine Go.callS (pc' := 15) (z := N_39) d_jdk_42_method_56_12 rfl (w_234 hw) (w_235 hw) (w_236 hw) (w_237 hw) (by decide) (argsL := [(.ref t), (.int j)]) (rest := []) (Pays.of_met (W := 0) (len := 3) (m_l1c hw hs t kt z vs j u h0 V_t (hj) (hu)) (w_237 hw) (w_236 hw) (by decide) (by decide)) rfl rfl (lenOf pd_26 rfl) rfl (Nat.le_of_eq rfl) mem0 (by decide) (by decide) ?_
  rintro _ _ _ - - ⟨rfl, rfl, rfl⟩
  change Go _ _ _ _ _ _ _ _ _ _ _ _ _ _ [] h0 0 0 15 #[.val (.ref a), .val (.int j)] [(.int (u &&& (255 : Int32)).toUInt32.toUInt16.toUInt32.toInt32)]
  exact Go.retS (ty := .char) d_jdk_42_method_56_15 rfl (by simp) (own_narc u) (by decide) (by decide) [] sn0 ⟨rfl, rfl, rfl⟩
abbrev R_m_ce : Room := { frames := 0, cells := 0, slots := 0, locals := 0 }
theorem pn_m_ce : plainFor (⟨"java/lang/StringLatin1", "canEncode", "(C)Z"⟩ : MethodName) = true := by first | (refine plainFor_of_name ?_; simp [plainName, overriddenIn]; done) | decide +kernel
abbrev Q_m_ce (Z : State) (x : Int32) (h0 : Heap) : Option Value → Heap → List Addr → Prop := fun res h' SN => res = some (.int (1 : Int32)) ∧ SN = [] ∧ h0 = h'
theorem ef_m_ce (mid : MethodId) (x : Int32) : entryFrame mid #[(.int x)] 1 = mkF mid 0 #[.val (.int x)] [] := by first | (simp [entryFrame, mkF, argsToLocals, Value.category]; done) | rfl
set_option maxRecDepth 65536 in
set_option maxHeartbeats 40000000 in
theorem m_ce {l : Launch} {Z : State} {a0 : Array Value} {n0 : Nat} (hw : ∀ d ∈ tables_1, d.before a0 Z = true) (hs : Stat Z) (x : Int32) (h0 : Heap) (hx_x : ¬ x < 0 ∧ ¬ 255 < x) :
    Met l Z EL0 n0 NR0 KN0 N_41 jdk_43_method_3_code 1 (Option.some Jvm.ClassFile.FieldType.boolean) R_m_ce [] #[(.int x)] h0 (Q_m_ce Z x h0) := by
  refine Met.of_go pn_m_ce (fun mid => ef_m_ce mid x ) ?_
  intro hO hWS
  refine Go.iload_n (pc' := 1) d_jdk_43_method_3_0 rfl rfl ?_
  refine Go.sipush (pc' := 4) d_jdk_43_method_3_1 rfl ics_255 ?_
  refine Go.icmpN (pc' := 7) d_jdk_43_method_3_4 rfl (flt (hx_x.2 : ¬ ((255 : Int32) < x))).2.2.1 ?_
  refine Go.iconst (pc' := 8) d_jdk_43_method_3_7 rfl ic_1 ?_
  refine Go.goto (pc' := 12) d_jdk_43_method_3_8 (by decide) (by decide) ?_
  exact Go.retS (ty := .boolean) d_jdk_43_method_3_12 rfl (by simp) rfl (by decide) (by decide) [] sn0 ⟨rfl, rfl, rfl⟩
abbrev R_m_tb : Room := { frames := 0, cells := 1, slots := 1, locals := 0 }
theorem pn_m_tb : plainFor (⟨"java/lang/StringLatin1", "toBytes", "(C)[B"⟩ : MethodName) = true := by first | (refine plainFor_of_name ?_; simp [plainName, overriddenIn]; done) | decide +kernel
abbrev Q_m_tb (Z : State) (x : Int32) (h0 : Heap) : Option Value → Heap → List Addr → Prop := fun res h' SN => ∃ (t : Addr) (kt : ClassId), res = some (.ref t) ∧ SN = [] ∧ h0.size ≤ t ∧ Arv Z h' t kt .byte (1 : Int32) ([x.toInt8.toInt32].map Value.int) (.int (0 : Int32))
theorem ef_m_tb (mid : MethodId) (x : Int32) : entryFrame mid #[(.int x)] 1 = mkF mid 0 #[.val (.int x)] [] := by first | (simp [entryFrame, mkF, argsToLocals, Value.category]; done) | rfl
set_option maxRecDepth 65536 in
set_option maxHeartbeats 40000000 in
theorem m_tb {l : Launch} {Z : State} {a0 : Array Value} {n0 : Nat} (hw : ∀ d ∈ tables_1, d.before a0 Z = true) (hs : Stat Z) (x : Int32) (h0 : Heap) :
    Met l Z EL0 n0 NR0 KN0 N_42 jdk_43_method_46_code 1 (Option.some (Jvm.ClassFile.FieldType.array Jvm.ClassFile.FieldType.byte)) R_m_tb [] #[(.int x)] h0 (Q_m_tb Z x h0) := by
  refine Met.of_go pn_m_tb (fun mid => ef_m_tb mid x ) ?_
  intro hO hWS
  refine Go.iconst (pc' := 1) d_jdk_43_method_46_0 rfl ic_1 ?_
  refine Go.newP (pc' := 3) (cap := 1) (ad := "[B") d_jdk_43_method_46_1 rfl (w_20 hw) (by decide) (by decide) (by decide) (by decide) (by decide) (by decide) ?_
  intro h284 b285 g286 ge_b285 q288 x287 V_b285 E_b285
  replace V_b285 : Arv Z h284 b285 q288 .byte (1 : Int32) [(.int (0 : Int32))] (.int (0 : Int32)) := V_b285.pad (pad_rep [] _ 1)
  change Go _ _ _ _ _ _ _ _ _ _ _ _ _ _ [b285] h284 1 1 3 #[.val (.int x)] [(.ref b285)]
  refine Go.dup (pc' := 4) d_jdk_43_method_46_3 rfl rfl ?_
  refine Go.iconst (pc' := 5) d_jdk_43_method_46_4 rfl ic_0 ?_
  refine Go.iload_n (pc' := 6) d_jdk_43_method_46_5 rfl rfl ?_
  refine Go.i2b (pc' := 7) d_jdk_43_method_46_6 rfl ?_
  refine Go.bastoreV (pc' := 8) (i := 0) d_jdk_43_method_46_7 rfl (List.mem_of_getElem? (i := 0) rfl) V_b285 (by decide) (by decide) (by simp) ?_
  rw [nar_byte x]
  intro h289 W290 V_b285'
  replace E_b285 := E_b285.wr W290
  replace V_b285 : Arv Z h289 b285 q288 .byte (1 : Int32) [(.int x.toInt8.toInt32)] (.int (0 : Int32)) := V_b285'
  change Go _ _ _ _ _ _ _ _ _ _ _ _ _ _ [b285] h289 1 1 8 #[.val (.int x)] [(.ref b285)]
  replace V_b285 : Arv Z h289 b285 q288 .byte (1 : Int32) ([x.toInt8.toInt32].map Value.int) (.int (0 : Int32)) := V_b285
  exact Go.retA d_jdk_43_method_46_8 rfl rfl rfl (by decide) (by decide) [] sn0 ⟨b285, _, rfl, rfl, ge_b285, V_b285⟩
abbrev R_m_bb : Room := { frames := 1, cells := 0, slots := 0, locals := 12 }
theorem pn_m_bb : plainFor (⟨"java/lang/String", "<init>", "([BB)V"⟩ : MethodName) = true := by first | (refine plainFor_of_name ?_; simp [plainName, overriddenIn]; done) | decide +kernel
abbrev Q_m_bb (Z : State) (a : Addr) (t : Addr) (h0 : Heap) : Option Value → Heap → List Addr → Prop := fun res h' SN => res = none ∧ SN = [] ∧ Exa Z h' a "java/lang/String" ∧ Fld Z h' a "java/lang/String" "coder" "B" (.int (0 : Int32)) ∧ Fld Z h' a "java/lang/String" "value" "[B" (.ref t)
theorem ef_m_bb (mid : MethodId) (a : Addr) (t : Addr) : entryFrame mid #[(.ref a), (.ref t), (.int (0 : Int32))] 3 = mkF mid 0 #[.val (.ref a), .val (.ref t), .val (.int (0 : Int32))] [] := by first | (simp [entryFrame, mkF, argsToLocals, Value.category]; done) | rfl
set_option maxRecDepth 65536 in
set_option maxHeartbeats 40000000 in
theorem m_bb {l : Launch} {Z : State} {a0 : Array Value} {n0 : Nat} (hw : ∀ d ∈ tables_1, d.before a0 Z = true) (hs : Stat Z) (a : Addr) (t : Addr) (h0 : Heap) (E_a : Exa Z h0 a "java/lang/String") (F_a_coder : Fld Z h0 a "java/lang/String" "coder" "B" (.int (0 : Int32))) (F_a_value : Fld Z h0 a "java/lang/String" "value" "[B" .null) :
    Met l Z EL0 n0 NR0 KN0 N_43 jdk_42_method_151_code 3 (Option.none : Option Jvm.ClassFile.FieldType) R_m_bb [a] #[(.ref a), (.ref t), (.int (0 : Int32))] h0 (Q_m_bb Z a t h0) := by
  refine Met.of_go pn_m_bb (fun mid => ef_m_bb mid a t ) ?_
  intro hO hWS
  refine Go.aload_n (pc' := 1) d_jdk_42_method_151_0 rfl rfl rfl ?_
  refine Go.initO (pc' := 4) (W := 0) d_jdk_42_method_151_1 rfl (w_16 hw) (w_17 hw) (w_18 hw) rfl (by decide) (Nat.le_of_eq rfl) (by decide) ?_
  refine Go.aload_n (pc' := 5) d_jdk_42_method_151_4 rfl rfl rfl ?_
  refine Go.aload_n (pc' := 6) d_jdk_42_method_151_5 rfl rfl rfl ?_
  refine Go.putF (pc' := 9) d_jdk_42_method_151_6 rfl (List.mem_of_getElem? (i := 0) rfl) (host := "") (Or.inl (w_25 hw)) Via.refl F_a_value E_a (Or.inr ⟨(w_21 hw), rfl, rfl⟩) (w_6 hw) (ty := (.array .byte)) (by decide) rfl rfl ?_
  intro h291 W292
  replace F_a_value := F_a_value.same W292
  replace E_a := E_a.wr W292
  replace F_a_coder := F_a_coder.other W292 (Or.inr (slot_ne (Or.inr (w_22 hw)) (Or.inr (w_21 hw)) (by decide) (t := .byte) (t' := (.array .byte)) (by decide) (by decide)))
  change Go _ _ _ _ _ _ _ _ _ _ _ _ _ _ [a] h291 0 0 9 #[.val (.ref a), .val (.ref t), .val (.int (0 : Int32))] []
  refine Go.aload_n (pc' := 10) d_jdk_42_method_151_9 rfl rfl rfl ?_
  refine Go.iload_n (pc' := 11) d_jdk_42_method_151_10 rfl rfl ?_
  refine Go.putFN (pc' := 14) (v' := (.int (0 : Int32))) d_jdk_42_method_151_11 rfl (List.mem_of_getElem? (i := 0) rfl) (w_26 hw) Via.refl F_a_coder E_a (Or.inr ⟨(w_22 hw), rfl, rfl⟩) (w_6 hw) (ty := .byte) (by decide) rfl rfl ?_
  intro h293 W294
  replace F_a_coder := F_a_coder.same W294
  replace E_a := E_a.wr W294
  replace F_a_value := F_a_value.other W294 (Or.inr (slot_ne (Or.inr (w_21 hw)) (Or.inr (w_22 hw)) (by decide) (t := (.array .byte)) (t' := .byte) (by decide) (by decide)))
  change Go _ _ _ _ _ _ _ _ _ _ _ _ _ _ [a] h293 0 0 14 #[.val (.ref a), .val (.ref t), .val (.int (0 : Int32))] []
  exact Go.retV d_jdk_42_method_151_14 rfl (by decide) (by decide) [] sn0 ⟨rfl, rfl, E_a, F_a_coder, F_a_value⟩
abbrev R_m_vo : Room := { frames := 2, cells := 2, slots := 5, locals := 27 }
theorem pn_m_vo : plainFor (⟨"java/lang/String", "valueOf", "(C)Ljava/lang/String;"⟩ : MethodName) = true := by first | (refine plainFor_of_name ?_; simp [plainName, overriddenIn]; done) | decide +kernel
abbrev Q_m_vo (Z : State) (x : Int32) (h0 : Heap) : Option Value → Heap → List Addr → Prop := fun res h' SN => ∃ (s : Addr) (t : Addr) (kt : ClassId), res = some (.ref s) ∧ SN = [] ∧ Exa Z h' s "java/lang/String" ∧ Fld Z h' s "java/lang/String" "coder" "B" (.int (0 : Int32)) ∧ Fld Z h' s "java/lang/String" "value" "[B" (.ref t) ∧ Arv Z h' t kt .byte (1 : Int32) ([x.toInt8.toInt32].map Value.int) (.int (0 : Int32))
theorem ef_m_vo (mid : MethodId) (x : Int32) : entryFrame mid #[(.int x)] 1 = mkF mid 0 #[.val (.int x)] [] := by first | (simp [entryFrame, mkF, argsToLocals, Value.category]; done) | rfl
set_option maxRecDepth 65536 in
set_option maxHeartbeats 40000000 in
theorem m_vo {l : Launch} {Z : State} {a0 : Array Value} {n0 : Nat} (hw : ∀ d ∈ tables_1, d.before a0 Z = true) (hs : Stat Z) (x : Int32) (h0 : Heap) (hx_x : ¬ x < 0 ∧ ¬ 255 < x) :
    Met l Z EL0 n0 NR0 KN0 N_44 jdk_42_method_139_code 1 (Option.some (Jvm.ClassFile.FieldType.object "java/lang/String")) R_m_vo [] #[(.int x)] h0 (Q_m_vo Z x h0) := by
  refine Met.of_go pn_m_vo (fun mid => ef_m_vo mid x ) ?_
  intro hO hWS
  obtain ⟨zc, S_c, hzc⟩ := hs_c hs
  refine Go.getS (pc' := 3) d_jdk_42_method_139_0 rfl (host := "") (Or.inl (w_72 hw)) Via.refl S_c ?_
  refine Go.ifN (pc' := 6) d_jdk_42_method_139_3 rfl ((if0 _ _).trans (feq (hzc : ¬ (zc = (0 : Int32)))).1) ?_
  refine Go.iload_n (pc' := 7) d_jdk_42_method_139_6 rfl rfl ?_
  refine Go.callS (pc' := 10) (z := N_41) d_jdk_42_method_139_7 rfl (w_259 hw) (w_260 hw) (w_236 hw) (w_261 hw) (by decide) (argsL := [(.int x)]) (rest := []) (Pays.of_met (W := 0) (len := 3) (m_ce hw hs x h0 (hx_x)) (w_261 hw) (w_236 hw) (by decide) (by decide)) rfl rfl (lenOf pd_27 rfl) rfl (Nat.le_of_eq rfl) mem0 (by decide) (by decide) ?_
  rintro _ _ _ - - ⟨rfl, rfl, rfl⟩
  change Go _ _ _ _ _ _ _ _ _ _ _ _ _ _ [] h0 0 0 10 #[.val (.int x)] [(.int (1 : Int32))]
  refine Go.ifN (pc' := 13) d_jdk_42_method_139_10 rfl ((if0 _ _).trans (feq (by decide : ¬ ((1 : Int32) = (0 : Int32)))).1) ?_
  refine Go.newO (pc' := 16) d_jdk_42_method_139_13 rfl (w_262 hw) (w_6 hw) (w_7 hw) (by decide) (by decide) ?_
  intro h295 b296 g297 ge_b296 x298 E_b296 D_b296 U_b296
  have F_b296_value : Fld Z h295 b296 "java/lang/String" "value" "[B" .null := D_b296 (Or.inr (w_21 hw)) (ty := (.array .byte)) (by decide)
  have F_b296_coder : Fld Z h295 b296 "java/lang/String" "coder" "B" (.int (0 : Int32)) := D_b296 (Or.inr (w_22 hw)) (ty := .byte) (by decide)
  change Go _ _ _ _ _ _ _ _ _ _ _ _ _ _ [b296] h295 1 4 16 #[.val (.int x)] [(.ref b296)]
  refine Go.dup (pc' := 17) d_jdk_42_method_139_16 rfl rfl ?_
  refine Go.iload_n (pc' := 18) d_jdk_42_method_139_17 rfl rfl ?_
  refine Go.callS (pc' := 21) (z := N_42) d_jdk_42_method_139_18 rfl (w_263 hw) (w_264 hw) (w_236 hw) (w_265 hw) (by decide) (argsL := [(.int x)]) (rest := [(.ref b296), (.ref b296)]) (Pays.of_met (W := 2) (len := 3) (m_tb hw hs x h295) (w_265 hw) (w_236 hw) (by decide) (by decide)) rfl rfl (lenOf pd_28 rfl) rfl (Nat.le_of_eq rfl) mem0 (by decide) (by decide) ?_
  rintro _ h301 _ K302 le303 ⟨b299, q300, rfl, rfl, p304, p305⟩
  have o_b296_b299 : b296 ≠ b299 := Nat.ne_of_lt (Nat.lt_of_lt_of_le E_b296.lt p304)
  have ge_b299 := Nat.le_trans le303 p304
  replace E_b296 := E_b296.keep K302
  replace U_b296 := own_unt_keep K302 nin0 U_b296
  replace F_b296_value := F_b296_value.keep K302 nin0
  replace F_b296_coder := F_b296_coder.keep K302 nin0
  have V_b299 := p305
  change Go _ _ _ _ _ _ _ _ _ _ _ _ _ _ [b296] h301 2 5 21 #[.val (.int x)] [(.ref b299), (.ref b296), (.ref b296)]
  refine Go.iconst (pc' := 22) d_jdk_42_method_139_21 rfl ic_0 ?_
  refine Go.callI (pc' := 25) (z := N_43) (a := b296) d_jdk_42_method_139_22 rfl rfl (w_266 hw) (w_267 hw) (w_268 hw) (by decide) (argsL := [(.ref b299), (.int (0 : Int32))]) (rest := [(.ref b296)]) (Pays.of_met (W := 1) (len := 3) (m_bb hw hs b296 b299 h301 E_b296 F_b296_coder F_b296_value) (w_268 hw) (w_7 hw) (by decide) (by decide)) rfl rfl (lenOf pd_29 rfl) rfl (Nat.le_of_eq rfl) (memS (List.mem_of_getElem? (i := 0) rfl) mem0) (by decide) (by decide) ?_
  rintro _ h306 _ K307 le308 ⟨rfl, rfl, p309, p310, p311⟩
  replace E_b296 := E_b296.keep K307
  replace V_b299 := V_b299.keep K307 (ninS (Ne.symm o_b296_b299) nin0)
  have F_b296_coder := p310
  have F_b296_value := p311
  change Go _ _ _ _ _ _ _ _ _ _ _ _ _ _ [b296] h306 2 5 25 #[.val (.int x)] [(.ref b296)]
  exact Go.retA d_jdk_42_method_139_25 rfl rfl rfl (by decide) (by decide) [] sn0 ⟨b296, b299, _, rfl, rfl, E_b296, F_b296_coder, F_b296_value, V_b299⟩
abbrev R_m_mk0 : Room := { frames := 3, cells := 6, slots := 12, locals := 43 }
theorem pn_m_mk0 : plainFor (⟨"com/example/slackline/slackline/TooLargeExceptionForMethodPinLaw", "mk", "(ICC)Ljava/lang/String;"⟩ : MethodName) = true := by first | (refine plainFor_of_name ?_; simp [plainName, overriddenIn]; done) | decide +kernel
abbrev Q_m_mk0 (Z : State) (x : Int32) (y : Int32) (h0 : Heap) : Option Value → Heap → List Addr → Prop := fun res h' SN => ∃ (s : Addr) (t : Addr) (kt : ClassId), res = some (.ref s) ∧ SN = [] ∧ Exa Z h' s "java/lang/String" ∧ Fld Z h' s "java/lang/String" "coder" "B" (.int (0 : Int32)) ∧ Fld Z h' s "java/lang/String" "value" "[B" (.ref t) ∧ Arv Z h' t kt .byte (0 : Int32) (([] : List Int32).map Value.int) (.int (0 : Int32))
theorem ef_m_mk0 (mid : MethodId) (x : Int32) (y : Int32) : entryFrame mid #[(.int (0 : Int32)), (.int x), (.int y)] 3 = mkF mid 0 #[.val (.int (0 : Int32)), .val (.int x), .val (.int y)] [] := by first | (simp [entryFrame, mkF, argsToLocals, Value.category]; done) | rfl
set_option maxRecDepth 65536 in
set_option maxHeartbeats 40000000 in
theorem m_mk0 {l : Launch} {Z : State} {a0 : Array Value} {n0 : Nat} (hw : ∀ d ∈ tables_1, d.before a0 Z = true) (hs : Stat Z) (x : Int32) (y : Int32) (h0 : Heap) (hx_x : ¬ x < 0 ∧ ¬ 255 < x) (hx_y : ¬ y < 0 ∧ ¬ 255 < y) :
    Met l Z EL0 n0 NR0 KN0 N_45 method_3_code 3 (Option.some (Jvm.ClassFile.FieldType.object "java/lang/String")) R_m_mk0 [] #[(.int (0 : Int32)), (.int x), (.int y)] h0 (Q_m_mk0 Z x y h0) := by
  refine Met.of_go pn_m_mk0 (fun mid => ef_m_mk0 mid x y ) ?_
  intro hO hWS
  refine Go.iload_n (pc' := 1) d_method_3_0 rfl rfl ?_
  refine Go.ifN (pc' := 4) d_method_3_1 rfl ((if0 _ _).trans (teq (rfl : (0 : Int32) = (0 : Int32))).2) ?_
  refine Go.newO (pc' := 7) d_method_3_4 rfl (w_5 hw) (w_6 hw) (w_7 hw) (by decide) (by decide) ?_
  intro h312 b313 g314 ge_b313 x315 E_b313 D_b313 U_b313
  have F_b313_value : Fld Z h312 b313 "java/lang/String" "value" "[B" .null := D_b313 (Or.inr (w_21 hw)) (ty := (.array .byte)) (by decide)
  have F_b313_coder : Fld Z h312 b313 "java/lang/String" "coder" "B" (.int (0 : Int32)) := D_b313 (Or.inr (w_22 hw)) (ty := .byte) (by decide)
  change Go _ _ _ _ _ _ _ _ _ _ _ _ _ _ [b313] h312 1 4 7 #[.val (.int (0 : Int32)), .val (.int x), .val (.int y)] [(.ref b313)]
  refine Go.dup (pc' := 8) d_method_3_7 rfl rfl ?_
  refine Go.iconst (pc' := 9) d_method_3_8 rfl ic_0 ?_
  refine Go.newP (pc' := 11) (cap := 0) (ad := "[C") d_method_3_9 rfl (w_8 hw) (by decide) (by decide) (by decide) (by decide) (by decide) (by decide) ?_
  intro h316 b317 g318 ge_b317 q320 x319 V_b317 E_b317
  have o_b313_b317 : b313 ≠ b317 := Nat.ne_of_lt (Nat.lt_of_lt_of_le E_b313.lt (Nat.le_of_eq g318))
  replace E_b313 := E_b313.ext x319
  replace U_b313 := unt_ext x319 U_b313
  replace F_b313_value := F_b313_value.ext x319
  replace F_b313_coder := F_b313_coder.ext x319
  replace V_b317 : Arv Z h316 b317 q320 .char (0 : Int32) [] (.int (0 : Int32)) := V_b317.pad (pad_rep [] _ 0)
  change Go _ _ _ _ _ _ _ _ _ _ _ _ _ _ [b317, b313] h316 2 4 11 #[.val (.int (0 : Int32)), .val (.int x), .val (.int y)] [(.ref b317), (.ref b313), (.ref b313)]
  refine Go.callI (pc' := 14) (z := N_35) (a := b313) d_method_3_11 rfl rfl (w_9 hw) (w_10 hw) (w_11 hw) (by decide) (argsL := [(.ref b317)]) (rest := [(.ref b313)]) (Pays.of_met (W := 1) (len := 3) (m_stre hw hs b313 b317 q320 [] h316 E_b313 F_b313_coder F_b313_value V_b317 (Ne.symm o_b313_b317)) (w_11 hw) (w_7 hw) (by decide) (by decide)) rfl rfl (lenOf pd_30 rfl) rfl (Nat.le_of_eq rfl) (memS (List.mem_of_getElem? (i := 1) rfl) mem0) (by decide) (by decide) ?_
  rintro _ h323 _ K324 le325 ⟨b321, q322, rfl, rfl, p326, p327, p328, p329⟩
  replace E_b313 := E_b313.keep K324
  replace V_b317 := V_b317.keep K324 (ninS (Ne.symm o_b313_b317) nin0)
  replace E_b317 := E_b317.keep K324
  have F_b313_coder := p327
  have F_b313_value := p328
  have V_b321 := p329
  change Go _ _ _ _ _ _ _ _ _ _ _ _ _ _ [b317, b313] h323 6 12 14 #[.val (.int (0 : Int32)), .val (.int x), .val (.int y)] [(.ref b313)]
  replace V_b321 : Arv Z h323 b321 q322 .byte (0 : Int32) (([] : List Int32).map Value.int) (.int (0 : Int32)) := V_b321
  exact Go.retA d_method_3_14 rfl rfl rfl (by decide) (by decide) [] sn0 ⟨b313, b321, _, rfl, rfl, E_b313, F_b313_coder, F_b313_value, V_b321⟩
abbrev R_m_mk1 : Room := { frames := 3, cells := 2, slots := 5, locals := 39 }
theorem pn_m_mk1 : plainFor (⟨"com/example/slackline/slackline/TooLargeExceptionForMethodPinLaw", "mk", "(ICC)Ljava/lang/String;"⟩ : MethodName) = true := by first | (refine plainFor_of_name ?_; simp [plainName, overriddenIn]; done) | decide +kernel
abbrev Q_m_mk1 (Z : State) (x : Int32) (y : Int32) (h0 : Heap) : Option Value → Heap → List Addr → Prop := fun res h' SN => ∃ (s : Addr) (t : Addr) (kt : ClassId), res = some (.ref s) ∧ SN = [] ∧ Exa Z h' s "java/lang/String" ∧ Fld Z h' s "java/lang/String" "coder" "B" (.int (0 : Int32)) ∧ Fld Z h' s "java/lang/String" "value" "[B" (.ref t) ∧ Arv Z h' t kt .byte (1 : Int32) ([x.toInt8.toInt32].map Value.int) (.int (0 : Int32))
theorem ef_m_mk1 (mid : MethodId) (x : Int32) (y : Int32) : entryFrame mid #[(.int (1 : Int32)), (.int x), (.int y)] 3 = mkF mid 0 #[.val (.int (1 : Int32)), .val (.int x), .val (.int y)] [] := by first | (simp [entryFrame, mkF, argsToLocals, Value.category]; done) | rfl
set_option maxRecDepth 65536 in
set_option maxHeartbeats 40000000 in
theorem m_mk1 {l : Launch} {Z : State} {a0 : Array Value} {n0 : Nat} (hw : ∀ d ∈ tables_1, d.before a0 Z = true) (hs : Stat Z) (x : Int32) (y : Int32) (h0 : Heap) (hx_x : ¬ x < 0 ∧ ¬ 255 < x) (hx_y : ¬ y < 0 ∧ ¬ 255 < y) :
    Met l Z EL0 n0 NR0 KN0 N_45 method_3_code 3 (Option.some (Jvm.ClassFile.FieldType.object "java/lang/String")) R_m_mk1 [] #[(.int (1 : Int32)), (.int x), (.int y)] h0 (Q_m_mk1 Z x y h0) := by
  refine Met.of_go pn_m_mk1 (fun mid => ef_m_mk1 mid x y ) ?_
  intro hO hWS
  refine Go.iload_n (pc' := 1) d_method_3_0 rfl rfl ?_
  refine Go.ifY (pc' := 15) d_method_3_1 (by decide) (by decide) ((if0 _ _).trans (feq (by decide : ¬ ((1 : Int32) = (0 : Int32)))).2) ?_
  refine Go.iload_n (pc' := 16) d_method_3_15 rfl rfl ?_
  refine Go.iconst (pc' := 17) d_method_3_16 rfl ic_1 ?_
  refine Go.icmpN (pc' := 20) d_method_3_17 rfl (teq (rfl : (1 : Int32) = (1 : Int32))).2 ?_
  refine Go.iload_n (pc' := 21) d_method_3_20 rfl rfl ?_
  refine Go.callS (pc' := 24) (z := N_44) d_method_3_21 rfl (w_256 hw) (w_257 hw) (w_7 hw) (w_258 hw) (by decide) (argsL := [(.int x)]) (rest := []) (Pays.of_met (W := 0) (len := 3) (m_vo hw hs x h0 (hx_x)) (w_258 hw) (w_7 hw) (by decide) (by decide)) rfl rfl (lenOf pd_31 rfl) rfl (Nat.le_of_eq rfl) mem0 (by decide) (by decide) ?_
  rintro _ h333 _ K334 le335 ⟨b330, b331, q332, rfl, rfl, p336, p337, p338, p339⟩
  have E_b330 := p336
  have F_b330_coder := p337
  have F_b330_value := p338
  have V_b331 := p339
  change Go _ _ _ _ _ _ _ _ _ _ _ _ _ _ [] h333 2 5 24 #[.val (.int (1 : Int32)), .val (.int x), .val (.int y)] [(.ref b330)]
  exact Go.retA d_method_3_24 rfl rfl rfl (by decide) (by decide) [] sn0 ⟨b330, b331, _, rfl, rfl, E_b330, F_b330_coder, F_b330_value, V_b331⟩
abbrev R_m_mk2 : Room := { frames := 4, cells := 3, slots := 8, locals := 66 }
theorem pn_m_mk2 : plainFor (⟨"com/example/slackline/slackline/TooLargeExceptionForMethodPinLaw", "mk", "(ICC)Ljava/lang/String;"⟩ : MethodName) = true := by first | (refine plainFor_of_name ?_; simp [plainName, overriddenIn]; done) | decide +kernel
abbrev Q_m_mk2 (Z : State) (x : Int32) (y : Int32) (h0 : Heap) : Option Value → Heap → List Addr → Prop := fun res h' SN => ∃ (s : Addr) (t : Addr) (kt : ClassId), res = some (.ref s) ∧ SN = [] ∧ Exa Z h' s "java/lang/String" ∧ Fld Z h' s "java/lang/String" "coder" "B" (.int (0 : Int32)) ∧ Fld Z h' s "java/lang/String" "value" "[B" (.ref t) ∧ Arv Z h' t kt .byte (2 : Int32) ([x.toInt8.toInt32, y.toInt8.toInt32].map Value.int) (.int (0 : Int32))
theorem ef_m_mk2 (mid : MethodId) (x : Int32) (y : Int32) : entryFrame mid #[(.int (2 : Int32)), (.int x), (.int y)] 3 = mkF mid 0 #[.val (.int (2 : Int32)), .val (.int x), .val (.int y)] [] := by first | (simp [entryFrame, mkF, argsToLocals, Value.category]; done) | rfl
set_option maxRecDepth 65536 in
set_option maxHeartbeats 40000000 in
theorem m_mk2 {l : Launch} {Z : State} {a0 : Array Value} {n0 : Nat} (hw : ∀ d ∈ tables_1, d.before a0 Z = true) (hs : Stat Z) (x : Int32) (y : Int32) (h0 : Heap) (hx_x : ¬ x < 0 ∧ ¬ 255 < x) (hx_y : ¬ y < 0 ∧ ¬ 255 < y) :
    Met l Z EL0 n0 NR0 KN0 N_45 method_3_code 3 (Option.some (Jvm.ClassFile.FieldType.object "java/lang/String")) R_m_mk2 [] #[(.int (2 : Int32)), (.int x), (.int y)] h0 (Q_m_mk2 Z x y h0) := by
  refine Met.of_go pn_m_mk2 (fun mid => ef_m_mk2 mid x y ) ?_
  intro hO hWS
  refine Go.iload_n (pc' := 1) d_method_3_0 rfl rfl ?_
  refine Go.ifY (pc' := 15) d_method_3_1 (by decide) (by decide) ((if0 _ _).trans (feq (by decide : ¬ ((2 : Int32) = (0 : Int32)))).2) ?_
  refine Go.iload_n (pc' := 16) d_method_3_15 rfl rfl ?_
  refine Go.iconst (pc' := 17) d_method_3_16 rfl ic_1 ?_
  refine Go.icmpY (pc' := 25) d_method_3_17 (by decide) (by decide) (feq (by decide : ¬ ((2 : Int32) = (1 : Int32)))).2 ?_
  refine Go.newO (pc' := 28) d_method_3_25 rfl (w_5 hw) (w_6 hw) (w_7 hw) (by decide) (by decide) ?_
  intro h340 b341 g342 ge_b341 x343 E_b341 D_b341 U_b341
  have F_b341_value : Fld Z h340 b341 "java/lang/String" "value" "[B" .null := D_b341 (Or.inr (w_21 hw)) (ty := (.array .byte)) (by decide)
  have F_b341_coder : Fld Z h340 b341 "java/lang/String" "coder" "B" (.int (0 : Int32)) := D_b341 (Or.inr (w_22 hw)) (ty := .byte) (by decide)
  change Go _ _ _ _ _ _ _ _ _ _ _ _ _ _ [b341] h340 1 4 28 #[.val (.int (2 : Int32)), .val (.int x), .val (.int y)] [(.ref b341)]
  refine Go.dup (pc' := 29) d_method_3_28 rfl rfl ?_
  refine Go.iconst (pc' := 30) d_method_3_29 rfl ic_2 ?_
  refine Go.newP (pc' := 32) (cap := 2) (ad := "[C") d_method_3_30 rfl (w_8 hw) (by decide) (by decide) (by decide) (by decide) (by decide) (by decide) ?_
  intro h344 b345 g346 ge_b345 q348 x347 V_b345 E_b345
  have o_b341_b345 : b341 ≠ b345 := Nat.ne_of_lt (Nat.lt_of_lt_of_le E_b341.lt (Nat.le_of_eq g346))
  replace E_b341 := E_b341.ext x347
  replace U_b341 := unt_ext x347 U_b341
  replace F_b341_value := F_b341_value.ext x347
  replace F_b341_coder := F_b341_coder.ext x347
  replace V_b345 : Arv Z h344 b345 q348 .char (2 : Int32) [(.int (0 : Int32)), (.int (0 : Int32))] (.int (0 : Int32)) := V_b345.pad (pad_rep [] _ 2)
  change Go _ _ _ _ _ _ _ _ _ _ _ _ _ _ [b345, b341] h344 2 6 32 #[.val (.int (2 : Int32)), .val (.int x), .val (.int y)] [(.ref b345), (.ref b341), (.ref b341)]
  refine Go.dup (pc' := 33) d_method_3_32 rfl rfl ?_
  refine Go.iconst (pc' := 34) d_method_3_33 rfl ic_0 ?_
  refine Go.iload_n (pc' := 35) d_method_3_34 rfl rfl ?_
  refine Go.castoreV (pc' := 36) (i := 0) d_method_3_35 rfl (List.mem_of_getElem? (i := 0) rfl) V_b345 (by decide) (by decide) (by simp) ?_
  rw [nar_char hx_x.1 (le255 hx_x.2)]
  intro h349 W350 V_b345'
  replace E_b341 := E_b341.wr W350
  replace U_b341 := own_unt_wr W350 U_b341
  replace F_b341_value := F_b341_value.other W350 (Or.inl o_b341_b345)
  replace F_b341_coder := F_b341_coder.other W350 (Or.inl o_b341_b345)
  replace E_b345 := E_b345.wr W350
  replace V_b345 : Arv Z h349 b345 q348 .char (2 : Int32) [(.int x), (.int (0 : Int32))] (.int (0 : Int32)) := V_b345'
  change Go _ _ _ _ _ _ _ _ _ _ _ _ _ _ [b345, b341] h349 2 6 36 #[.val (.int (2 : Int32)), .val (.int x), .val (.int y)] [(.ref b345), (.ref b341), (.ref b341)]
  refine Go.dup (pc' := 37) d_method_3_36 rfl rfl ?_
  refine Go.iconst (pc' := 38) d_method_3_37 rfl ic_1 ?_
  refine Go.iload_n (pc' := 39) d_method_3_38 rfl rfl ?_
  refine Go.castoreV (pc' := 40) (i := 1) d_method_3_39 rfl (List.mem_of_getElem? (i := 0) rfl) V_b345 (by decide) (by decide) (by simp) ?_
  rw [nar_char hx_y.1 (le255 hx_y.2)]
  intro h351 W352 V_b345'
  replace E_b341 := E_b341.wr W352
  replace U_b341 := own_unt_wr W352 U_b341
  replace F_b341_value := F_b341_value.other W352 (Or.inl o_b341_b345)
  replace F_b341_coder := F_b341_coder.other W352 (Or.inl o_b341_b345)
  replace E_b345 := E_b345.wr W352
  replace V_b345 : Arv Z h351 b345 q348 .char (2 : Int32) [(.int x), (.int y)] (.int (0 : Int32)) := V_b345'
  change Go _ _ _ _ _ _ _ _ _ _ _ _ _ _ [b345, b341] h351 2 6 40 #[.val (.int (2 : Int32)), .val (.int x), .val (.int y)] [(.ref b345), (.ref b341), (.ref b341)]
  replace V_b345 : Arv Z h351 b345 q348 .char (2 : Int32) ([x, y].map Value.int) (.int (0 : Int32)) := V_b345
  refine Go.callI (pc' := 43) (z := N_35) (a := b341) d_method_3_40 rfl rfl (w_9 hw) (w_10 hw) (w_11 hw) (by decide) (argsL := [(.ref b345)]) (rest := [(.ref b341)]) (Pays.of_met (W := 1) (len := 3) (m_str hw hs b341 b345 q348 [x, y] (2 : Int32) h351 E_b341 F_b341_coder F_b341_value V_b345 (show (2 : Int32).toNatClampNeg = 2 from by decide) ((own_cons (P := fun x => ¬ x < 0 ∧ ¬ 255 < x) hx_x (own_one (P := fun x => ¬ x < 0 ∧ ¬ 255 < x) hx_y))) (List.cons_ne_nil _ _) (by decide) (Ne.symm o_b341_b345)) (w_11 hw) (w_7 hw) (by decide) (by decide)) rfl rfl (lenOf pd_30 rfl) rfl (Nat.le_of_eq rfl) (memS (List.mem_of_getElem? (i := 1) rfl) mem0) (by decide) (by decide) ?_
  rintro _ h355 _ K356 le357 ⟨b353, q354, rfl, rfl, p358, p359, p360, p361, p362⟩
  have o_b341_b353 : b341 ≠ b353 := Nat.ne_of_lt (Nat.lt_of_lt_of_le E_b341.lt p362)
  have o_b345_b353 : b345 ≠ b353 := Nat.ne_of_lt (Nat.lt_of_lt_of_le E_b345.lt p362)
  have ge_b353 := Nat.le_trans le357 p362
  replace E_b341 := E_b341.keep K356
  replace E_b345 := E_b345.keep K356
  replace V_b345 := V_b345.keep K356 (ninS (Ne.symm o_b341_b345) nin0)
  have F_b341_coder := p359
  have F_b341_value := p360
  have V_b353 := p361
  change Go _ _ _ _ _ _ _ _ _ _ _ _ _ _ [b345, b341] h355 3 8 43 #[.val (.int (2 : Int32)), .val (.int x), .val (.int y)] [(.ref b341)]
  replace V_b353 : Arv Z h355 b353 q354 .byte (2 : Int32) ([x.toInt8.toInt32, y.toInt8.toInt32].map Value.int) (.int (0 : Int32)) := V_b353
  exact Go.retA d_method_3_43 rfl rfl rfl (by decide) (by decide) [] sn0 ⟨b341, b353, _, rfl, rfl, E_b341, F_b341_coder, F_b341_value, V_b353⟩
abbrev R_m_pfx : Room := { frames := 4, cells := 0, slots := 0, locals := 53 }
theorem pn_m_pfx : plainFor (⟨"com/example/slackline/slackline/TooLargeExceptionForMethodPinLaw", "prefixOk", "(Ljava/lang/String;)Z"⟩ : MethodName) = true := by first | (refine plainFor_of_name ?_; simp [plainName, overriddenIn]; done) | decide +kernel
abbrev Q_m_pfx (Z : State) (a : Addr) (t : Addr) (kt : ClassId) (z : Int32) (us : List Int32) (h0 : Heap) : Option Value → Heap → List Addr → Prop := fun res h' SN => res = some (.int (1 : Int32)) ∧ SN = [] ∧ h0 = h'
theorem ef_m_pfx (mid : MethodId) (a : Addr) (t : Addr) (kt : ClassId) (z : Int32) (us : List Int32) : entryFrame mid #[(.ref a)] 1 = mkF mid 0 #[.val (.ref a)] [] := by first | (simp [entryFrame, mkF, argsToLocals, Value.category]; done) | rfl
set_option maxRecDepth 65536 in
set_option maxHeartbeats 40000000 in
theorem m_pfx {l : Launch} {Z : State} {a0 : Array Value} {n0 : Nat} (hw : ∀ d ∈ tables_1, d.before a0 Z = true) (hs : Stat Z) (a : Addr) (t : Addr) (kt : ClassId) (z : Int32) (us : List Int32) (h0 : Heap) (E_a : Exa Z h0 a "java/lang/String") (F_a_coder : Fld Z h0 a "java/lang/String" "coder" "B" (.int (0 : Int32))) (F_a_value : Fld Z h0 a "java/lang/String" "value" "[B" (.ref t)) (V_t : Arv Z h0 t kt .byte z ((PFX ++ us).map Value.int) (.int (0 : Int32))) (hz22 : ¬ z < (22 : Int32)) :
    Met l Z EL0 n0 NR0 KN0 N_46 method_4_code 1 (Option.some Jvm.ClassFile.FieldType.boolean) R_m_pfx [] #[(.ref a)] h0 (Q_m_pfx Z a t kt z us h0) := by
  refine Met.of_go pn_m_pfx (fun mid => ef_m_pfx mid a t kt z us ) ?_
  intro hO hWS
  refine Go.aload_n (pc' := 1) d_method_4_0 rfl rfl rfl ?_
  refine Go.iconst (pc' := 2) d_method_4_1 rfl ic_0 ?_
  refine Go.callV (pc' := 5) (u := N_40) (z := N_40) (a := a) d_method_4_2 rfl (w_224 hw) (w_225 hw) (nf (w_227 hw) rfl) (w_227 hw) (w_226 hw) (by decide) E_a (argsL := [(.int (0 : Int32))]) (rest := []) (Pays.of_met (W := 0) (len := 3) (m_charAt hw hs a t kt z ((PFX ++ us).map Value.int) (0 : Int32) (110 : Int32) h0 E_a F_a_coder F_a_value V_t (⟨by decide, own_ltle (z := (22 : Int32)) (by decide) hz22⟩) (rfl)) (w_228 hw) (w_7 hw) (by decide) (by decide)) rfl rfl (lenOf pd_32 rfl) rfl (Nat.le_of_eq rfl) mem0 (by decide) (by decide) ?_
  rintro _ _ _ - - ⟨rfl, rfl, rfl⟩
  change Go _ _ _ _ _ _ _ _ _ _ _ _ _ _ [] h0 0 0 5 #[.val (.ref a)] [(.int ((110 : Int32) &&& (255 : Int32)).toUInt32.toUInt16.toUInt32.toInt32)]
  refine Go.bipush (pc' := 7) d_method_4_5 rfl icb_110 ?_
  rw [show ((110 : Int32) &&& (255 : Int32)).toUInt32.toUInt16.toUInt32.toInt32 = (110 : Int32) from by decide]
  refine Go.icmpN (pc' := 10) d_method_4_7 rfl (teq (rfl : (110 : Int32) = (110 : Int32))).2 ?_
  refine Go.aload_n (pc' := 11) d_method_4_10 rfl rfl rfl ?_
  refine Go.iconst (pc' := 12) d_method_4_11 rfl ic_1 ?_
  refine Go.callV (pc' := 15) (u := N_40) (z := N_40) (a := a) d_method_4_12 rfl (w_224 hw) (w_225 hw) (nf (w_227 hw) rfl) (w_227 hw) (w_226 hw) (by decide) E_a (argsL := [(.int (1 : Int32))]) (rest := []) (Pays.of_met (W := 0) (len := 3) (m_charAt hw hs a t kt z ((PFX ++ us).map Value.int) (1 : Int32) (101 : Int32) h0 E_a F_a_coder F_a_value V_t (⟨by decide, own_ltle (z := (22 : Int32)) (by decide) hz22⟩) (rfl)) (w_228 hw) (w_7 hw) (by decide) (by decide)) rfl rfl (lenOf pd_32 rfl) rfl (Nat.le_of_eq rfl) mem0 (by decide) (by decide) ?_
  rintro _ _ _ - - ⟨rfl, rfl, rfl⟩
  change Go _ _ _ _ _ _ _ _ _ _ _ _ _ _ [] h0 0 0 15 #[.val (.ref a)] [(.int ((101 : Int32) &&& (255 : Int32)).toUInt32.toUInt16.toUInt32.toInt32)]
  refine Go.bipush (pc' := 17) d_method_4_15 rfl icb_101 ?_
  rw [show ((101 : Int32) &&& (255 : Int32)).toUInt32.toUInt16.toUInt32.toInt32 = (101 : Int32) from by decide]
  refine Go.icmpN (pc' := 20) d_method_4_17 rfl (teq (rfl : (101 : Int32) = (101 : Int32))).2 ?_
  refine Go.aload_n (pc' := 21) d_method_4_20 rfl rfl rfl ?_
  refine Go.iconst (pc' := 22) d_method_4_21 rfl ic_2 ?_
  refine Go.callV (pc' := 25) (u := N_40) (z := N_40) (a := a) d_method_4_22 rfl (w_224 hw) (w_225 hw) (nf (w_227 hw) rfl) (w_227 hw) (w_226 hw) (by decide) E_a (argsL := [(.int (2 : Int32))]) (rest := []) (Pays.of_met (W := 0) (len := 3) (m_charAt hw hs a t kt z ((PFX ++ us).map Value.int) (2 : Int32) (116 : Int32) h0 E_a F_a_coder F_a_value V_t (⟨by decide, own_ltle (z := (22 : Int32)) (by decide) hz22⟩) (rfl)) (w_228 hw) (w_7 hw) (by decide) (by decide)) rfl rfl (lenOf pd_32 rfl) rfl (Nat.le_of_eq rfl) mem0 (by decide) (by decide) ?_
  rintro _ _ _ - - ⟨rfl, rfl, rfl⟩
  change Go _ _ _ _ _ _ _ _ _ _ _ _ _ _ [] h0 0 0 25 #[.val (.ref a)] [(.int ((116 : Int32) &&& (255 : Int32)).toUInt32.toUInt16.toUInt32.toInt32)]
  refine Go.bipush (pc' := 27) d_method_4_25 rfl icb_116 ?_
  rw [show ((116 : Int32) &&& (255 : Int32)).toUInt32.toUInt16.toUInt32.toInt32 = (116 : Int32) from by decide]
  refine Go.icmpN (pc' := 30) d_method_4_27 rfl (teq (rfl : (116 : Int32) = (116 : Int32))).2 ?_
  refine Go.aload_n (pc' := 31) d_method_4_30 rfl rfl rfl ?_
  refine Go.iconst (pc' := 32) d_method_4_31 rfl ic_3 ?_
  refine Go.callV (pc' := 35) (u := N_40) (z := N_40) (a := a) d_method_4_32 rfl (w_224 hw) (w_225 hw) (nf (w_227 hw) rfl) (w_227 hw) (w_226 hw) (by decide) E_a (argsL := [(.int (3 : Int32))]) (rest := []) (Pays.of_met (W := 0) (len := 3) (m_charAt hw hs a t kt z ((PFX ++ us).map Value.int) (3 : Int32) (119 : Int32) h0 E_a F_a_coder F_a_value V_t (⟨by decide, own_ltle (z := (22 : Int32)) (by decide) hz22⟩) (rfl)) (w_228 hw) (w_7 hw) (by decide) (by decide)) rfl rfl (lenOf pd_32 rfl) rfl (Nat.le_of_eq rfl) mem0 (by decide) (by decide) ?_
  rintro _ _ _ - - ⟨rfl, rfl, rfl⟩
  change Go _ _ _ _ _ _ _ _ _ _ _ _ _ _ [] h0 0 0 35 #[.val (.ref a)] [(.int ((119 : Int32) &&& (255 : Int32)).toUInt32.toUInt16.toUInt32.toInt32)]
  refine Go.bipush (pc' := 37) d_method_4_35 rfl icb_119 ?_
  rw [show ((119 : Int32) &&& (255 : Int32)).toUInt32.toUInt16.toUInt32.toInt32 = (119 : Int32) from by decide]
  refine Go.icmpN (pc' := 40) d_method_4_37 rfl (teq (rfl : (119 : Int32) = (119 : Int32))).2 ?_
  refine Go.aload_n (pc' := 41) d_method_4_40 rfl rfl rfl ?_
  refine Go.iconst (pc' := 42) d_method_4_41 rfl ic_4 ?_
  refine Go.callV (pc' := 45) (u := N_40) (z := N_40) (a := a) d_method_4_42 rfl (w_224 hw) (w_225 hw) (nf (w_227 hw) rfl) (w_227 hw) (w_226 hw) (by decide) E_a (argsL := [(.int (4 : Int32))]) (rest := []) (Pays.of_met (W := 0) (len := 3) (m_charAt hw hs a t kt z ((PFX ++ us).map Value.int) (4 : Int32) (111 : Int32) h0 E_a F_a_coder F_a_value V_t (⟨by decide, own_ltle (z := (22 : Int32)) (by decide) hz22⟩) (rfl)) (w_228 hw) (w_7 hw) (by decide) (by decide)) rfl rfl (lenOf pd_32 rfl) rfl (Nat.le_of_eq rfl) mem0 (by decide) (by decide) ?_
  rintro _ _ _ - - ⟨rfl, rfl, rfl⟩
  change Go _ _ _ _ _ _ _ _ _ _ _ _ _ _ [] h0 0 0 45 #[.val (.ref a)] [(.int ((111 : Int32) &&& (255 : Int32)).toUInt32.toUInt16.toUInt32.toInt32)]
  refine Go.bipush (pc' := 47) d_method_4_45 rfl icb_111 ?_
  rw [show ((111 : Int32) &&& (255 : Int32)).toUInt32.toUInt16.toUInt32.toInt32 = (111 : Int32) from by decide]
  refine Go.icmpN (pc' := 50) d_method_4_47 rfl (teq (rfl : (111 : Int32) = (111 : Int32))).2 ?_
  refine Go.aload_n (pc' := 51) d_method_4_50 rfl rfl rfl ?_
  refine Go.iconst (pc' := 52) d_method_4_51 rfl ic_5 ?_
  refine Go.callV (pc' := 55) (u := N_40) (z := N_40) (a := a) d_method_4_52 rfl (w_224 hw) (w_225 hw) (nf (w_227 hw) rfl) (w_227 hw) (w_226 hw) (by decide) E_a (argsL := [(.int (5 : Int32))]) (rest := []) (Pays.of_met (W := 0) (len := 3) (m_charAt hw hs a t kt z ((PFX ++ us).map Value.int) (5 : Int32) (114 : Int32) h0 E_a F_a_coder F_a_value V_t (⟨by decide, own_ltle (z := (22 : Int32)) (by decide) hz22⟩) (rfl)) (w_228 hw) (w_7 hw) (by decide) (by decide)) rfl rfl (lenOf pd_32 rfl) rfl (Nat.le_of_eq rfl) mem0 (by decide) (by decide) ?_
  rintro _ _ _ - - ⟨rfl, rfl, rfl⟩
  change Go _ _ _ _ _ _ _ _ _ _ _ _ _ _ [] h0 0 0 55 #[.val (.ref a)] [(.int ((114 : Int32) &&& (255 : Int32)).toUInt32.toUInt16.toUInt32.toInt32)]
  refine Go.bipush (pc' := 57) d_method_4_55 rfl icb_114 ?_
  rw [show ((114 : Int32) &&& (255 : Int32)).toUInt32.toUInt16.toUInt32.toInt32 = (114 : Int32) from by decide]
  refine Go.icmpN (pc' := 60) d_method_4_57 rfl (teq (rfl : (114 : Int32) = (114 : Int32))).2 ?_
  refine Go.aload_n (pc' := 61) d_method_4_60 rfl rfl rfl ?_
  refine Go.bipush (pc' := 63) d_method_4_61 rfl icb_6 ?_
  refine Go.callV (pc' := 66) (u := N_40) (z := N_40) (a := a) d_method_4_63 rfl (w_224 hw) (w_225 hw) (nf (w_227 hw) rfl) (w_227 hw) (w_226 hw) (by decide) E_a (argsL := [(.int (6 : Int32))]) (rest := []) (Pays.of_met (W := 0) (len := 3) (m_charAt hw hs a t kt z ((PFX ++ us).map Value.int) (6 : Int32) (107 : Int32) h0 E_a F_a_coder F_a_value V_t (⟨by decide, own_ltle (z := (22 : Int32)) (by decide) hz22⟩) (rfl)) (w_228 hw) (w_7 hw) (by decide) (by decide)) rfl rfl (lenOf pd_32 rfl) rfl (Nat.le_of_eq rfl) mem0 (by decide) (by decide) ?_
  rintro _ _ _ - - ⟨rfl, rfl, rfl⟩
  change Go _ _ _ _ _ _ _ _ _ _ _ _ _ _ [] h0 0 0 66 #[.val (.ref a)] [(.int ((107 : Int32) &&& (255 : Int32)).toUInt32.toUInt16.toUInt32.toInt32)]
  refine Go.bipush (pc' := 68) d_method_4_66 rfl icb_107 ?_
  rw [show ((107 : Int32) &&& (255 : Int32)).toUInt32.toUInt16.toUInt32.toInt32 = (107 : Int32) from by decide]
  refine Go.icmpN (pc' := 71) d_method_4_68 rfl (teq (rfl : (107 : Int32) = (107 : Int32))).2 ?_
  refine Go.aload_n (pc' := 72) d_method_4_71 rfl rfl rfl ?_
  refine Go.bipush (pc' := 74) d_method_4_72 rfl icb_7 ?_
  refine Go.callV (pc' := 77) (u := N_40) (z := N_40) (a := a) d_method_4_74 rfl (w_224 hw) (w_225 hw) (nf (w_227 hw) rfl) (w_227 hw) (w_226 hw) (by decide) E_a (argsL := [(.int (7 : Int32))]) (rest := []) (Pays.of_met (W := 0) (len := 3) (m_charAt hw hs a t kt z ((PFX ++ us).map Value.int) (7 : Int32) (32 : Int32) h0 E_a F_a_coder F_a_value V_t (⟨by decide, own_ltle (z := (22 : Int32)) (by decide) hz22⟩) (rfl)) (w_228 hw) (w_7 hw) (by decide) (by decide)) rfl rfl (lenOf pd_32 rfl) rfl (Nat.le_of_eq rfl) mem0 (by decide) (by decide) ?_
  rintro _ _ _ - - ⟨rfl, rfl, rfl⟩
  change Go _ _ _ _ _ _ _ _ _ _ _ _ _ _ [] h0 0 0 77 #[.val (.ref a)] [(.int ((32 : Int32) &&& (255 : Int32)).toUInt32.toUInt16.toUInt32.toInt32)]
  refine Go.bipush (pc' := 79) d_method_4_77 rfl icb_32 ?_
  rw [show ((32 : Int32) &&& (255 : Int32)).toUInt32.toUInt16.toUInt32.toInt32 = (32 : Int32) from by decide]
  refine Go.icmpN (pc' := 82) d_method_4_79 rfl (teq (rfl : (32 : Int32) = (32 : Int32))).2 ?_
  refine Go.aload_n (pc' := 83) d_method_4_82 rfl rfl rfl ?_
  refine Go.bipush (pc' := 85) d_method_4_83 rfl icb_8 ?_
  refine Go.callV (pc' := 88) (u := N_40) (z := N_40) (a := a) d_method_4_85 rfl (w_224 hw) (w_225 hw) (nf (w_227 hw) rfl) (w_227 hw) (w_226 hw) (by decide) E_a (argsL := [(.int (8 : Int32))]) (rest := []) (Pays.of_met (W := 0) (len := 3) (m_charAt hw hs a t kt z ((PFX ++ us).map Value.int) (8 : Int32) (116 : Int32) h0 E_a F_a_coder F_a_value V_t (⟨by decide, own_ltle (z := (22 : Int32)) (by decide) hz22⟩) (rfl)) (w_228 hw) (w_7 hw) (by decide) (by decide)) rfl rfl (lenOf pd_32 rfl) rfl (Nat.le_of_eq rfl) mem0 (by decide) (by decide) ?_
  rintro _ _ _ - - ⟨rfl, rfl, rfl⟩
  change Go _ _ _ _ _ _ _ _ _ _ _ _ _ _ [] h0 0 0 88 #[.val (.ref a)] [(.int ((116 : Int32) &&& (255 : Int32)).toUInt32.toUInt16.toUInt32.toInt32)]
  refine Go.bipush (pc' := 90) d_method_4_88 rfl icb_116 ?_
  rw [show ((116 : Int32) &&& (255 : Int32)).toUInt32.toUInt16.toUInt32.toInt32 = (116 : Int32) from by decide]
  refine Go.icmpN (pc' := 93) d_method_4_90 rfl (teq (rfl : (116 : Int32) = (116 : Int32))).2 ?_
  refine Go.aload_n (pc' := 94) d_method_4_93 rfl rfl rfl ?_
  refine Go.bipush (pc' := 96) d_method_4_94 rfl icb_9 ?_
  refine Go.callV (pc' := 99) (u := N_40) (z := N_40) (a := a) d_method_4_96 rfl (w_224 hw) (w_225 hw) (nf (w_227 hw) rfl) (w_227 hw) (w_226 hw) (by decide) E_a (argsL := [(.int (9 : Int32))]) (rest := []) (Pays.of_met (W := 0) (len := 3) (m_charAt hw hs a t kt z ((PFX ++ us).map Value.int) (9 : Int32) (111 : Int32) h0 E_a F_a_coder F_a_value V_t (⟨by decide, own_ltle (z := (22 : Int32)) (by decide) hz22⟩) (rfl)) (w_228 hw) (w_7 hw) (by decide) (by decide)) rfl rfl (lenOf pd_32 rfl) rfl (Nat.le_of_eq rfl) mem0 (by decide) (by decide) ?_
  rintro _ _ _ - - ⟨rfl, rfl, rfl⟩
  change Go _ _ _ _ _ _ _ _ _ _ _ _ _ _ [] h0 0 0 99 #[.val (.ref a)] [(.int ((111 : Int32) &&& (255 : Int32)).toUInt32.toUInt16.toUInt32.toInt32)]
  refine Go.bipush (pc' := 101) d_method_4_99 rfl icb_111 ?_
  rw [show ((111 : Int32) &&& (255 : Int32)).toUInt32.toUInt16.toUInt32.toInt32 = (111 : Int32) from by decide]
  refine Go.icmpN (pc' := 104) d_method_4_101 rfl (teq (rfl : (111 : Int32) = (111 : Int32))).2 ?_
  refine Go.aload_n (pc' := 105) d_method_4_104 rfl rfl rfl ?_
  refine Go.bipush (pc' := 107) d_method_4_105 rfl icb_10 ?_
  refine Go.callV (pc' := 110) (u := N_40) (z := N_40) (a := a) d_method_4_107 rfl (w_224 hw) (w_225 hw) (nf (w_227 hw) rfl) (w_227 hw) (w_226 hw) (by decide) E_a (argsL := [(.int (10 : Int32))]) (rest := []) (Pays.of_met (W := 0) (len := 3) (m_charAt hw hs a t kt z ((PFX ++ us).map Value.int) (10 : Int32) (111 : Int32) h0 E_a F_a_coder F_a_value V_t (⟨by decide, own_ltle (z := (22 : Int32)) (by decide) hz22⟩) (rfl)) (w_228 hw) (w_7 hw) (by decide) (by decide)) rfl rfl (lenOf pd_32 rfl) rfl (Nat.le_of_eq rfl) mem0 (by decide) (by decide) ?_
  rintro _ _ _ - - ⟨rfl, rfl, rfl⟩
  change Go _ _ _ _ _ _ _ _ _ _ _ _ _ _ [] h0 0 0 110 #[.val (.ref a)] [(.int ((111 : Int32) &&& (255 : Int32)).toUInt32.toUInt16.toUInt32.toInt32)]
  refine Go.bipush (pc' := 112) d_method_4_110 rfl icb_111 ?_
  rw [show ((111 : Int32) &&& (255 : Int32)).toUInt32.toUInt16.toUInt32.toInt32 = (111 : Int32) from by decide]
  refine Go.icmpN (pc' := 115) d_method_4_112 rfl (teq (rfl : (111 : Int32) = (111 : Int32))).2 ?_
  refine Go.aload_n (pc' := 116) d_method_4_115 rfl rfl rfl ?_
  refine Go.bipush (pc' := 118) d_method_4_116 rfl icb_11 ?_
  refine Go.callV (pc' := 121) (u := N_40) (z := N_40) (a := a) d_method_4_118 rfl (w_224 hw) (w_225 hw) (nf (w_227 hw) rfl) (w_227 hw) (w_226 hw) (by decide) E_a (argsL := [(.int (11 : Int32))]) (rest := []) (Pays.of_met (W := 0) (len := 3) (m_charAt hw hs a t kt z ((PFX ++ us).map Value.int) (11 : Int32) (32 : Int32) h0 E_a F_a_coder F_a_value V_t (⟨by decide, own_ltle (z := (22 : Int32)) (by decide) hz22⟩) (rfl)) (w_228 hw) (w_7 hw) (by decide) (by decide)) rfl rfl (lenOf pd_32 rfl) rfl (Nat.le_of_eq rfl) mem0 (by decide) (by decide) ?_
  rintro _ _ _ - - ⟨rfl, rfl, rfl⟩
  change Go _ _ _ _ _ _ _ _ _ _ _ _ _ _ [] h0 0 0 121 #[.val (.ref a)] [(.int ((32 : Int32) &&& (255 : Int32)).toUInt32.toUInt16.toUInt32.toInt32)]
  refine Go.bipush (pc' := 123) d_method_4_121 rfl icb_32 ?_
  rw [show ((32 : Int32) &&& (255 : Int32)).toUInt32.toUInt16.toUInt32.toInt32 = (32 : Int32) from by decide]
  refine Go.icmpN (pc' := 126) d_method_4_123 rfl (teq (rfl : (32 : Int32) = (32 : Int32))).2 ?_
  refine Go.aload_n (pc' := 127) d_method_4_126 rfl rfl rfl ?_
  refine Go.bipush (pc' := 129) d_method_4_127 rfl icb_12 ?_
  refine Go.callV (pc' := 132) (u := N_40) (z := N_40) (a := a) d_method_4_129 rfl (w_224 hw) (w_225 hw) (nf (w_227 hw) rfl) (w_227 hw) (w_226 hw) (by decide) E_a (argsL := [(.int (12 : Int32))]) (rest := []) (Pays.of_met (W := 0) (len := 3) (m_charAt hw hs a t kt z ((PFX ++ us).map Value.int) (12 : Int32) (108 : Int32) h0 E_a F_a_coder F_a_value V_t (⟨by decide, own_ltle (z := (22 : Int32)) (by decide) hz22⟩) (rfl)) (w_228 hw) (w_7 hw) (by decide) (by decide)) rfl rfl (lenOf pd_32 rfl) rfl (Nat.le_of_eq rfl) mem0 (by decide) (by decide) ?_
  rintro _ _ _ - - ⟨rfl, rfl, rfl⟩
  change Go _ _ _ _ _ _ _ _ _ _ _ _ _ _ [] h0 0 0 132 #[.val (.ref a)] [(.int ((108 : Int32) &&& (255 : Int32)).toUInt32.toUInt16.toUInt32.toInt32)]
  refine Go.bipush (pc' := 134) d_method_4_132 rfl icb_108 ?_
  rw [show ((108 : Int32) &&& (255 : Int32)).toUInt32.toUInt16.toUInt32.toInt32 = (108 : Int32) from by decide]
  refine Go.icmpN (pc' := 137) d_method_4_134 rfl (teq (rfl : (108 : Int32) = (108 : Int32))).2 ?_
  refine Go.aload_n (pc' := 138) d_method_4_137 rfl rfl rfl ?_
  refine Go.bipush (pc' := 140) d_method_4_138 rfl icb_13 ?_
  refine Go.callV (pc' := 143) (u := N_40) (z := N_40) (a := a) d_method_4_140 rfl (w_224 hw) (w_225 hw) (nf (w_227 hw) rfl) (w_227 hw) (w_226 hw) (by decide) E_a (argsL := [(.int (13 : Int32))]) (rest := []) (Pays.of_met (W := 0) (len := 3) (m_charAt hw hs a t kt z ((PFX ++ us).map Value.int) (13 : Int32) (97 : Int32) h0 E_a F_a_coder F_a_value V_t (⟨by decide, own_ltle (z := (22 : Int32)) (by decide) hz22⟩) (rfl)) (w_228 hw) (w_7 hw) (by decide) (by decide)) rfl rfl (lenOf pd_32 rfl) rfl (Nat.le_of_eq rfl) mem0 (by decide) (by decide) ?_
  rintro _ _ _ - - ⟨rfl, rfl, rfl⟩
  change Go _ _ _ _ _ _ _ _ _ _ _ _ _ _ [] h0 0 0 143 #[.val (.ref a)] [(.int ((97 : Int32) &&& (255 : Int32)).toUInt32.toUInt16.toUInt32.toInt32)]
  refine Go.bipush (pc' := 145) d_method_4_143 rfl icb_97 ?_
  rw [show ((97 : Int32) &&& (255 : Int32)).toUInt32.toUInt16.toUInt32.toInt32 = (97 : Int32) from by decide]
  refine Go.icmpN (pc' := 148) d_method_4_145 rfl (teq (rfl : (97 : Int32) = (97 : Int32))).2 ?_
  refine Go.aload_n (pc' := 149) d_method_4_148 rfl rfl rfl ?_
  refine Go.bipush (pc' := 151) d_method_4_149 rfl icb_14 ?_
  refine Go.callV (pc' := 154) (u := N_40) (z := N_40) (a := a) d_method_4_151 rfl (w_224 hw) (w_225 hw) (nf (w_227 hw) rfl) (w_227 hw) (w_226 hw) (by decide) E_a (argsL := [(.int (14 : Int32))]) (rest := []) (Pays.of_met (W := 0) (len := 3) (m_charAt hw hs a t kt z ((PFX ++ us).map Value.int) (14 : Int32) (114 : Int32) h0 E_a F_a_coder F_a_value V_t (⟨by decide, own_ltle (z := (22 : Int32)) (by decide) hz22⟩) (rfl)) (w_228 hw) (w_7 hw) (by decide) (by decide)) rfl rfl (lenOf pd_32 rfl) rfl (Nat.le_of_eq rfl) mem0 (by decide) (by decide) ?_
  rintro _ _ _ - - ⟨rfl, rfl, rfl⟩
  change Go _ _ _ _ _ _ _ _ _ _ _ _ _ _ [] h0 0 0 154 #[.val (.ref a)] [(.int ((114 : Int32) &&& (255 : Int32)).toUInt32.toUInt16.toUInt32.toInt32)]
  refine Go.bipush (pc' := 156) d_method_4_154 rfl icb_114 ?_
  rw [show ((114 : Int32) &&& (255 : Int32)).toUInt32.toUInt16.toUInt32.toInt32 = (114 : Int32) from by decide]
  refine Go.icmpN (pc' := 159) d_method_4_156 rfl (teq (rfl : (114 : Int32) = (114 : Int32))).2 ?_
  refine Go.aload_n (pc' := 160) d_method_4_159 rfl rfl rfl ?_
  refine Go.bipush (pc' := 162) d_method_4_160 rfl icb_15 ?_
  refine Go.callV (pc' := 165) (u := N_40) (z := N_40) (a := a) d_method_4_162 rfl (w_224 hw) (w_225 hw) (nf (w_227 hw) rfl) (w_227 hw) (w_226 hw) (by decide) E_a (argsL := [(.int (15 : Int32))]) (rest := []) (Pays.of_met (W := 0) (len := 3) (m_charAt hw hs a t kt z ((PFX ++ us).map Value.int) (15 : Int32) (103 : Int32) h0 E_a F_a_coder F_a_value V_t (⟨by decide, own_ltle (z := (22 : Int32)) (by decide) hz22⟩) (rfl)) (w_228 hw) (w_7 hw) (by decide) (by decide)) rfl rfl (lenOf pd_32 rfl) rfl (Nat.le_of_eq rfl) mem0 (by decide) (by decide) ?_
  rintro _ _ _ - - ⟨rfl, rfl, rfl⟩
  change Go _ _ _ _ _ _ _ _ _ _ _ _ _ _ [] h0 0 0 165 #[.val (.ref a)] [(.int ((103 : Int32) &&& (255 : Int32)).toUInt32.toUInt16.toUInt32.toInt32)]
  refine Go.bipush (pc' := 167) d_method_4_165 rfl icb_103 ?_
  rw [show ((103 : Int32) &&& (255 : Int32)).toUInt32.toUInt16.toUInt32.toInt32 = (103 : Int32) from by decide]
  refine Go.icmpN (pc' := 170) d_method_4_167 rfl (teq (rfl : (103 : Int32) = (103 : Int32))).2 ?_
  refine Go.aload_n (pc' := 171) d_method_4_170 rfl rfl rfl ?_
  refine Go.bipush (pc' := 173) d_method_4_171 rfl icb_16 ?_
  refine Go.callV (pc' := 176) (u := N_40) (z := N_40) (a := a) d_method_4_173 rfl (w_224 hw) (w_225 hw) (nf (w_227 hw) rfl) (w_227 hw) (w_226 hw) (by decide) E_a (argsL := [(.int (16 : Int32))]) (rest := []) (Pays.of_met (W := 0) (len := 3) (m_charAt hw hs a t kt z ((PFX ++ us).map Value.int) (16 : Int32) (101 : Int32) h0 E_a F_a_coder F_a_value V_t (⟨by decide, own_ltle (z := (22 : Int32)) (by decide) hz22⟩) (rfl)) (w_228 hw) (w_7 hw) (by decide) (by decide)) rfl rfl (lenOf pd_32 rfl) rfl (Nat.le_of_eq rfl) mem0 (by decide) (by decide) ?_
  rintro _ _ _ - - ⟨rfl, rfl, rfl⟩
  change Go _ _ _ _ _ _ _ _ _ _ _ _ _ _ [] h0 0 0 176 #[.val (.ref a)] [(.int ((101 : Int32) &&& (255 : Int32)).toUInt32.toUInt16.toUInt32.toInt32)]
  refine Go.bipush (pc' := 178) d_method_4_176 rfl icb_101 ?_
  rw [show ((101 : Int32) &&& (255 : Int32)).toUInt32.toUInt16.toUInt32.toInt32 = (101 : Int32) from by decide]
  refine Go.icmpN (pc' := 181) d_method_4_178 rfl (teq (rfl : (101 : Int32) = (101 : Int32))).2 ?_
  refine Go.aload_n (pc' := 182) d_method_4_181 rfl rfl rfl ?_
  refine Go.bipush (pc' := 184) d_method_4_182 rfl icb_17 ?_
  refine Go.callV (pc' := 187) (u := N_40) (z := N_40) (a := a) d_method_4_184 rfl (w_224 hw) (w_225 hw) (nf (w_227 hw) rfl) (w_227 hw) (w_226 hw) (by decide) E_a (argsL := [(.int (17 : Int32))]) (rest := []) (Pays.of_met (W := 0) (len := 3) (m_charAt hw hs a t kt z ((PFX ++ us).map Value.int) (17 : Int32) (32 : Int32) h0 E_a F_a_coder F_a_value V_t (⟨by decide, own_ltle (z := (22 : Int32)) (by decide) hz22⟩) (rfl)) (w_228 hw) (w_7 hw) (by decide) (by decide)) rfl rfl (lenOf pd_32 rfl) rfl (Nat.le_of_eq rfl) mem0 (by decide) (by decide) ?_
  rintro _ _ _ - - ⟨rfl, rfl, rfl⟩
  change Go _ _ _ _ _ _ _ _ _ _ _ _ _ _ [] h0 0 0 187 #[.val (.ref a)] [(.int ((32 : Int32) &&& (255 : Int32)).toUInt32.toUInt16.toUInt32.toInt32)]
  refine Go.bipush (pc' := 189) d_method_4_187 rfl icb_32 ?_
  rw [show ((32 : Int32) &&& (255 : Int32)).toUInt32.toUInt16.toUInt32.toInt32 = (32 : Int32) from by decide]
  refine Go.icmpN (pc' := 192) d_method_4_189 rfl (teq (rfl : (32 : Int32) = (32 : Int32))).2 ?_
  refine Go.aload_n (pc' := 193) d_method_4_192 rfl rfl rfl ?_
  refine Go.bipush (pc' := 195) d_method_4_193 rfl icb_18 ?_
  refine Go.callV (pc' := 198) (u := N_40) (z := N_40) (a := a) d_method_4_195 rfl (w_224 hw) (w_225 hw) (nf (w_227 hw) rfl) (w_227 hw) (w_226 hw) (by decide) E_a (argsL := [(.int (18 : Int32))]) (rest := []) (Pays.of_met (W := 0) (len := 3) (m_charAt hw hs a t kt z ((PFX ++ us).map Value.int) (18 : Int32) (102 : Int32) h0 E_a F_a_coder F_a_value V_t (⟨by decide, own_ltle (z := (22 : Int32)) (by decide) hz22⟩) (rfl)) (w_228 hw) (w_7 hw) (by decide) (by decide)) rfl rfl (lenOf pd_32 rfl) rfl (Nat.le_of_eq rfl) mem0 (by decide) (by decide) ?_
  rintro _ _ _ - - ⟨rfl, rfl, rfl⟩
  change Go _ _ _ _ _ _ _ _ _ _ _ _ _ _ [] h0 0 0 198 #[.val (.ref a)] [(.int ((102 : Int32) &&& (255 : Int32)).toUInt32.toUInt16.toUInt32.toInt32)]
  refine Go.bipush (pc' := 200) d_method_4_198 rfl icb_102 ?_
  rw [show ((102 : Int32) &&& (255 : Int32)).toUInt32.toUInt16.toUInt32.toInt32 = (102 : Int32) from by decide]
  refine Go.icmpN (pc' := 203) d_method_4_200 rfl (teq (rfl : (102 : Int32) = (102 : Int32))).2 ?_
  refine Go.aload_n (pc' := 204) d_method_4_203 rfl rfl rfl ?_
  refine Go.bipush (pc' := 206) d_method_4_204 rfl icb_19 ?_
  refine Go.callV (pc' := 209) (u := N_40) (z := N_40) (a := a) d_method_4_206 rfl (w_224 hw) (w_225 hw) (nf (w_227 hw) rfl) (w_227 hw) (w_226 hw) (by decide) E_a (argsL := [(.int (19 : Int32))]) (rest := []) (Pays.of_met (W := 0) (len := 3) (m_charAt hw hs a t kt z ((PFX ++ us).map Value.int) (19 : Int32) (111 : Int32) h0 E_a F_a_coder F_a_value V_t (⟨by decide, own_ltle (z := (22 : Int32)) (by decide) hz22⟩) (rfl)) (w_228 hw) (w_7 hw) (by decide) (by decide)) rfl rfl (lenOf pd_32 rfl) rfl (Nat.le_of_eq rfl) mem0 (by decide) (by decide) ?_
  rintro _ _ _ - - ⟨rfl, rfl, rfl⟩
  change Go _ _ _ _ _ _ _ _ _ _ _ _ _ _ [] h0 0 0 209 #[.val (.ref a)] [(.int ((111 : Int32) &&& (255 : Int32)).toUInt32.toUInt16.toUInt32.toInt32)]
  refine Go.bipush (pc' := 211) d_method_4_209 rfl icb_111 ?_
  rw [show ((111 : Int32) &&& (255 : Int32)).toUInt32.toUInt16.toUInt32.toInt32 = (111 : Int32) from by decide]
  refine Go.icmpN (pc' := 214) d_method_4_211 rfl (teq (rfl : (111 : Int32) = (111 : Int32))).2 ?_
  refine Go.aload_n (pc' := 215) d_method_4_214 rfl rfl rfl ?_
  refine Go.bipush (pc' := 217) d_method_4_215 rfl icb_20 ?_
  refine Go.callV (pc' := 220) (u := N_40) (z := N_40) (a := a) d_method_4_217 rfl (w_224 hw) (w_225 hw) (nf (w_227 hw) rfl) (w_227 hw) (w_226 hw) (by decide) E_a (argsL := [(.int (20 : Int32))]) (rest := []) (Pays.of_met (W := 0) (len := 3) (m_charAt hw hs a t kt z ((PFX ++ us).map Value.int) (20 : Int32) (114 : Int32) h0 E_a F_a_coder F_a_value V_t (⟨by decide, own_ltle (z := (22 : Int32)) (by decide) hz22⟩) (rfl)) (w_228 hw) (w_7 hw) (by decide) (by decide)) rfl rfl (lenOf pd_32 rfl) rfl (Nat.le_of_eq rfl) mem0 (by decide) (by decide) ?_
  rintro _ _ _ - - ⟨rfl, rfl, rfl⟩
  change Go _ _ _ _ _ _ _ _ _ _ _ _ _ _ [] h0 0 0 220 #[.val (.ref a)] [(.int ((114 : Int32) &&& (255 : Int32)).toUInt32.toUInt16.toUInt32.toInt32)]
  refine Go.bipush (pc' := 222) d_method_4_220 rfl icb_114 ?_
  rw [show ((114 : Int32) &&& (255 : Int32)).toUInt32.toUInt16.toUInt32.toInt32 = (114 : Int32) from by decide]
  refine Go.icmpN (pc' := 225) d_method_4_222 rfl (teq (rfl : (114 : Int32) = (114 : Int32))).2 ?_
  refine Go.aload_n (pc' := 226) d_method_4_225 rfl rfl rfl ?_
  refine Go.bipush (pc' := 228) d_method_4_226 rfl icb_21 ?_
  refine Go.callV (pc' := 231) (u := N_40) (z := N_40) (a := a) d_method_4_228 rfl (w_224 hw) (w_225 hw) (nf (w_227 hw) rfl) (w_227 hw) (w_226 hw) (by decide) E_a (argsL := [(.int (21 : Int32))]) (rest := []) (Pays.of_met (W := 0) (len := 3) (m_charAt hw hs a t kt z ((PFX ++ us).map Value.int) (21 : Int32) (32 : Int32) h0 E_a F_a_coder F_a_value V_t (⟨by decide, own_ltle (z := (22 : Int32)) (by decide) hz22⟩) (rfl)) (w_228 hw) (w_7 hw) (by decide) (by decide)) rfl rfl (lenOf pd_32 rfl) rfl (Nat.le_of_eq rfl) mem0 (by decide) (by decide) ?_
  rintro _ _ _ - - ⟨rfl, rfl, rfl⟩
  change Go _ _ _ _ _ _ _ _ _ _ _ _ _ _ [] h0 0 0 231 #[.val (.ref a)] [(.int ((32 : Int32) &&& (255 : Int32)).toUInt32.toUInt16.toUInt32.toInt32)]
  refine Go.bipush (pc' := 233) d_method_4_231 rfl icb_32 ?_
  rw [show ((32 : Int32) &&& (255 : Int32)).toUInt32.toUInt16.toUInt32.toInt32 = (32 : Int32) from by decide]
  refine Go.icmpN (pc' := 236) d_method_4_233 rfl (teq (rfl : (32 : Int32) = (32 : Int32))).2 ?_
  refine Go.iconst (pc' := 237) d_method_4_236 rfl ic_1 ?_
  refine Go.goto (pc' := 241) d_method_4_237 (by decide) (by decide) ?_
  exact Go.retS (ty := .boolean) d_method_4_241 rfl (by simp) rfl (by decide) (by decide) [] sn0 ⟨rfl, rfl, rfl⟩
abbrev Q_m_law (Z : State) (p1 : Int32) (p2 : Int32) (p3 : Int32) (p4 : Int32) (p5 : Int32) (h0 : Heap) : Option Value → Heap → List Addr → Prop := fun res h' SN => res = some (.int (1 : Int32)) ∧ SN = []
set_option maxRecDepth 65536 in
set_option maxHeartbeats 40000000 in
theorem m_lawb00 {l : Launch} {Z : State} {a0 : Array Value} {n0 : Nat} (hw : ∀ d ∈ tables_1, d.before a0 Z = true) (hs : Stat Z) (p1 : Int32) (p2 : Int32) (p3 : Int32) (p4 : Int32) (p5 : Int32) (m0 : Int32) (m1 : Int32) (r0 : Int32) (r1 : Int32) (s1 : Addr) (s2 : Addr) (e3 : Addr) (n4 : Addr) (t4 : Addr) (k4 : ClassId) (h0 h : Heap) (E_n4 : Exa Z h n4 "java/lang/String") (F_n4_coder : Fld Z h n4 "java/lang/String" "coder" "B" (.int (0 : Int32))) (F_n4_value : Fld Z h n4 "java/lang/String" "value" "[B" (.ref t4)) (V_t4 : Arv Z h t4 k4 .byte (24 : Int32) ((PFX ++ (([] : List Int32) ++ ([(58 : Int32), (32 : Int32)] ++ ([] : List Int32)))).map Value.int) (.int (0 : Int32))) (hx_m0 : ¬ m0 < 0 ∧ ¬ 255 < m0) (hx_m1 : ¬ m1 < 0 ∧ ¬ 255 < m1) (hx_r0 : ¬ r0 < 0 ∧ ¬ 255 < r0) (hx_r1 : ¬ r1 < 0 ∧ ¬ 255 < r1) :
    Go l Z EL0 n0 NR0 KN0 x code maxLocals ret room_1 h0 [] (Q_m_law Z p1 p2 p3 p4 p5 h0) [] h 24 4000 120 #[.val (.int p1), .val (.int p2), .val (.int p3), .val (.int p4), .val (.int p5), .val (.int (0 : Int32)), .val (.int (0 : Int32)), .val (.int m0), .val (.int m1), .val (.int r0), .val (.int r1), .val (.ref s1), .val (.ref s2), .val (.ref e3), .val (.ref n4)] [] := by
  refine Go.aload (pc' := 122) at_120 rfl rfl rfl ?_
  refine Go.callS (pc' := 125) (z := N_46) at_122 rfl (w_221 hw) (w_222 hw) (w_3 hw) (w_223 hw) (by decide) (argsL := [(.ref n4)]) (rest := []) (Pays.of_met (W := 0) (len := 3) (m_pfx hw hs n4 t4 k4 (24 : Int32) (([] : List Int32) ++ ([(58 : Int32), (32 : Int32)] ++ ([] : List Int32))) h E_n4 F_n4_coder F_n4_value V_t4 (by decide)) (w_223 hw) (w_3 hw) (by decide) (by decide)) rfl rfl (lenOf pd_33 rfl) rfl (Nat.le_of_eq rfl) mem0 (by decide) (by decide) ?_
  rintro _ _ _ - - ⟨rfl, rfl, rfl⟩
  change Go _ _ _ _ _ _ _ _ _ _ _ _ _ _ [] h 24 4000 125 #[.val (.int p1), .val (.int p2), .val (.int p3), .val (.int p4), .val (.int p5), .val (.int (0 : Int32)), .val (.int (0 : Int32)), .val (.int m0), .val (.int m1), .val (.int r0), .val (.int r1), .val (.ref s1), .val (.ref s2), .val (.ref e3), .val (.ref n4)] [(.int (1 : Int32))]
  refine Go.ifY (pc' := 130) at_125 (by decide) (by decide) ((if0 _ _).trans (feq (by decide : ¬ ((1 : Int32) = (0 : Int32)))).2) ?_
  refine Go.iload (pc' := 132) at_130 rfl rfl ?_
  refine Go.ifY (pc' := 149) at_132 (by decide) (by decide) ((if0 _ _).trans (flt (by decide : ¬ ((0 : Int32) < (0 : Int32)))).2.2.2) ?_
  refine Go.iload (pc' := 151) at_149 rfl rfl ?_
  refine Go.iconst (pc' := 152) at_151 rfl ic_1 ?_
  refine Go.icmpY (pc' := 169) at_152 (by decide) (by decide) (flt (by decide : ¬ ((1 : Int32) < (0 : Int32)))).2.2.2 ?_
  refine Go.aload (pc' := 171) at_169 rfl rfl rfl ?_
  refine Go.bipush (pc' := 173) at_171 rfl icb_22 ?_
  refine Go.iload (pc' := 175) at_173 rfl rfl ?_
  refine Go.iadd (pc' := 176) at_175 rfl ?_
  rw [show ((22 : Int32) + (0 : Int32)) = (22 : Int32) from by decide]
  refine Go.callV (pc' := 179) (u := N_40) (z := N_40) (a := n4) at_176 rfl (w_224 hw) (w_225 hw) (nf (w_227 hw) rfl) (w_227 hw) (w_226 hw) (by decide) E_n4 (argsL := [(.int (22 : Int32))]) (rest := []) (Pays.of_met (W := 0) (len := 3) (m_charAt hw hs n4 t4 k4 (24 : Int32) ((PFX ++ (([] : List Int32) ++ ([(58 : Int32), (32 : Int32)] ++ ([] : List Int32)))).map Value.int) (22 : Int32) (58 : Int32) h E_n4 F_n4_coder F_n4_value V_t4 (⟨by decide, by decide⟩) (rfl)) (w_228 hw) (w_7 hw) (by decide) (by decide)) rfl rfl (lenOf pd_32 rfl) rfl (Nat.le_of_eq rfl) mem0 (by decide) (by decide) ?_
  rintro _ _ _ - - ⟨rfl, rfl, rfl⟩
  change Go _ _ _ _ _ _ _ _ _ _ _ _ _ _ [] h 24 4000 179 #[.val (.int p1), .val (.int p2), .val (.int p3), .val (.int p4), .val (.int p5), .val (.int (0 : Int32)), .val (.int (0 : Int32)), .val (.int m0), .val (.int m1), .val (.int r0), .val (.int r1), .val (.ref s1), .val (.ref s2), .val (.ref e3), .val (.ref n4)] [(.int ((58 : Int32) &&& (255 : Int32)).toUInt32.toUInt16.toUInt32.toInt32)]
  rw [show ((58 : Int32) &&& (255 : Int32)).toUInt32.toUInt16.toUInt32.toInt32 = (58 : Int32) from by decide]
  refine Go.bipush (pc' := 181) at_179 rfl icb_58 ?_
  refine Go.icmpN (pc' := 184) at_181 rfl (teq (rfl : (58 : Int32) = (58 : Int32))).2 ?_
  refine Go.aload (pc' := 186) at_184 rfl rfl rfl ?_
  refine Go.bipush (pc' := 188) at_186 rfl icb_23 ?_
  refine Go.iload (pc' := 190) at_188 rfl rfl ?_
  refine Go.iadd (pc' := 191) at_190 rfl ?_
  rw [show ((23 : Int32) + (0 : Int32)) = (23 : Int32) from by decide]
  refine Go.callV (pc' := 194) (u := N_40) (z := N_40) (a := n4) at_191 rfl (w_224 hw) (w_225 hw) (nf (w_227 hw) rfl) (w_227 hw) (w_226 hw) (by decide) E_n4 (argsL := [(.int (23 : Int32))]) (rest := []) (Pays.of_met (W := 0) (len := 3) (m_charAt hw hs n4 t4 k4 (24 : Int32) ((PFX ++ (([] : List Int32) ++ ([(58 : Int32), (32 : Int32)] ++ ([] : List Int32)))).map Value.int) (23 : Int32) (32 : Int32) h E_n4 F_n4_coder F_n4_value V_t4 (⟨by decide, by decide⟩) (rfl)) (w_228 hw) (w_7 hw) (by decide) (by decide)) rfl rfl (lenOf pd_32 rfl) rfl (Nat.le_of_eq rfl) mem0 (by decide) (by decide) ?_
  rintro _ _ _ - - ⟨rfl, rfl, rfl⟩
  change Go _ _ _ _ _ _ _ _ _ _ _ _ _ _ [] h 24 4000 194 #[.val (.int p1), .val (.int p2), .val (.int p3), .val (.int p4), .val (.int p5), .val (.int (0 : Int32)), .val (.int (0 : Int32)), .val (.int m0), .val (.int m1), .val (.int r0), .val (.int r1), .val (.ref s1), .val (.ref s2), .val (.ref e3), .val (.ref n4)] [(.int ((32 : Int32) &&& (255 : Int32)).toUInt32.toUInt16.toUInt32.toInt32)]
  rw [show ((32 : Int32) &&& (255 : Int32)).toUInt32.toUInt16.toUInt32.toInt32 = (32 : Int32) from by decide]
  refine Go.bipush (pc' := 196) at_194 rfl icb_32 ?_
  refine Go.icmpY (pc' := 201) at_196 (by decide) (by decide) (teq (rfl : (32 : Int32) = (32 : Int32))).1 ?_
  refine Go.iload (pc' := 203) at_201 rfl rfl ?_
  refine Go.ifY (pc' := 223) at_203 (by decide) (by decide) ((if0 _ _).trans (flt (by decide : ¬ ((0 : Int32) < (0 : Int32)))).2.2.2) ?_
  refine Go.iload (pc' := 225) at_223 rfl rfl ?_
  refine Go.iconst (pc' := 226) at_225 rfl ic_1 ?_
  refine Go.icmpY (pc' := 246) at_226 (by decide) (by decide) (flt (by decide : ¬ ((1 : Int32) < (0 : Int32)))).2.2.2 ?_
  refine Go.iconst (pc' := 247) at_246 rfl ic_1 ?_
  exact Go.retS (ty := .boolean) at_247 rfl (by simp) rfl (by decide) (by decide) [] sn0 ⟨rfl, rfl⟩
set_option maxRecDepth 65536 in
set_option maxHeartbeats 40000000 in
theorem m_lawa00 {l : Launch} {Z : State} {a0 : Array Value} {n0 : Nat} (hw : ∀ d ∈ tables_1, d.before a0 Z = true) (hs : Stat Z) (p1 : Int32) (p2 : Int32) (p3 : Int32) (p4 : Int32) (p5 : Int32) (m0 : Int32) (m1 : Int32) (r0 : Int32) (r1 : Int32) (h0 h : Heap) (hx_m0 : ¬ m0 < 0 ∧ ¬ 255 < m0) (hx_m1 : ¬ m1 < 0 ∧ ¬ 255 < m1) (hx_r0 : ¬ r0 < 0 ∧ ¬ 255 < r0) (hx_r1 : ¬ r1 < 0 ∧ ¬ 255 < r1) (hst : l.stackTraces = true) :
    Go l Z EL0 n0 NR0 KN0 x code maxLocals ret room_1 h0 [] (Q_m_law Z p1 p2 p3 p4 p5 h0) [] h 0 0 52 #[.val (.int p1), .val (.int p2), .val (.int p3), .val (.int p4), .val (.int p5), .val (.int (0 : Int32)), .val (.int (0 : Int32)), .val (.int m0), .val (.int m1), .val (.int r0), .val (.int r1), .unset, .unset, .unset, .unset] [] := by
  refine Go.iload (pc' := 54) at_52 rfl rfl ?_
  refine Go.iload (pc' := 56) at_54 rfl rfl ?_
  refine Go.iload (pc' := 58) at_56 rfl rfl ?_
  refine Go.callS (pc' := 61) (z := N_45) at_58 rfl (w_1 hw) (w_2 hw) (w_3 hw) (w_4 hw) (by decide) (argsL := [(.int (0 : Int32)), (.int m0), (.int m1)]) (rest := []) (Pays.of_met (W := 0) (len := 3) (m_mk0 hw hs m0 m1 h (hx_m0) (hx_m1)) (w_4 hw) (w_3 hw) (by decide) (by decide)) rfl rfl (lenOf pd_34 rfl) rfl (Nat.le_of_eq rfl) mem0 (by decide) (by decide) ?_
  rintro _ h366 _ K367 le368 ⟨b363, b364, q365, rfl, rfl, p369, p370, p371, p372⟩
  have E_b363 := p369
  have F_b363_coder := p370
  have F_b363_value := p371
  have V_b364 := p372
  change Go _ _ _ _ _ _ _ _ _ _ _ _ _ _ [] h366 6 12 61 #[.val (.int p1), .val (.int p2), .val (.int p3), .val (.int p4), .val (.int p5), .val (.int (0 : Int32)), .val (.int (0 : Int32)), .val (.int m0), .val (.int m1), .val (.int r0), .val (.int r1), .unset, .unset, .unset, .unset] [(.ref b363)]
  refine Go.astore (pc' := 63) (Ls' := #[.val (.int p1), .val (.int p2), .val (.int p3), .val (.int p4), .val (.int p5), .val (.int (0 : Int32)), .val (.int (0 : Int32)), .val (.int m0), .val (.int m1), .val (.int r0), .val (.int r1), .val (.ref b363), .unset, .unset, .unset]) at_61 rfl rfl rfl ?_
  refine Go.iload (pc' := 65) at_63 rfl rfl ?_
  refine Go.iload (pc' := 67) at_65 rfl rfl ?_
  refine Go.iload (pc' := 69) at_67 rfl rfl ?_
  refine Go.callS (pc' := 72) (z := N_45) at_69 rfl (w_1 hw) (w_2 hw) (w_3 hw) (w_4 hw) (by decide) (argsL := [(.int (0 : Int32)), (.int r0), (.int r1)]) (rest := []) (Pays.of_met (W := 0) (len := 3) (m_mk0 hw hs r0 r1 h366 (hx_r0) (hx_r1)) (w_4 hw) (w_3 hw) (by decide) (by decide)) rfl rfl (lenOf pd_34 rfl) rfl (Nat.le_of_eq rfl) mem0 (by decide) (by decide) ?_
  rintro _ h376 _ K377 le378 ⟨b373, b374, q375, rfl, rfl, p379, p380, p381, p382⟩
  replace E_b363 := E_b363.keep K377
  replace F_b363_coder := F_b363_coder.keep K377 nin0
  replace F_b363_value := F_b363_value.keep K377 nin0
  replace V_b364 := V_b364.keep K377 nin0
  have E_b373 := p379
  have F_b373_coder := p380
  have F_b373_value := p381
  have V_b374 := p382
  change Go _ _ _ _ _ _ _ _ _ _ _ _ _ _ [] h376 12 24 72 #[.val (.int p1), .val (.int p2), .val (.int p3), .val (.int p4), .val (.int p5), .val (.int (0 : Int32)), .val (.int (0 : Int32)), .val (.int m0), .val (.int m1), .val (.int r0), .val (.int r1), .val (.ref b363), .unset, .unset, .unset] [(.ref b373)]
  refine Go.astore (pc' := 74) (Ls' := #[.val (.int p1), .val (.int p2), .val (.int p3), .val (.int p4), .val (.int p5), .val (.int (0 : Int32)), .val (.int (0 : Int32)), .val (.int m0), .val (.int m1), .val (.int r0), .val (.int r1), .val (.ref b363), .val (.ref b373), .unset, .unset]) at_72 rfl rfl rfl ?_
  refine Go.aload (pc' := 76) at_74 rfl rfl rfl ?_
  refine Go.aload (pc' := 78) at_76 rfl rfl rfl ?_
  refine Go.callS (pc' := 81) (z := N_30) at_78 rfl (w_27 hw) (w_28 hw) (w_29 hw) (w_30 hw) (by decide) (argsL := [(.ref b363), (.ref b373)]) (rest := []) (Pays.of_met (W := 0) (len := 3) (m_fm hw hs b363 b364 q365 ([] : List Int32) (0 : Int32) b373 b374 q375 ([] : List Int32) (0 : Int32) h376 E_b363 F_b363_coder F_b363_value V_b364 E_b373 F_b373_coder F_b373_value V_b374 (show (0 : Int32).toNatClampNeg = 0 from by decide) (show (0 : Int32).toNatClampNeg = 0 from by decide) (show 0 ≤ 2 from by decide) (show 0 ≤ 2 from by decide) (hst)) (w_30 hw) (w_29 hw) (by decide) (by decide)) rfl rfl (lenOf pd_35 rfl) rfl (Nat.le_of_eq rfl) mem0 (by decide) (by decide) ?_
  rintro _ h387 _ K388 le389 ⟨b383, b384, b385, q386, rfl, rfl, p390, p391, p392, p393, p394, p395⟩
  replace E_b363 := E_b363.keep K388
  replace F_b363_coder := F_b363_coder.keep K388 nin0
  replace F_b363_value := F_b363_value.keep K388 nin0
  replace V_b364 := V_b364.keep K388 nin0
  replace E_b373 := E_b373.keep K388
  replace F_b373_coder := F_b373_coder.keep K388 nin0
  replace F_b373_value := F_b373_value.keep K388 nin0
  replace V_b374 := V_b374.keep K388 nin0
  have E_b383 := p390
  have F_b383_detailMessage := p391
  have E_b384 := p392
  have F_b384_coder := p393
  have F_b384_value := p394
  have V_b385 := p395
  change Go _ _ _ _ _ _ _ _ _ _ _ _ _ _ [] h387 23 2978 81 #[.val (.int p1), .val (.int p2), .val (.int p3), .val (.int p4), .val (.int p5), .val (.int (0 : Int32)), .val (.int (0 : Int32)), .val (.int m0), .val (.int m1), .val (.int r0), .val (.int r1), .val (.ref b363), .val (.ref b373), .unset, .unset] [(.ref b383)]
  refine Go.astore (pc' := 83) (Ls' := #[.val (.int p1), .val (.int p2), .val (.int p3), .val (.int p4), .val (.int p5), .val (.int (0 : Int32)), .val (.int (0 : Int32)), .val (.int m0), .val (.int m1), .val (.int r0), .val (.int r1), .val (.ref b363), .val (.ref b373), .val (.ref b383), .unset]) at_81 rfl rfl rfl ?_
  refine Go.aload (pc' := 85) at_83 rfl rfl rfl ?_
  refine Go.ifnonnullY (pc' := 90) at_85 (by decide) (by decide) ?_
  refine Go.aload (pc' := 92) at_90 rfl rfl rfl ?_
  refine Go.callU (pc' := 95) (u := N_47) (z := N_29) (owner := "java/lang/Throwable") (a := b383) at_92 rfl (w_214 hw) (w_215 hw) (w_216 hw) (by decide) (w_218 hw) (w_217 hw) E_b383 (argsL := []) (rest := []) (Pays.of_met (W := 0) (len := 3) (m_gm hw hs b383 b384 h387 F_b383_detailMessage) (w_219 hw) (w_175 hw) (by decide) (by decide)) rfl rfl (lenOf pd_20 rfl) rfl (Nat.le_of_eq rfl) mem0 (by decide) (by decide) ?_
  rintro _ _ _ - - ⟨rfl, rfl, rfl⟩
  change Go _ _ _ _ _ _ _ _ _ _ _ _ _ _ [] h387 23 2978 95 #[.val (.int p1), .val (.int p2), .val (.int p3), .val (.int p4), .val (.int p5), .val (.int (0 : Int32)), .val (.int (0 : Int32)), .val (.int m0), .val (.int m1), .val (.int r0), .val (.int r1), .val (.ref b363), .val (.ref b373), .val (.ref b383), .unset] [(.ref b384)]
  refine Go.astore (pc' := 97) (Ls' := #[.val (.int p1), .val (.int p2), .val (.int p3), .val (.int p4), .val (.int p5), .val (.int (0 : Int32)), .val (.int (0 : Int32)), .val (.int m0), .val (.int m1), .val (.int r0), .val (.int r1), .val (.ref b363), .val (.ref b373), .val (.ref b383), .val (.ref b384)]) at_95 rfl rfl rfl ?_
  refine Go.aload (pc' := 99) at_97 rfl rfl rfl ?_
  refine Go.ifnullN (pc' := 102) at_99 rfl ?_
  refine Go.aload (pc' := 104) at_102 rfl rfl rfl ?_
  rw [show ((((22 : Int32) + (0 : Int32)) + (2 : Int32)) + (0 : Int32)) = (24 : Int32) from by decide] at V_b385
  rw [show (((PFX ++ ([] : List Int32)) ++ [(58 : Int32), (32 : Int32)]) ++ ([] : List Int32)) = (PFX ++ (([] : List Int32) ++ ([(58 : Int32), (32 : Int32)] ++ ([] : List Int32)))) from by rw [List.append_assoc, List.append_assoc]] at V_b385
  refine Go.callV (pc' := 107) (u := N_12) (z := N_12) (a := b384) at_104 rfl (w_220 hw) (w_63 hw) (nf (w_65 hw) rfl) (w_65 hw) (w_64 hw) (by decide) E_b384 (argsL := []) (rest := []) (Pays.of_met (W := 0) (len := 3) (m_length hw hs b384 b385 q386 (24 : Int32) ((PFX ++ (([] : List Int32) ++ ([(58 : Int32), (32 : Int32)] ++ ([] : List Int32)))).map Value.int) h387 E_b384 F_b384_coder F_b384_value V_b385) (w_66 hw) (w_7 hw) (by decide) (by decide)) rfl rfl (lenOf pd_8 rfl) rfl (Nat.le_of_eq rfl) mem0 (by decide) (by decide) ?_
  rintro _ _ _ - - ⟨rfl, rfl, rfl⟩
  change Go _ _ _ _ _ _ _ _ _ _ _ _ _ _ [] h387 23 2978 107 #[.val (.int p1), .val (.int p2), .val (.int p3), .val (.int p4), .val (.int p5), .val (.int (0 : Int32)), .val (.int (0 : Int32)), .val (.int m0), .val (.int m1), .val (.int r0), .val (.int r1), .val (.ref b363), .val (.ref b373), .val (.ref b383), .val (.ref b384)] [(.int (24 : Int32))]
  refine Go.bipush (pc' := 109) at_107 rfl icb_24 ?_
  refine Go.iload (pc' := 111) at_109 rfl rfl ?_
  refine Go.iadd (pc' := 112) at_111 rfl ?_
  rw [show ((24 : Int32) + (0 : Int32)) = (24 : Int32) from by decide]
  refine Go.iload (pc' := 114) at_112 rfl rfl ?_
  refine Go.iadd (pc' := 115) at_114 rfl ?_
  rw [show ((24 : Int32) + (0 : Int32)) = (24 : Int32) from by decide]
  refine Go.icmpY (pc' := 120) at_115 (by decide) (by decide) (teq (rfl : (24 : Int32) = (24 : Int32))).1 ?_
  exact Go.more (k' := 24) (n' := 4000) (by decide) (by decide) (Go.fewer mem0 (m_lawb00 hw hs p1 p2 p3 p4 p5 m0 m1 r0 r1 b363 b373 b383 b384 b385 q386 h0 h387 E_b384 F_b384_coder F_b384_value V_b385 (hx_m0) (hx_m1) (hx_r0) (hx_r1)))
set_option maxRecDepth 65536 in
set_option maxHeartbeats 40000000 in
theorem m_lawb01 {l : Launch} {Z : State} {a0 : Array Value} {n0 : Nat} (hw : ∀ d ∈ tables_1, d.before a0 Z = true) (hs : Stat Z) (p1 : Int32) (p2 : Int32) (p3 : Int32) (p4 : Int32) (p5 : Int32) (m0 : Int32) (m1 : Int32) (r0 : Int32) (r1 : Int32) (s1 : Addr) (s2 : Addr) (e3 : Addr) (n4 : Addr) (t4 : Addr) (k4 : ClassId) (h0 h : Heap) (E_n4 : Exa Z h n4 "java/lang/String") (F_n4_coder : Fld Z h n4 "java/lang/String" "coder" "B" (.int (0 : Int32))) (F_n4_value : Fld Z h n4 "java/lang/String" "value" "[B" (.ref t4)) (V_t4 : Arv Z h t4 k4 .byte (25 : Int32) ((PFX ++ (([] : List Int32) ++ ([(58 : Int32), (32 : Int32)] ++ [r0.toInt8.toInt32]))).map Value.int) (.int (0 : Int32))) (hx_m0 : ¬ m0 < 0 ∧ ¬ 255 < m0) (hx_m1 : ¬ m1 < 0 ∧ ¬ 255 < m1) (hx_r0 : ¬ r0 < 0 ∧ ¬ 255 < r0) (hx_r1 : ¬ r1 < 0 ∧ ¬ 255 < r1) :
    Go l Z EL0 n0 NR0 KN0 x code maxLocals ret room_1 h0 [] (Q_m_law Z p1 p2 p3 p4 p5 h0) [] h 24 4000 120 #[.val (.int p1), .val (.int p2), .val (.int p3), .val (.int p4), .val (.int p5), .val (.int (0 : Int32)), .val (.int (1 : Int32)), .val (.int m0), .val (.int m1), .val (.int r0), .val (.int r1), .val (.ref s1), .val (.ref s2), .val (.ref e3), .val (.ref n4)] [] := by
  refine Go.aload (pc' := 122) at_120 rfl rfl rfl ?_
  refine Go.callS (pc' := 125) (z := N_46) at_122 rfl (w_221 hw) (w_222 hw) (w_3 hw) (w_223 hw) (by decide) (argsL := [(.ref n4)]) (rest := []) (Pays.of_met (W := 0) (len := 3) (m_pfx hw hs n4 t4 k4 (25 : Int32) (([] : List Int32) ++ ([(58 : Int32), (32 : Int32)] ++ [r0.toInt8.toInt32])) h E_n4 F_n4_coder F_n4_value V_t4 (by decide)) (w_223 hw) (w_3 hw) (by decide) (by decide)) rfl rfl (lenOf pd_33 rfl) rfl (Nat.le_of_eq rfl) mem0 (by decide) (by decide) ?_
  rintro _ _ _ - - ⟨rfl, rfl, rfl⟩
  change Go _ _ _ _ _ _ _ _ _ _ _ _ _ _ [] h 24 4000 125 #[.val (.int p1), .val (.int p2), .val (.int p3), .val (.int p4), .val (.int p5), .val (.int (0 : Int32)), .val (.int (1 : Int32)), .val (.int m0), .val (.int m1), .val (.int r0), .val (.int r1), .val (.ref s1), .val (.ref s2), .val (.ref e3), .val (.ref n4)] [(.int (1 : Int32))]
  refine Go.ifY (pc' := 130) at_125 (by decide) (by decide) ((if0 _ _).trans (feq (by decide : ¬ ((1 : Int32) = (0 : Int32)))).2) ?_
  refine Go.iload (pc' := 132) at_130 rfl rfl ?_
  refine Go.ifY (pc' := 149) at_132 (by decide) (by decide) ((if0 _ _).trans (flt (by decide : ¬ ((0 : Int32) < (0 : Int32)))).2.2.2) ?_
  refine Go.iload (pc' := 151) at_149 rfl rfl ?_
  refine Go.iconst (pc' := 152) at_151 rfl ic_1 ?_
  refine Go.icmpY (pc' := 169) at_152 (by decide) (by decide) (flt (by decide : ¬ ((1 : Int32) < (0 : Int32)))).2.2.2 ?_
  refine Go.aload (pc' := 171) at_169 rfl rfl rfl ?_
  refine Go.bipush (pc' := 173) at_171 rfl icb_22 ?_
  refine Go.iload (pc' := 175) at_173 rfl rfl ?_
  refine Go.iadd (pc' := 176) at_175 rfl ?_
  rw [show ((22 : Int32) + (0 : Int32)) = (22 : Int32) from by decide]
  refine Go.callV (pc' := 179) (u := N_40) (z := N_40) (a := n4) at_176 rfl (w_224 hw) (w_225 hw) (nf (w_227 hw) rfl) (w_227 hw) (w_226 hw) (by decide) E_n4 (argsL := [(.int (22 : Int32))]) (rest := []) (Pays.of_met (W := 0) (len := 3) (m_charAt hw hs n4 t4 k4 (25 : Int32) ((PFX ++ (([] : List Int32) ++ ([(58 : Int32), (32 : Int32)] ++ [r0.toInt8.toInt32]))).map Value.int) (22 : Int32) (58 : Int32) h E_n4 F_n4_coder F_n4_value V_t4 (⟨by decide, by decide⟩) (rfl)) (w_228 hw) (w_7 hw) (by decide) (by decide)) rfl rfl (lenOf pd_32 rfl) rfl (Nat.le_of_eq rfl) mem0 (by decide) (by decide) ?_
  rintro _ _ _ - - ⟨rfl, rfl, rfl⟩
  change Go _ _ _ _ _ _ _ _ _ _ _ _ _ _ [] h 24 4000 179 #[.val (.int p1), .val (.int p2), .val (.int p3), .val (.int p4), .val (.int p5), .val (.int (0 : Int32)), .val (.int (1 : Int32)), .val (.int m0), .val (.int m1), .val (.int r0), .val (.int r1), .val (.ref s1), .val (.ref s2), .val (.ref e3), .val (.ref n4)] [(.int ((58 : Int32) &&& (255 : Int32)).toUInt32.toUInt16.toUInt32.toInt32)]
  rw [show ((58 : Int32) &&& (255 : Int32)).toUInt32.toUInt16.toUInt32.toInt32 = (58 : Int32) from by decide]
  refine Go.bipush (pc' := 181) at_179 rfl icb_58 ?_
  refine Go.icmpN (pc' := 184) at_181 rfl (teq (rfl : (58 : Int32) = (58 : Int32))).2 ?_
  refine Go.aload (pc' := 186) at_184 rfl rfl rfl ?_
  refine Go.bipush (pc' := 188) at_186 rfl icb_23 ?_
  refine Go.iload (pc' := 190) at_188 rfl rfl ?_
  refine Go.iadd (pc' := 191) at_190 rfl ?_
  rw [show ((23 : Int32) + (0 : Int32)) = (23 : Int32) from by decide]
  refine Go.callV (pc' := 194) (u := N_40) (z := N_40) (a := n4) at_191 rfl (w_224 hw) (w_225 hw) (nf (w_227 hw) rfl) (w_227 hw) (w_226 hw) (by decide) E_n4 (argsL := [(.int (23 : Int32))]) (rest := []) (Pays.of_met (W := 0) (len := 3) (m_charAt hw hs n4 t4 k4 (25 : Int32) ((PFX ++ (([] : List Int32) ++ ([(58 : Int32), (32 : Int32)] ++ [r0.toInt8.toInt32]))).map Value.int) (23 : Int32) (32 : Int32) h E_n4 F_n4_coder F_n4_value V_t4 (⟨by decide, by decide⟩) (rfl)) (w_228 hw) (w_7 hw) (by decide) (by decide)) rfl rfl (lenOf pd_32 rfl) rfl (Nat.le_of_eq rfl) mem0 (by decide) (by decide) ?_
  rintro _ _ _ - - ⟨rfl, rfl, rfl⟩
  change Go _ _ _ _ _ _ _ _ _ _ _ _ _ _ [] h 24 4000 194 #[.val (.int p1), .val (.int p2), .val (.int p3), .val (.int p4), .val (.int p5), .val (.int (0 : Int32)), .val (.int (1 : Int32)), .val (.int m0), .val (.int m1), .val (.int r0), .val (.int r1), .val (.ref s1), .val (.ref s2), .val (.ref e3), .val (.ref n4)] [(.int ((32 : Int32) &&& (255 : Int32)).toUInt32.toUInt16.toUInt32.toInt32)]
  rw [show ((32 : Int32) &&& (255 : Int32)).toUInt32.toUInt16.toUInt32.toInt32 = (32 : Int32) from by decide]
  refine Go.bipush (pc' := 196) at_194 rfl icb_32 ?_
  refine Go.icmpY (pc' := 201) at_196 (by decide) (by decide) (teq (rfl : (32 : Int32) = (32 : Int32))).1 ?_
  refine Go.iload (pc' := 203) at_201 rfl rfl ?_
  refine Go.ifN (pc' := 206) at_203 rfl ((if0 _ _).trans (tlt (by decide : (0 : Int32) < (1 : Int32))).2.2.2) ?_
  refine Go.aload (pc' := 208) at_206 rfl rfl rfl ?_
  refine Go.bipush (pc' := 210) at_208 rfl icb_24 ?_
  refine Go.iload (pc' := 212) at_210 rfl rfl ?_
  refine Go.iadd (pc' := 213) at_212 rfl ?_
  rw [show ((24 : Int32) + (0 : Int32)) = (24 : Int32) from by decide]
  refine Go.callV (pc' := 216) (u := N_40) (z := N_40) (a := n4) at_213 rfl (w_224 hw) (w_225 hw) (nf (w_227 hw) rfl) (w_227 hw) (w_226 hw) (by decide) E_n4 (argsL := [(.int (24 : Int32))]) (rest := []) (Pays.of_met (W := 0) (len := 3) (m_charAt hw hs n4 t4 k4 (25 : Int32) ((PFX ++ (([] : List Int32) ++ ([(58 : Int32), (32 : Int32)] ++ [r0.toInt8.toInt32]))).map Value.int) (24 : Int32) r0.toInt8.toInt32 h E_n4 F_n4_coder F_n4_value V_t4 (⟨by decide, by decide⟩) (rfl)) (w_228 hw) (w_7 hw) (by decide) (by decide)) rfl rfl (lenOf pd_32 rfl) rfl (Nat.le_of_eq rfl) mem0 (by decide) (by decide) ?_
  rintro _ _ _ - - ⟨rfl, rfl, rfl⟩
  change Go _ _ _ _ _ _ _ _ _ _ _ _ _ _ [] h 24 4000 216 #[.val (.int p1), .val (.int p2), .val (.int p3), .val (.int p4), .val (.int p5), .val (.int (0 : Int32)), .val (.int (1 : Int32)), .val (.int m0), .val (.int m1), .val (.int r0), .val (.int r1), .val (.ref s1), .val (.ref s2), .val (.ref e3), .val (.ref n4)] [(.int (r0.toInt8.toInt32 &&& (255 : Int32)).toUInt32.toUInt16.toUInt32.toInt32)]
  rw [own_lowback hx_r0.1 hx_r0.2]
  refine Go.iload (pc' := 218) at_216 rfl rfl ?_
  refine Go.icmpY (pc' := 223) at_218 (by decide) (by decide) (teq (rfl : r0 = r0)).1 ?_
  refine Go.iload (pc' := 225) at_223 rfl rfl ?_
  refine Go.iconst (pc' := 226) at_225 rfl ic_1 ?_
  refine Go.icmpY (pc' := 246) at_226 (by decide) (by decide) (flt (by decide : ¬ ((1 : Int32) < (1 : Int32)))).2.2.2 ?_
  refine Go.iconst (pc' := 247) at_246 rfl ic_1 ?_
  exact Go.retS (ty := .boolean) at_247 rfl (by simp) rfl (by decide) (by decide) [] sn0 ⟨rfl, rfl⟩
set_option maxRecDepth 65536 in
set_option maxHeartbeats 40000000 in
theorem m_lawa01 {l : Launch} {Z : State} {a0 : Array Value} {n0 : Nat} (hw : ∀ d ∈ tables_1, d.before a0 Z = true) (hs : Stat Z) (p1 : Int32) (p2 : Int32) (p3 : Int32) (p4 : Int32) (p5 : Int32) (m0 : Int32) (m1 : Int32) (r0 : Int32) (r1 : Int32) (h0 h : Heap) (hx_m0 : ¬ m0 < 0 ∧ ¬ 255 < m0) (hx_m1 : ¬ m1 < 0 ∧ ¬ 255 < m1) (hx_r0 : ¬ r0 < 0 ∧ ¬ 255 < r0) (hx_r1 : ¬ r1 < 0 ∧ ¬ 255 < r1) (hst : l.stackTraces = true) :
    Go l Z EL0 n0 NR0 KN0 x code maxLocals ret room_1 h0 [] (Q_m_law Z p1 p2 p3 p4 p5 h0) [] h 0 0 52 #[.val (.int p1), .val (.int p2), .val (.int p3), .val (.int p4), .val (.int p5), .val (.int (0 : Int32)), .val (.int (1 : Int32)), .val (.int m0), .val (.int m1), .val (.int r0), .val (.int r1), .unset, .unset, .unset, .unset] [] := by
  refine Go.iload (pc' := 54) at_52 rfl rfl ?_
  refine Go.iload (pc' := 56) at_54 rfl rfl ?_
  refine Go.iload (pc' := 58) at_56 rfl rfl ?_
  refine Go.callS (pc' := 61) (z := N_45) at_58 rfl (w_1 hw) (w_2 hw) (w_3 hw) (w_4 hw) (by decide) (argsL := [(.int (0 : Int32)), (.int m0), (.int m1)]) (rest := []) (Pays.of_met (W := 0) (len := 3) (m_mk0 hw hs m0 m1 h (hx_m0) (hx_m1)) (w_4 hw) (w_3 hw) (by decide) (by decide)) rfl rfl (lenOf pd_34 rfl) rfl (Nat.le_of_eq rfl) mem0 (by decide) (by decide) ?_
  rintro _ h399 _ K400 le401 ⟨b396, b397, q398, rfl, rfl, p402, p403, p404, p405⟩
  have E_b396 := p402
  have F_b396_coder := p403
  have F_b396_value := p404
  have V_b397 := p405
  change Go _ _ _ _ _ _ _ _ _ _ _ _ _ _ [] h399 6 12 61 #[.val (.int p1), .val (.int p2), .val (.int p3), .val (.int p4), .val (.int p5), .val (.int (0 : Int32)), .val (.int (1 : Int32)), .val (.int m0), .val (.int m1), .val (.int r0), .val (.int r1), .unset, .unset, .unset, .unset] [(.ref b396)]
  refine Go.astore (pc' := 63) (Ls' := #[.val (.int p1), .val (.int p2), .val (.int p3), .val (.int p4), .val (.int p5), .val (.int (0 : Int32)), .val (.int (1 : Int32)), .val (.int m0), .val (.int m1), .val (.int r0), .val (.int r1), .val (.ref b396), .unset, .unset, .unset]) at_61 rfl rfl rfl ?_
  refine Go.iload (pc' := 65) at_63 rfl rfl ?_
  refine Go.iload (pc' := 67) at_65 rfl rfl ?_
  refine Go.iload (pc' := 69) at_67 rfl rfl ?_
  refine Go.callS (pc' := 72) (z := N_45) at_69 rfl (w_1 hw) (w_2 hw) (w_3 hw) (w_4 hw) (by decide) (argsL := [(.int (1 : Int32)), (.int r0), (.int r1)]) (rest := []) (Pays.of_met (W := 0) (len := 3) (m_mk1 hw hs r0 r1 h399 (hx_r0) (hx_r1)) (w_4 hw) (w_3 hw) (by decide) (by decide)) rfl rfl (lenOf pd_34 rfl) rfl (Nat.le_of_eq rfl) mem0 (by decide) (by decide) ?_
  rintro _ h409 _ K410 le411 ⟨b406, b407, q408, rfl, rfl, p412, p413, p414, p415⟩
  replace E_b396 := E_b396.keep K410
  replace F_b396_coder := F_b396_coder.keep K410 nin0
  replace F_b396_value := F_b396_value.keep K410 nin0
  replace V_b397 := V_b397.keep K410 nin0
  have E_b406 := p412
  have F_b406_coder := p413
  have F_b406_value := p414
  have V_b407 := p415
  change Go _ _ _ _ _ _ _ _ _ _ _ _ _ _ [] h409 8 17 72 #[.val (.int p1), .val (.int p2), .val (.int p3), .val (.int p4), .val (.int p5), .val (.int (0 : Int32)), .val (.int (1 : Int32)), .val (.int m0), .val (.int m1), .val (.int r0), .val (.int r1), .val (.ref b396), .unset, .unset, .unset] [(.ref b406)]
  refine Go.astore (pc' := 74) (Ls' := #[.val (.int p1), .val (.int p2), .val (.int p3), .val (.int p4), .val (.int p5), .val (.int (0 : Int32)), .val (.int (1 : Int32)), .val (.int m0), .val (.int m1), .val (.int r0), .val (.int r1), .val (.ref b396), .val (.ref b406), .unset, .unset]) at_72 rfl rfl rfl ?_
  refine Go.aload (pc' := 76) at_74 rfl rfl rfl ?_
  refine Go.aload (pc' := 78) at_76 rfl rfl rfl ?_
  refine Go.callS (pc' := 81) (z := N_30) at_78 rfl (w_27 hw) (w_28 hw) (w_29 hw) (w_30 hw) (by decide) (argsL := [(.ref b396), (.ref b406)]) (rest := []) (Pays.of_met (W := 0) (len := 3) (m_fm hw hs b396 b397 q398 ([] : List Int32) (0 : Int32) b406 b407 q408 [r0.toInt8.toInt32] (1 : Int32) h409 E_b396 F_b396_coder F_b396_value V_b397 E_b406 F_b406_coder F_b406_value V_b407 (show (0 : Int32).toNatClampNeg = 0 from by decide) (show (1 : Int32).toNatClampNeg = 1 from by decide) (show 0 ≤ 2 from by decide) (show 1 ≤ 2 from by decide) (hst)) (w_30 hw) (w_29 hw) (by decide) (by decide)) rfl rfl (lenOf pd_35 rfl) rfl (Nat.le_of_eq rfl) mem0 (by decide) (by decide) ?_
  rintro _ h420 _ K421 le422 ⟨b416, b417, b418, q419, rfl, rfl, p423, p424, p425, p426, p427, p428⟩
  replace E_b396 := E_b396.keep K421
  replace F_b396_coder := F_b396_coder.keep K421 nin0
  replace F_b396_value := F_b396_value.keep K421 nin0
  replace V_b397 := V_b397.keep K421 nin0
  replace E_b406 := E_b406.keep K421
  replace F_b406_coder := F_b406_coder.keep K421 nin0
  replace F_b406_value := F_b406_value.keep K421 nin0
  replace V_b407 := V_b407.keep K421 nin0
  have E_b416 := p423
  have F_b416_detailMessage := p424
  have E_b417 := p425
  have F_b417_coder := p426
  have F_b417_value := p427
  have V_b418 := p428
  change Go _ _ _ _ _ _ _ _ _ _ _ _ _ _ [] h420 19 2971 81 #[.val (.int p1), .val (.int p2), .val (.int p3), .val (.int p4), .val (.int p5), .val (.int (0 : Int32)), .val (.int (1 : Int32)), .val (.int m0), .val (.int m1), .val (.int r0), .val (.int r1), .val (.ref b396), .val (.ref b406), .unset, .unset] [(.ref b416)]
  refine Go.astore (pc' := 83) (Ls' := #[.val (.int p1), .val (.int p2), .val (.int p3), .val (.int p4), .val (.int p5), .val (.int (0 : Int32)), .val (.int (1 : Int32)), .val (.int m0), .val (.int m1), .val (.int r0), .val (.int r1), .val (.ref b396), .val (.ref b406), .val (.ref b416), .unset]) at_81 rfl rfl rfl ?_
  refine Go.aload (pc' := 85) at_83 rfl rfl rfl ?_
  refine Go.ifnonnullY (pc' := 90) at_85 (by decide) (by decide) ?_
  refine Go.aload (pc' := 92) at_90 rfl rfl rfl ?_
  refine Go.callU (pc' := 95) (u := N_47) (z := N_29) (owner := "java/lang/Throwable") (a := b416) at_92 rfl (w_214 hw) (w_215 hw) (w_216 hw) (by decide) (w_218 hw) (w_217 hw) E_b416 (argsL := []) (rest := []) (Pays.of_met (W := 0) (len := 3) (m_gm hw hs b416 b417 h420 F_b416_detailMessage) (w_219 hw) (w_175 hw) (by decide) (by decide)) rfl rfl (lenOf pd_20 rfl) rfl (Nat.le_of_eq rfl) mem0 (by decide) (by decide) ?_
  rintro _ _ _ - - ⟨rfl, rfl, rfl⟩
  change Go _ _ _ _ _ _ _ _ _ _ _ _ _ _ [] h420 19 2971 95 #[.val (.int p1), .val (.int p2), .val (.int p3), .val (.int p4), .val (.int p5), .val (.int (0 : Int32)), .val (.int (1 : Int32)), .val (.int m0), .val (.int m1), .val (.int r0), .val (.int r1), .val (.ref b396), .val (.ref b406), .val (.ref b416), .unset] [(.ref b417)]
  refine Go.astore (pc' := 97) (Ls' := #[.val (.int p1), .val (.int p2), .val (.int p3), .val (.int p4), .val (.int p5), .val (.int (0 : Int32)), .val (.int (1 : Int32)), .val (.int m0), .val (.int m1), .val (.int r0), .val (.int r1), .val (.ref b396), .val (.ref b406), .val (.ref b416), .val (.ref b417)]) at_95 rfl rfl rfl ?_
  refine Go.aload (pc' := 99) at_97 rfl rfl rfl ?_
  refine Go.ifnullN (pc' := 102) at_99 rfl ?_
  refine Go.aload (pc' := 104) at_102 rfl rfl rfl ?_
  rw [show ((((22 : Int32) + (0 : Int32)) + (2 : Int32)) + (1 : Int32)) = (25 : Int32) from by decide] at V_b418
  rw [show (((PFX ++ ([] : List Int32)) ++ [(58 : Int32), (32 : Int32)]) ++ [r0.toInt8.toInt32]) = (PFX ++ (([] : List Int32) ++ ([(58 : Int32), (32 : Int32)] ++ [r0.toInt8.toInt32]))) from by rw [List.append_assoc, List.append_assoc]] at V_b418
  refine Go.callV (pc' := 107) (u := N_12) (z := N_12) (a := b417) at_104 rfl (w_220 hw) (w_63 hw) (nf (w_65 hw) rfl) (w_65 hw) (w_64 hw) (by decide) E_b417 (argsL := []) (rest := []) (Pays.of_met (W := 0) (len := 3) (m_length hw hs b417 b418 q419 (25 : Int32) ((PFX ++ (([] : List Int32) ++ ([(58 : Int32), (32 : Int32)] ++ [r0.toInt8.toInt32]))).map Value.int) h420 E_b417 F_b417_coder F_b417_value V_b418) (w_66 hw) (w_7 hw) (by decide) (by decide)) rfl rfl (lenOf pd_8 rfl) rfl (Nat.le_of_eq rfl) mem0 (by decide) (by decide) ?_
  rintro _ _ _ - - ⟨rfl, rfl, rfl⟩
  change Go _ _ _ _ _ _ _ _ _ _ _ _ _ _ [] h420 19 2971 107 #[.val (.int p1), .val (.int p2), .val (.int p3), .val (.int p4), .val (.int p5), .val (.int (0 : Int32)), .val (.int (1 : Int32)), .val (.int m0), .val (.int m1), .val (.int r0), .val (.int r1), .val (.ref b396), .val (.ref b406), .val (.ref b416), .val (.ref b417)] [(.int (25 : Int32))]
  refine Go.bipush (pc' := 109) at_107 rfl icb_24 ?_
  refine Go.iload (pc' := 111) at_109 rfl rfl ?_
  refine Go.iadd (pc' := 112) at_111 rfl ?_
  rw [show ((24 : Int32) + (0 : Int32)) = (24 : Int32) from by decide]
  refine Go.iload (pc' := 114) at_112 rfl rfl ?_
  refine Go.iadd (pc' := 115) at_114 rfl ?_
  rw [show ((24 : Int32) + (1 : Int32)) = (25 : Int32) from by decide]
  refine Go.icmpY (pc' := 120) at_115 (by decide) (by decide) (teq (rfl : (25 : Int32) = (25 : Int32))).1 ?_
  exact Go.more (k' := 24) (n' := 4000) (by decide) (by decide) (Go.fewer mem0 (m_lawb01 hw hs p1 p2 p3 p4 p5 m0 m1 r0 r1 b396 b406 b416 b417 b418 q419 h0 h420 E_b417 F_b417_coder F_b417_value V_b418 (hx_m0) (hx_m1) (hx_r0) (hx_r1)))
set_option maxRecDepth 65536 in
set_option maxHeartbeats 40000000 in
theorem m_lawb02 {l : Launch} {Z : State} {a0 : Array Value} {n0 : Nat} (hw : ∀ d ∈ tables_1, d.before a0 Z = true) (hs : Stat Z) (p1 : Int32) (p2 : Int32) (p3 : Int32) (p4 : Int32) (p5 : Int32) (m0 : Int32) (m1 : Int32) (r0 : Int32) (r1 : Int32) (s1 : Addr) (s2 : Addr) (e3 : Addr) (n4 : Addr) (t4 : Addr) (k4 : ClassId) (h0 h : Heap) (E_n4 : Exa Z h n4 "java/lang/String") (F_n4_coder : Fld Z h n4 "java/lang/String" "coder" "B" (.int (0 : Int32))) (F_n4_value : Fld Z h n4 "java/lang/String" "value" "[B" (.ref t4)) (V_t4 : Arv Z h t4 k4 .byte (26 : Int32) ((PFX ++ (([] : List Int32) ++ ([(58 : Int32), (32 : Int32)] ++ [r0.toInt8.toInt32, r1.toInt8.toInt32]))).map Value.int) (.int (0 : Int32))) (hx_m0 : ¬ m0 < 0 ∧ ¬ 255 < m0) (hx_m1 : ¬ m1 < 0 ∧ ¬ 255 < m1) (hx_r0 : ¬ r0 < 0 ∧ ¬ 255 < r0) (hx_r1 : ¬ r1 < 0 ∧ ¬ 255 < r1) :
    Go l Z EL0 n0 NR0 KN0 x code maxLocals ret room_1 h0 [] (Q_m_law Z p1 p2 p3 p4 p5 h0) [] h 24 4000 120 #[.val (.int p1), .val (.int p2), .val (.int p3), .val (.int p4), .val (.int p5), .val (.int (0 : Int32)), .val (.int (2 : Int32)), .val (.int m0), .val (.int m1), .val (.int r0), .val (.int r1), .val (.ref s1), .val (.ref s2), .val (.ref e3), .val (.ref n4)] [] := by
  refine Go.aload (pc' := 122) at_120 rfl rfl rfl ?_
  refine Go.callS (pc' := 125) (z := N_46) at_122 rfl (w_221 hw) (w_222 hw) (w_3 hw) (w_223 hw) (by decide) (argsL := [(.ref n4)]) (rest := []) (Pays.of_met (W := 0) (len := 3) (m_pfx hw hs n4 t4 k4 (26 : Int32) (([] : List Int32) ++ ([(58 : Int32), (32 : Int32)] ++ [r0.toInt8.toInt32, r1.toInt8.toInt32])) h E_n4 F_n4_coder F_n4_value V_t4 (by decide)) (w_223 hw) (w_3 hw) (by decide) (by decide)) rfl rfl (lenOf pd_33 rfl) rfl (Nat.le_of_eq rfl) mem0 (by decide) (by decide) ?_
  rintro _ _ _ - - ⟨rfl, rfl, rfl⟩
  change Go _ _ _ _ _ _ _ _ _ _ _ _ _ _ [] h 24 4000 125 #[.val (.int p1), .val (.int p2), .val (.int p3), .val (.int p4), .val (.int p5), .val (.int (0 : Int32)), .val (.int (2 : Int32)), .val (.int m0), .val (.int m1), .val (.int r0), .val (.int r1), .val (.ref s1), .val (.ref s2), .val (.ref e3), .val (.ref n4)] [(.int (1 : Int32))]
  refine Go.ifY (pc' := 130) at_125 (by decide) (by decide) ((if0 _ _).trans (feq (by decide : ¬ ((1 : Int32) = (0 : Int32)))).2) ?_
  refine Go.iload (pc' := 132) at_130 rfl rfl ?_
  refine Go.ifY (pc' := 149) at_132 (by decide) (by decide) ((if0 _ _).trans (flt (by decide : ¬ ((0 : Int32) < (0 : Int32)))).2.2.2) ?_
  refine Go.iload (pc' := 151) at_149 rfl rfl ?_
  refine Go.iconst (pc' := 152) at_151 rfl ic_1 ?_
  refine Go.icmpY (pc' := 169) at_152 (by decide) (by decide) (flt (by decide : ¬ ((1 : Int32) < (0 : Int32)))).2.2.2 ?_
  refine Go.aload (pc' := 171) at_169 rfl rfl rfl ?_
  refine Go.bipush (pc' := 173) at_171 rfl icb_22 ?_
  refine Go.iload (pc' := 175) at_173 rfl rfl ?_
  refine Go.iadd (pc' := 176) at_175 rfl ?_
  rw [show ((22 : Int32) + (0 : Int32)) = (22 : Int32) from by decide]
  refine Go.callV (pc' := 179) (u := N_40) (z := N_40) (a := n4) at_176 rfl (w_224 hw) (w_225 hw) (nf (w_227 hw) rfl) (w_227 hw) (w_226 hw) (by decide) E_n4 (argsL := [(.int (22 : Int32))]) (rest := []) (Pays.of_met (W := 0) (len := 3) (m_charAt hw hs n4 t4 k4 (26 : Int32) ((PFX ++ (([] : List Int32) ++ ([(58 : Int32), (32 : Int32)] ++ [r0.toInt8.toInt32, r1.toInt8.toInt32]))).map Value.int) (22 : Int32) (58 : Int32) h E_n4 F_n4_coder F_n4_value V_t4 (⟨by decide, by decide⟩) (rfl)) (w_228 hw) (w_7 hw) (by decide) (by decide)) rfl rfl (lenOf pd_32 rfl) rfl (Nat.le_of_eq rfl) mem0 (by decide) (by decide) ?_
  rintro _ _ _ - - ⟨rfl, rfl, rfl⟩
  change Go _ _ _ _ _ _ _ _ _ _ _ _ _ _ [] h 24 4000 179 #[.val (.int p1), .val (.int p2), .val (.int p3), .val (.int p4), .val (.int p5), .val (.int (0 : Int32)), .val (.int (2 : Int32)), .val (.int m0), .val (.int m1), .val (.int r0), .val (.int r1), .val (.ref s1), .val (.ref s2), .val (.ref e3), .val (.ref n4)] [(.int ((58 : Int32) &&& (255 : Int32)).toUInt32.toUInt16.toUInt32.toInt32)]
  rw [show ((58 : Int32) &&& (255 : Int32)).toUInt32.toUInt16.toUInt32.toInt32 = (58 : Int32) from by decide]
  refine Go.bipush (pc' := 181) at_179 rfl icb_58 ?_
  refine Go.icmpN (pc' := 184) at_181 rfl (teq (rfl : (58 : Int32) = (58 : Int32))).2 ?_
  refine Go.aload (pc' := 186) at_184 rfl rfl rfl ?_
  refine Go.bipush (pc' := 188) at_186 rfl icb_23 ?_
  refine Go.iload (pc' := 190) at_188 rfl rfl ?_
  refine Go.iadd (pc' := 191) at_190 rfl ?_
  rw [show ((23 : Int32) + (0 : Int32)) = (23 : Int32) from by decide]
  refine Go.callV (pc' := 194) (u := N_40) (z := N_40) (a := n4) at_191 rfl (w_224 hw) (w_225 hw) (nf (w_227 hw) rfl) (w_227 hw) (w_226 hw) (by decide) E_n4 (argsL := [(.int (23 : Int32))]) (rest := []) (Pays.of_met (W := 0) (len := 3) (m_charAt hw hs n4 t4 k4 (26 : Int32) ((PFX ++ (([] : List Int32) ++ ([(58 : Int32), (32 : Int32)] ++ [r0.toInt8.toInt32, r1.toInt8.toInt32]))).map Value.int) (23 : Int32) (32 : Int32) h E_n4 F_n4_coder F_n4_value V_t4 (⟨by decide, by decide⟩) (rfl)) (w_228 hw) (w_7 hw) (by decide) (by decide)) rfl rfl (lenOf pd_32 rfl) rfl (Nat.le_of_eq rfl) mem0 (by decide) (by decide) ?_
  rintro _ _ _ - - ⟨rfl, rfl, rfl⟩
  change Go _ _ _ _ _ _ _ _ _ _ _ _ _ _ [] h 24 4000 194 #[.val (.int p1), .val (.int p2), .val (.int p3), .val (.int p4), .val (.int p5), .val (.int (0 : Int32)), .val (.int (2 : Int32)), .val (.int m0), .val (.int m1), .val (.int r0), .val (.int r1), .val (.ref s1), .val (.ref s2), .val (.ref e3), .val (.ref n4)] [(.int ((32 : Int32) &&& (255 : Int32)).toUInt32.toUInt16.toUInt32.toInt32)]
  rw [show ((32 : Int32) &&& (255 : Int32)).toUInt32.toUInt16.toUInt32.toInt32 = (32 : Int32) from by decide]
  refine Go.bipush (pc' := 196) at_194 rfl icb_32 ?_
  refine Go.icmpY (pc' := 201) at_196 (by decide) (by decide) (teq (rfl : (32 : Int32) = (32 : Int32))).1 ?_
  refine Go.iload (pc' := 203) at_201 rfl rfl ?_
  refine Go.ifN (pc' := 206) at_203 rfl ((if0 _ _).trans (tlt (by decide : (0 : Int32) < (2 : Int32))).2.2.2) ?_
  refine Go.aload (pc' := 208) at_206 rfl rfl rfl ?_
  refine Go.bipush (pc' := 210) at_208 rfl icb_24 ?_
  refine Go.iload (pc' := 212) at_210 rfl rfl ?_
  refine Go.iadd (pc' := 213) at_212 rfl ?_
  rw [show ((24 : Int32) + (0 : Int32)) = (24 : Int32) from by decide]
  refine Go.callV (pc' := 216) (u := N_40) (z := N_40) (a := n4) at_213 rfl (w_224 hw) (w_225 hw) (nf (w_227 hw) rfl) (w_227 hw) (w_226 hw) (by decide) E_n4 (argsL := [(.int (24 : Int32))]) (rest := []) (Pays.of_met (W := 0) (len := 3) (m_charAt hw hs n4 t4 k4 (26 : Int32) ((PFX ++ (([] : List Int32) ++ ([(58 : Int32), (32 : Int32)] ++ [r0.toInt8.toInt32, r1.toInt8.toInt32]))).map Value.int) (24 : Int32) r0.toInt8.toInt32 h E_n4 F_n4_coder F_n4_value V_t4 (⟨by decide, by decide⟩) (rfl)) (w_228 hw) (w_7 hw) (by decide) (by decide)) rfl rfl (lenOf pd_32 rfl) rfl (Nat.le_of_eq rfl) mem0 (by decide) (by decide) ?_
  rintro _ _ _ - - ⟨rfl, rfl, rfl⟩
  change Go _ _ _ _ _ _ _ _ _ _ _ _ _ _ [] h 24 4000 216 #[.val (.int p1), .val (.int p2), .val (.int p3), .val (.int p4), .val (.int p5), .val (.int (0 : Int32)), .val (.int (2 : Int32)), .val (.int m0), .val (.int m1), .val (.int r0), .val (.int r1), .val (.ref s1), .val (.ref s2), .val (.ref e3), .val (.ref n4)] [(.int (r0.toInt8.toInt32 &&& (255 : Int32)).toUInt32.toUInt16.toUInt32.toInt32)]
  rw [own_lowback hx_r0.1 hx_r0.2]
  refine Go.iload (pc' := 218) at_216 rfl rfl ?_
  refine Go.icmpY (pc' := 223) at_218 (by decide) (by decide) (teq (rfl : r0 = r0)).1 ?_
  refine Go.iload (pc' := 225) at_223 rfl rfl ?_
  refine Go.iconst (pc' := 226) at_225 rfl ic_1 ?_
  refine Go.icmpN (pc' := 229) at_226 rfl (tlt (by decide : (1 : Int32) < (2 : Int32))).2.2.2 ?_
  refine Go.aload (pc' := 231) at_229 rfl rfl rfl ?_
  refine Go.bipush (pc' := 233) at_231 rfl icb_25 ?_
  refine Go.iload (pc' := 235) at_233 rfl rfl ?_
  refine Go.iadd (pc' := 236) at_235 rfl ?_
  rw [show ((25 : Int32) + (0 : Int32)) = (25 : Int32) from by decide]
  refine Go.callV (pc' := 239) (u := N_40) (z := N_40) (a := n4) at_236 rfl (w_224 hw) (w_225 hw) (nf (w_227 hw) rfl) (w_227 hw) (w_226 hw) (by decide) E_n4 (argsL := [(.int (25 : Int32))]) (rest := []) (Pays.of_met (W := 0) (len := 3) (m_charAt hw hs n4 t4 k4 (26 : Int32) ((PFX ++ (([] : List Int32) ++ ([(58 : Int32), (32 : Int32)] ++ [r0.toInt8.toInt32, r1.toInt8.toInt32]))).map Value.int) (25 : Int32) r1.toInt8.toInt32 h E_n4 F_n4_coder F_n4_value V_t4 (⟨by decide, by decide⟩) (rfl)) (w_228 hw) (w_7 hw) (by decide) (by decide)) rfl rfl (lenOf pd_32 rfl) rfl (Nat.le_of_eq rfl) mem0 (by decide) (by decide) ?_
  rintro _ _ _ - - ⟨rfl, rfl, rfl⟩
  change Go _ _ _ _ _ _ _ _ _ _ _ _ _ _ [] h 24 4000 239 #[.val (.int p1), .val (.int p2), .val (.int p3), .val (.int p4), .val (.int p5), .val (.int (0 : Int32)), .val (.int (2 : Int32)), .val (.int m0), .val (.int m1), .val (.int r0), .val (.int r1), .val (.ref s1), .val (.ref s2), .val (.ref e3), .val (.ref n4)] [(.int (r1.toInt8.toInt32 &&& (255 : Int32)).toUInt32.toUInt16.toUInt32.toInt32)]
  rw [own_lowback hx_r1.1 hx_r1.2]
  refine Go.iload (pc' := 241) at_239 rfl rfl ?_
  refine Go.icmpY (pc' := 246) at_241 (by decide) (by decide) (teq (rfl : r1 = r1)).1 ?_
  refine Go.iconst (pc' := 247) at_246 rfl ic_1 ?_
  exact Go.retS (ty := .boolean) at_247 rfl (by simp) rfl (by decide) (by decide) [] sn0 ⟨rfl, rfl⟩
set_option maxRecDepth 65536 in
set_option maxHeartbeats 40000000 in
theorem m_lawa02 {l : Launch} {Z : State} {a0 : Array Value} {n0 : Nat} (hw : ∀ d ∈ tables_1, d.before a0 Z = true) (hs : Stat Z) (p1 : Int32) (p2 : Int32) (p3 : Int32) (p4 : Int32) (p5 : Int32) (m0 : Int32) (m1 : Int32) (r0 : Int32) (r1 : Int32) (h0 h : Heap) (hx_m0 : ¬ m0 < 0 ∧ ¬ 255 < m0) (hx_m1 : ¬ m1 < 0 ∧ ¬ 255 < m1) (hx_r0 : ¬ r0 < 0 ∧ ¬ 255 < r0) (hx_r1 : ¬ r1 < 0 ∧ ¬ 255 < r1) (hst : l.stackTraces = true) :
    Go l Z EL0 n0 NR0 KN0 x code maxLocals ret room_1 h0 [] (Q_m_law Z p1 p2 p3 p4 p5 h0) [] h 0 0 52 #[.val (.int p1), .val (.int p2), .val (.int p3), .val (.int p4), .val (.int p5), .val (.int (0 : Int32)), .val (.int (2 : Int32)), .val (.int m0), .val (.int m1), .val (.int r0), .val (.int r1), .unset, .unset, .unset, .unset] [] := by
  refine Go.iload (pc' := 54) at_52 rfl rfl ?_
  refine Go.iload (pc' := 56) at_54 rfl rfl ?_
  refine Go.iload (pc' := 58) at_56 rfl rfl ?_
  refine Go.callS (pc' := 61) (z := N_45) at_58 rfl (w_1 hw) (w_2 hw) (w_3 hw) (w_4 hw) (by decide) (argsL := [(.int (0 : Int32)), (.int m0), (.int m1)]) (rest := []) (Pays.of_met (W := 0) (len := 3) (m_mk0 hw hs m0 m1 h (hx_m0) (hx_m1)) (w_4 hw) (w_3 hw) (by decide) (by decide)) rfl rfl (lenOf pd_34 rfl) rfl (Nat.le_of_eq rfl) mem0 (by decide) (by decide) ?_
  rintro _ h432 _ K433 le434 ⟨b429, b430, q431, rfl, rfl, p435, p436, p437, p438⟩
  have E_b429 := p435
  have F_b429_coder := p436
  have F_b429_value := p437
  have V_b430 := p438
  change Go _ _ _ _ _ _ _ _ _ _ _ _ _ _ [] h432 6 12 61 #[.val (.int p1), .val (.int p2), .val (.int p3), .val (.int p4), .val (.int p5), .val (.int (0 : Int32)), .val (.int (2 : Int32)), .val (.int m0), .val (.int m1), .val (.int r0), .val (.int r1), .unset, .unset, .unset, .unset] [(.ref b429)]
  refine Go.astore (pc' := 63) (Ls' := #[.val (.int p1), .val (.int p2), .val (.int p3), .val (.int p4), .val (.int p5), .val (.int (0 : Int32)), .val (.int (2 : Int32)), .val (.int m0), .val (.int m1), .val (.int r0), .val (.int r1), .val (.ref b429), .unset, .unset, .unset]) at_61 rfl rfl rfl ?_
  refine Go.iload (pc' := 65) at_63 rfl rfl ?_
  refine Go.iload (pc' := 67) at_65 rfl rfl ?_
  refine Go.iload (pc' := 69) at_67 rfl rfl ?_
  refine Go.callS (pc' := 72) (z := N_45) at_69 rfl (w_1 hw) (w_2 hw) (w_3 hw) (w_4 hw) (by decide) (argsL := [(.int (2 : Int32)), (.int r0), (.int r1)]) (rest := []) (Pays.of_met (W := 0) (len := 3) (m_mk2 hw hs r0 r1 h432 (hx_r0) (hx_r1)) (w_4 hw) (w_3 hw) (by decide) (by decide)) rfl rfl (lenOf pd_34 rfl) rfl (Nat.le_of_eq rfl) mem0 (by decide) (by decide) ?_
  rintro _ h442 _ K443 le444 ⟨b439, b440, q441, rfl, rfl, p445, p446, p447, p448⟩
  replace E_b429 := E_b429.keep K443
  replace F_b429_coder := F_b429_coder.keep K443 nin0
  replace F_b429_value := F_b429_value.keep K443 nin0
  replace V_b430 := V_b430.keep K443 nin0
  have E_b439 := p445
  have F_b439_coder := p446
  have F_b439_value := p447
  have V_b440 := p448
  change Go _ _ _ _ _ _ _ _ _ _ _ _ _ _ [] h442 9 20 72 #[.val (.int p1), .val (.int p2), .val (.int p3), .val (.int p4), .val (.int p5), .val (.int (0 : Int32)), .val (.int (2 : Int32)), .val (.int m0), .val (.int m1), .val (.int r0), .val (.int r1), .val (.ref b429), .unset, .unset, .unset] [(.ref b439)]
  refine Go.astore (pc' := 74) (Ls' := #[.val (.int p1), .val (.int p2), .val (.int p3), .val (.int p4), .val (.int p5), .val (.int (0 : Int32)), .val (.int (2 : Int32)), .val (.int m0), .val (.int m1), .val (.int r0), .val (.int r1), .val (.ref b429), .val (.ref b439), .unset, .unset]) at_72 rfl rfl rfl ?_
  refine Go.aload (pc' := 76) at_74 rfl rfl rfl ?_
  refine Go.aload (pc' := 78) at_76 rfl rfl rfl ?_
  refine Go.callS (pc' := 81) (z := N_30) at_78 rfl (w_27 hw) (w_28 hw) (w_29 hw) (w_30 hw) (by decide) (argsL := [(.ref b429), (.ref b439)]) (rest := []) (Pays.of_met (W := 0) (len := 3) (m_fm hw hs b429 b430 q431 ([] : List Int32) (0 : Int32) b439 b440 q441 [r0.toInt8.toInt32, r1.toInt8.toInt32] (2 : Int32) h442 E_b429 F_b429_coder F_b429_value V_b430 E_b439 F_b439_coder F_b439_value V_b440 (show (0 : Int32).toNatClampNeg = 0 from by decide) (show (2 : Int32).toNatClampNeg = 2 from by decide) (show 0 ≤ 2 from by decide) (show 2 ≤ 2 from by decide) (hst)) (w_30 hw) (w_29 hw) (by decide) (by decide)) rfl rfl (lenOf pd_35 rfl) rfl (Nat.le_of_eq rfl) mem0 (by decide) (by decide) ?_
  rintro _ h453 _ K454 le455 ⟨b449, b450, b451, q452, rfl, rfl, p456, p457, p458, p459, p460, p461⟩
  replace E_b429 := E_b429.keep K454
  replace F_b429_coder := F_b429_coder.keep K454 nin0
  replace F_b429_value := F_b429_value.keep K454 nin0
  replace V_b430 := V_b430.keep K454 nin0
  replace E_b439 := E_b439.keep K454
  replace F_b439_coder := F_b439_coder.keep K454 nin0
  replace F_b439_value := F_b439_value.keep K454 nin0
  replace V_b440 := V_b440.keep K454 nin0
  have E_b449 := p456
  have F_b449_detailMessage := p457
  have E_b450 := p458
  have F_b450_coder := p459
  have F_b450_value := p460
  have V_b451 := p461
  change Go _ _ _ _ _ _ _ _ _ _ _ _ _ _ [] h453 20 2974 81 #[.val (.int p1), .val (.int p2), .val (.int p3), .val (.int p4), .val (.int p5), .val (.int (0 : Int32)), .val (.int (2 : Int32)), .val (.int m0), .val (.int m1), .val (.int r0), .val (.int r1), .val (.ref b429), .val (.ref b439), .unset, .unset] [(.ref b449)]
  refine Go.astore (pc' := 83) (Ls' := #[.val (.int p1), .val (.int p2), .val (.int p3), .val (.int p4), .val (.int p5), .val (.int (0 : Int32)), .val (.int (2 : Int32)), .val (.int m0), .val (.int m1), .val (.int r0), .val (.int r1), .val (.ref b429), .val (.ref b439), .val (.ref b449), .unset]) at_81 rfl rfl rfl ?_
  refine Go.aload (pc' := 85) at_83 rfl rfl rfl ?_
  refine Go.ifnonnullY (pc' := 90) at_85 (by decide) (by decide) ?_
  refine Go.aload (pc' := 92) at_90 rfl rfl rfl ?_
  refine Go.callU (pc' := 95) (u := N_47) (z := N_29) (owner := "java/lang/Throwable") (a := b449) at_92 rfl (w_214 hw) (w_215 hw) (w_216 hw) (by decide) (w_218 hw) (w_217 hw) E_b449 (argsL := []) (rest := []) (Pays.of_met (W := 0) (len := 3) (m_gm hw hs b449 b450 h453 F_b449_detailMessage) (w_219 hw) (w_175 hw) (by decide) (by decide)) rfl rfl (lenOf pd_20 rfl) rfl (Nat.le_of_eq rfl) mem0 (by decide) (by decide) ?_
  rintro _ _ _ - - ⟨rfl, rfl, rfl⟩
  change Go _ _ _ _ _ _ _ _ _ _ _ _ _ _ [] h453 20 2974 95 #[.val (.int p1), .val (.int p2), .val (.int p3), .val (.int p4), .val (.int p5), .val (.int (0 : Int32)), .val (.int (2 : Int32)), .val (.int m0), .val (.int m1), .val (.int r0), .val (.int r1), .val (.ref b429), .val (.ref b439), .val (.ref b449), .unset] [(.ref b450)]
  refine Go.astore (pc' := 97) (Ls' := #[.val (.int p1), .val (.int p2), .val (.int p3), .val (.int p4), .val (.int p5), .val (.int (0 : Int32)), .val (.int (2 : Int32)), .val (.int m0), .val (.int m1), .val (.int r0), .val (.int r1), .val (.ref b429), .val (.ref b439), .val (.ref b449), .val (.ref b450)]) at_95 rfl rfl rfl ?_
  refine Go.aload (pc' := 99) at_97 rfl rfl rfl ?_
  refine Go.ifnullN (pc' := 102) at_99 rfl ?_
  refine Go.aload (pc' := 104) at_102 rfl rfl rfl ?_
  rw [show ((((22 : Int32) + (0 : Int32)) + (2 : Int32)) + (2 : Int32)) = (26 : Int32) from by decide] at V_b451
  rw [show (((PFX ++ ([] : List Int32)) ++ [(58 : Int32), (32 : Int32)]) ++ [r0.toInt8.toInt32, r1.toInt8.toInt32]) = (PFX ++ (([] : List Int32) ++ ([(58 : Int32), (32 : Int32)] ++ [r0.toInt8.toInt32, r1.toInt8.toInt32]))) from by rw [List.append_assoc, List.append_assoc]] at V_b451
  refine Go.callV (pc' := 107) (u := N_12) (z := N_12) (a := b450) at_104 rfl (w_220 hw) (w_63 hw) (nf (w_65 hw) rfl) (w_65 hw) (w_64 hw) (by decide) E_b450 (argsL := []) (rest := []) (Pays.of_met (W := 0) (len := 3) (m_length hw hs b450 b451 q452 (26 : Int32) ((PFX ++ (([] : List Int32) ++ ([(58 : Int32), (32 : Int32)] ++ [r0.toInt8.toInt32, r1.toInt8.toInt32]))).map Value.int) h453 E_b450 F_b450_coder F_b450_value V_b451) (w_66 hw) (w_7 hw) (by decide) (by decide)) rfl rfl (lenOf pd_8 rfl) rfl (Nat.le_of_eq rfl) mem0 (by decide) (by decide) ?_
  rintro _ _ _ - - ⟨rfl, rfl, rfl⟩
  change Go _ _ _ _ _ _ _ _ _ _ _ _ _ _ [] h453 20 2974 107 #[.val (.int p1), .val (.int p2), .val (.int p3), .val (.int p4), .val (.int p5), .val (.int (0 : Int32)), .val (.int (2 : Int32)), .val (.int m0), .val (.int m1), .val (.int r0), .val (.int r1), .val (.ref b429), .val (.ref b439), .val (.ref b449), .val (.ref b450)] [(.int (26 : Int32))]
  refine Go.bipush (pc' := 109) at_107 rfl icb_24 ?_
  refine Go.iload (pc' := 111) at_109 rfl rfl ?_
  refine Go.iadd (pc' := 112) at_111 rfl ?_
  rw [show ((24 : Int32) + (0 : Int32)) = (24 : Int32) from by decide]
  refine Go.iload (pc' := 114) at_112 rfl rfl ?_
  refine Go.iadd (pc' := 115) at_114 rfl ?_
  rw [show ((24 : Int32) + (2 : Int32)) = (26 : Int32) from by decide]
  refine Go.icmpY (pc' := 120) at_115 (by decide) (by decide) (teq (rfl : (26 : Int32) = (26 : Int32))).1 ?_
  exact Go.more (k' := 24) (n' := 4000) (by decide) (by decide) (Go.fewer mem0 (m_lawb02 hw hs p1 p2 p3 p4 p5 m0 m1 r0 r1 b429 b439 b449 b450 b451 q452 h0 h453 E_b450 F_b450_coder F_b450_value V_b451 (hx_m0) (hx_m1) (hx_r0) (hx_r1)))
set_option maxRecDepth 65536 in
set_option maxHeartbeats 40000000 in
theorem m_lawb10 {l : Launch} {Z : State} {a0 : Array Value} {n0 : Nat} (hw : ∀ d ∈ tables_1, d.before a0 Z = true) (hs : Stat Z) (p1 : Int32) (p2 : Int32) (p3 : Int32) (p4 : Int32) (p5 : Int32) (m0 : Int32) (m1 : Int32) (r0 : Int32) (r1 : Int32) (s1 : Addr) (s2 : Addr) (e3 : Addr) (n4 : Addr) (t4 : Addr) (k4 : ClassId) (h0 h : Heap) (E_n4 : Exa Z h n4 "java/lang/String") (F_n4_coder : Fld Z h n4 "java/lang/String" "coder" "B" (.int (0 : Int32))) (F_n4_value : Fld Z h n4 "java/lang/String" "value" "[B" (.ref t4)) (V_t4 : Arv Z h t4 k4 .byte (25 : Int32) ((PFX ++ ([m0.toInt8.toInt32] ++ ([(58 : Int32), (32 : Int32)] ++ ([] : List Int32)))).map Value.int) (.int (0 : Int32))) (hx_m0 : ¬ m0 < 0 ∧ ¬ 255 < m0) (hx_m1 : ¬ m1 < 0 ∧ ¬ 255 < m1) (hx_r0 : ¬ r0 < 0 ∧ ¬ 255 < r0) (hx_r1 : ¬ r1 < 0 ∧ ¬ 255 < r1) :
    Go l Z EL0 n0 NR0 KN0 x code maxLocals ret room_1 h0 [] (Q_m_law Z p1 p2 p3 p4 p5 h0) [] h 24 4000 120 #[.val (.int p1), .val (.int p2), .val (.int p3), .val (.int p4), .val (.int p5), .val (.int (1 : Int32)), .val (.int (0 : Int32)), .val (.int m0), .val (.int m1), .val (.int r0), .val (.int r1), .val (.ref s1), .val (.ref s2), .val (.ref e3), .val (.ref n4)] [] := by
  refine Go.aload (pc' := 122) at_120 rfl rfl rfl ?_
  refine Go.callS (pc' := 125) (z := N_46) at_122 rfl (w_221 hw) (w_222 hw) (w_3 hw) (w_223 hw) (by decide) (argsL := [(.ref n4)]) (rest := []) (Pays.of_met (W := 0) (len := 3) (m_pfx hw hs n4 t4 k4 (25 : Int32) ([m0.toInt8.toInt32] ++ ([(58 : Int32), (32 : Int32)] ++ ([] : List Int32))) h E_n4 F_n4_coder F_n4_value V_t4 (by decide)) (w_223 hw) (w_3 hw) (by decide) (by decide)) rfl rfl (lenOf pd_33 rfl) rfl (Nat.le_of_eq rfl) mem0 (by decide) (by decide) ?_
  rintro _ _ _ - - ⟨rfl, rfl, rfl⟩
  change Go _ _ _ _ _ _ _ _ _ _ _ _ _ _ [] h 24 4000 125 #[.val (.int p1), .val (.int p2), .val (.int p3), .val (.int p4), .val (.int p5), .val (.int (1 : Int32)), .val (.int (0 : Int32)), .val (.int m0), .val (.int m1), .val (.int r0), .val (.int r1), .val (.ref s1), .val (.ref s2), .val (.ref e3), .val (.ref n4)] [(.int (1 : Int32))]
  refine Go.ifY (pc' := 130) at_125 (by decide) (by decide) ((if0 _ _).trans (feq (by decide : ¬ ((1 : Int32) = (0 : Int32)))).2) ?_
  refine Go.iload (pc' := 132) at_130 rfl rfl ?_
  refine Go.ifN (pc' := 135) at_132 rfl ((if0 _ _).trans (tlt (by decide : (0 : Int32) < (1 : Int32))).2.2.2) ?_
  refine Go.aload (pc' := 137) at_135 rfl rfl rfl ?_
  refine Go.bipush (pc' := 139) at_137 rfl icb_22 ?_
  refine Go.callV (pc' := 142) (u := N_40) (z := N_40) (a := n4) at_139 rfl (w_224 hw) (w_225 hw) (nf (w_227 hw) rfl) (w_227 hw) (w_226 hw) (by decide) E_n4 (argsL := [(.int (22 : Int32))]) (rest := []) (Pays.of_met (W := 0) (len := 3) (m_charAt hw hs n4 t4 k4 (25 : Int32) ((PFX ++ ([m0.toInt8.toInt32] ++ ([(58 : Int32), (32 : Int32)] ++ ([] : List Int32)))).map Value.int) (22 : Int32) m0.toInt8.toInt32 h E_n4 F_n4_coder F_n4_value V_t4 (⟨by decide, by decide⟩) (rfl)) (w_228 hw) (w_7 hw) (by decide) (by decide)) rfl rfl (lenOf pd_32 rfl) rfl (Nat.le_of_eq rfl) mem0 (by decide) (by decide) ?_
  rintro _ _ _ - - ⟨rfl, rfl, rfl⟩
  change Go _ _ _ _ _ _ _ _ _ _ _ _ _ _ [] h 24 4000 142 #[.val (.int p1), .val (.int p2), .val (.int p3), .val (.int p4), .val (.int p5), .val (.int (1 : Int32)), .val (.int (0 : Int32)), .val (.int m0), .val (.int m1), .val (.int r0), .val (.int r1), .val (.ref s1), .val (.ref s2), .val (.ref e3), .val (.ref n4)] [(.int (m0.toInt8.toInt32 &&& (255 : Int32)).toUInt32.toUInt16.toUInt32.toInt32)]
  rw [own_lowback hx_m0.1 hx_m0.2]
  refine Go.iload (pc' := 144) at_142 rfl rfl ?_
  refine Go.icmpY (pc' := 149) at_144 (by decide) (by decide) (teq (rfl : m0 = m0)).1 ?_
  refine Go.iload (pc' := 151) at_149 rfl rfl ?_
  refine Go.iconst (pc' := 152) at_151 rfl ic_1 ?_
  refine Go.icmpY (pc' := 169) at_152 (by decide) (by decide) (flt (by decide : ¬ ((1 : Int32) < (1 : Int32)))).2.2.2 ?_
  refine Go.aload (pc' := 171) at_169 rfl rfl rfl ?_
  refine Go.bipush (pc' := 173) at_171 rfl icb_22 ?_
  refine Go.iload (pc' := 175) at_173 rfl rfl ?_
  refine Go.iadd (pc' := 176) at_175 rfl ?_
  rw [show ((22 : Int32) + (1 : Int32)) = (23 : Int32) from by decide]
  refine Go.callV (pc' := 179) (u := N_40) (z := N_40) (a := n4) at_176 rfl (w_224 hw) (w_225 hw) (nf (w_227 hw) rfl) (w_227 hw) (w_226 hw) (by decide) E_n4 (argsL := [(.int (23 : Int32))]) (rest := []) (Pays.of_met (W := 0) (len := 3) (m_charAt hw hs n4 t4 k4 (25 : Int32) ((PFX ++ ([m0.toInt8.toInt32] ++ ([(58 : Int32), (32 : Int32)] ++ ([] : List Int32)))).map Value.int) (23 : Int32) (58 : Int32) h E_n4 F_n4_coder F_n4_value V_t4 (⟨by decide, by decide⟩) (rfl)) (w_228 hw) (w_7 hw) (by decide) (by decide)) rfl rfl (lenOf pd_32 rfl) rfl (Nat.le_of_eq rfl) mem0 (by decide) (by decide) ?_
  rintro _ _ _ - - ⟨rfl, rfl, rfl⟩
  change Go _ _ _ _ _ _ _ _ _ _ _ _ _ _ [] h 24 4000 179 #[.val (.int p1), .val (.int p2), .val (.int p3), .val (.int p4), .val (.int p5), .val (.int (1 : Int32)), .val (.int (0 : Int32)), .val (.int m0), .val (.int m1), .val (.int r0), .val (.int r1), .val (.ref s1), .val (.ref s2), .val (.ref e3), .val (.ref n4)] [(.int ((58 : Int32) &&& (255 : Int32)).toUInt32.toUInt16.toUInt32.toInt32)]
  rw [show ((58 : Int32) &&& (255 : Int32)).toUInt32.toUInt16.toUInt32.toInt32 = (58 : Int32) from by decide]
  refine Go.bipush (pc' := 181) at_179 rfl icb_58 ?_
  refine Go.icmpN (pc' := 184) at_181 rfl (teq (rfl : (58 : Int32) = (58 : Int32))).2 ?_
  refine Go.aload (pc' := 186) at_184 rfl rfl rfl ?_
  refine Go.bipush (pc' := 188) at_186 rfl icb_23 ?_
  refine Go.iload (pc' := 190) at_188 rfl rfl ?_
  refine Go.iadd (pc' := 191) at_190 rfl ?_
  rw [show ((23 : Int32) + (1 : Int32)) = (24 : Int32) from by decide]
  refine Go.callV (pc' := 194) (u := N_40) (z := N_40) (a := n4) at_191 rfl (w_224 hw) (w_225 hw) (nf (w_227 hw) rfl) (w_227 hw) (w_226 hw) (by decide) E_n4 (argsL := [(.int (24 : Int32))]) (rest := []) (Pays.of_met (W := 0) (len := 3) (m_charAt hw hs n4 t4 k4 (25 : Int32) ((PFX ++ ([m0.toInt8.toInt32] ++ ([(58 : Int32), (32 : Int32)] ++ ([] : List Int32)))).map Value.int) (24 : Int32) (32 : Int32) h E_n4 F_n4_coder F_n4_value V_t4 (⟨by decide, by decide⟩) (rfl)) (w_228 hw) (w_7 hw) (by decide) (by decide)) rfl rfl (lenOf pd_32 rfl) rfl (Nat.le_of_eq rfl) mem0 (by decide) (by decide) ?_
  rintro _ _ _ - - ⟨rfl, rfl, rfl⟩
  change Go _ _ _ _ _ _ _ _ _ _ _ _ _ _ [] h 24 4000 194 #[.val (.int p1), .val (.int p2), .val (.int p3), .val (.int p4), .val (.int p5), .val (.int (1 : Int32)), .val (.int (0 : Int32)), .val (.int m0), .val (.int m1), .val (.int r0), .val (.int r1), .val (.ref s1), .val (.ref s2), .val (.ref e3), .val (.ref n4)] [(.int ((32 : Int32) &&& (255 : Int32)).toUInt32.toUInt16.toUInt32.toInt32)]
  rw [show ((32 : Int32) &&& (255 : Int32)).toUInt32.toUInt16.toUInt32.toInt32 = (32 : Int32) from by decide]
  refine Go.bipush (pc' := 196) at_194 rfl icb_32 ?_
  refine Go.icmpY (pc' := 201) at_196 (by decide) (by decide) (teq (rfl : (32 : Int32) = (32 : Int32))).1 ?_
  refine Go.iload (pc' := 203) at_201 rfl rfl ?_
  refine Go.ifY (pc' := 223) at_203 (by decide) (by decide) ((if0 _ _).trans (flt (by decide : ¬ ((0 : Int32) < (0 : Int32)))).2.2.2) ?_
  refine Go.iload (pc' := 225) at_223 rfl rfl ?_
  refine Go.iconst (pc' := 226) at_225 rfl ic_1 ?_
  refine Go.icmpY (pc' := 246) at_226 (by decide) (by decide) (flt (by decide : ¬ ((1 : Int32) < (0 : Int32)))).2.2.2 ?_
  refine Go.iconst (pc' := 247) at_246 rfl ic_1 ?_
  exact Go.retS (ty := .boolean) at_247 rfl (by simp) rfl (by decide) (by decide) [] sn0 ⟨rfl, rfl⟩
set_option maxRecDepth 65536 in
set_option maxHeartbeats 40000000 in
theorem m_lawa10 {l : Launch} {Z : State} {a0 : Array Value} {n0 : Nat} (hw : ∀ d ∈ tables_1, d.before a0 Z = true) (hs : Stat Z) (p1 : Int32) (p2 : Int32) (p3 : Int32) (p4 : Int32) (p5 : Int32) (m0 : Int32) (m1 : Int32) (r0 : Int32) (r1 : Int32) (h0 h : Heap) (hx_m0 : ¬ m0 < 0 ∧ ¬ 255 < m0) (hx_m1 : ¬ m1 < 0 ∧ ¬ 255 < m1) (hx_r0 : ¬ r0 < 0 ∧ ¬ 255 < r0) (hx_r1 : ¬ r1 < 0 ∧ ¬ 255 < r1) (hst : l.stackTraces = true) :
    Go l Z EL0 n0 NR0 KN0 x code maxLocals ret room_1 h0 [] (Q_m_law Z p1 p2 p3 p4 p5 h0) [] h 0 0 52 #[.val (.int p1), .val (.int p2), .val (.int p3), .val (.int p4), .val (.int p5), .val (.int (1 : Int32)), .val (.int (0 : Int32)), .val (.int m0), .val (.int m1), .val (.int r0), .val (.int r1), .unset, .unset, .unset, .unset] [] := by
  refine Go.iload (pc' := 54) at_52 rfl rfl ?_
  refine Go.iload (pc' := 56) at_54 rfl rfl ?_
  refine Go.iload (pc' := 58) at_56 rfl rfl ?_
  refine Go.callS (pc' := 61) (z := N_45) at_58 rfl (w_1 hw) (w_2 hw) (w_3 hw) (w_4 hw) (by decide) (argsL := [(.int (1 : Int32)), (.int m0), (.int m1)]) (rest := []) (Pays.of_met (W := 0) (len := 3) (m_mk1 hw hs m0 m1 h (hx_m0) (hx_m1)) (w_4 hw) (w_3 hw) (by decide) (by decide)) rfl rfl (lenOf pd_34 rfl) rfl (Nat.le_of_eq rfl) mem0 (by decide) (by decide) ?_
  rintro _ h465 _ K466 le467 ⟨b462, b463, q464, rfl, rfl, p468, p469, p470, p471⟩
  have E_b462 := p468
  have F_b462_coder := p469
  have F_b462_value := p470
  have V_b463 := p471
  change Go _ _ _ _ _ _ _ _ _ _ _ _ _ _ [] h465 2 5 61 #[.val (.int p1), .val (.int p2), .val (.int p3), .val (.int p4), .val (.int p5), .val (.int (1 : Int32)), .val (.int (0 : Int32)), .val (.int m0), .val (.int m1), .val (.int r0), .val (.int r1), .unset, .unset, .unset, .unset] [(.ref b462)]
  refine Go.astore (pc' := 63) (Ls' := #[.val (.int p1), .val (.int p2), .val (.int p3), .val (.int p4), .val (.int p5), .val (.int (1 : Int32)), .val (.int (0 : Int32)), .val (.int m0), .val (.int m1), .val (.int r0), .val (.int r1), .val (.ref b462), .unset, .unset, .unset]) at_61 rfl rfl rfl ?_
  refine Go.iload (pc' := 65) at_63 rfl rfl ?_
  refine Go.iload (pc' := 67) at_65 rfl rfl ?_
  refine Go.iload (pc' := 69) at_67 rfl rfl ?_
  refine Go.callS (pc' := 72) (z := N_45) at_69 rfl (w_1 hw) (w_2 hw) (w_3 hw) (w_4 hw) (by decide) (argsL := [(.int (0 : Int32)), (.int r0), (.int r1)]) (rest := []) (Pays.of_met (W := 0) (len := 3) (m_mk0 hw hs r0 r1 h465 (hx_r0) (hx_r1)) (w_4 hw) (w_3 hw) (by decide) (by decide)) rfl rfl (lenOf pd_34 rfl) rfl (Nat.le_of_eq rfl) mem0 (by decide) (by decide) ?_
  rintro _ h475 _ K476 le477 ⟨b472, b473, q474, rfl, rfl, p478, p479, p480, p481⟩
  replace E_b462 := E_b462.keep K476
  replace F_b462_coder := F_b462_coder.keep K476 nin0
  replace F_b462_value := F_b462_value.keep K476 nin0
  replace V_b463 := V_b463.keep K476 nin0
  have E_b472 := p478
  have F_b472_coder := p479
  have F_b472_value := p480
  have V_b473 := p481
  change Go _ _ _ _ _ _ _ _ _ _ _ _ _ _ [] h475 8 17 72 #[.val (.int p1), .val (.int p2), .val (.int p3), .val (.int p4), .val (.int p5), .val (.int (1 : Int32)), .val (.int (0 : Int32)), .val (.int m0), .val (.int m1), .val (.int r0), .val (.int r1), .val (.ref b462), .unset, .unset, .unset] [(.ref b472)]
  refine Go.astore (pc' := 74) (Ls' := #[.val (.int p1), .val (.int p2), .val (.int p3), .val (.int p4), .val (.int p5), .val (.int (1 : Int32)), .val (.int (0 : Int32)), .val (.int m0), .val (.int m1), .val (.int r0), .val (.int r1), .val (.ref b462), .val (.ref b472), .unset, .unset]) at_72 rfl rfl rfl ?_
  refine Go.aload (pc' := 76) at_74 rfl rfl rfl ?_
  refine Go.aload (pc' := 78) at_76 rfl rfl rfl ?_
  refine Go.callS (pc' := 81) (z := N_30) at_78 rfl (w_27 hw) (w_28 hw) (w_29 hw) (w_30 hw) (by decide) (argsL := [(.ref b462), (.ref b472)]) (rest := []) (Pays.of_met (W := 0) (len := 3) (m_fm hw hs b462 b463 q464 [m0.toInt8.toInt32] (1 : Int32) b472 b473 q474 ([] : List Int32) (0 : Int32) h475 E_b462 F_b462_coder F_b462_value V_b463 E_b472 F_b472_coder F_b472_value V_b473 (show (1 : Int32).toNatClampNeg = 1 from by decide) (show (0 : Int32).toNatClampNeg = 0 from by decide) (show 1 ≤ 2 from by decide) (show 0 ≤ 2 from by decide) (hst)) (w_30 hw) (w_29 hw) (by decide) (by decide)) rfl rfl (lenOf pd_35 rfl) rfl (Nat.le_of_eq rfl) mem0 (by decide) (by decide) ?_
  rintro _ h486 _ K487 le488 ⟨b482, b483, b484, q485, rfl, rfl, p489, p490, p491, p492, p493, p494⟩
  replace E_b462 := E_b462.keep K487
  replace F_b462_coder := F_b462_coder.keep K487 nin0
  replace F_b462_value := F_b462_value.keep K487 nin0
  replace V_b463 := V_b463.keep K487 nin0
  replace E_b472 := E_b472.keep K487
  replace F_b472_coder := F_b472_coder.keep K487 nin0
  replace F_b472_value := F_b472_value.keep K487 nin0
  replace V_b473 := V_b473.keep K487 nin0
  have E_b482 := p489
  have F_b482_detailMessage := p490
  have E_b483 := p491
  have F_b483_coder := p492
  have F_b483_value := p493
  have V_b484 := p494
  change Go _ _ _ _ _ _ _ _ _ _ _ _ _ _ [] h486 19 2971 81 #[.val (.int p1), .val (.int p2), .val (.int p3), .val (.int p4), .val (.int p5), .val (.int (1 : Int32)), .val (.int (0 : Int32)), .val (.int m0), .val (.int m1), .val (.int r0), .val (.int r1), .val (.ref b462), .val (.ref b472), .unset, .unset] [(.ref b482)]
  refine Go.astore (pc' := 83) (Ls' := #[.val (.int p1), .val (.int p2), .val (.int p3), .val (.int p4), .val (.int p5), .val (.int (1 : Int32)), .val (.int (0 : Int32)), .val (.int m0), .val (.int m1), .val (.int r0), .val (.int r1), .val (.ref b462), .val (.ref b472), .val (.ref b482), .unset]) at_81 rfl rfl rfl ?_
  refine Go.aload (pc' := 85) at_83 rfl rfl rfl ?_
  refine Go.ifnonnullY (pc' := 90) at_85 (by decide) (by decide) ?_
  refine Go.aload (pc' := 92) at_90 rfl rfl rfl ?_
  refine Go.callU (pc' := 95) (u := N_47) (z := N_29) (owner := "java/lang/Throwable") (a := b482) at_92 rfl (w_214 hw) (w_215 hw) (w_216 hw) (by decide) (w_218 hw) (w_217 hw) E_b482 (argsL := []) (rest := []) (Pays.of_met (W := 0) (len := 3) (m_gm hw hs b482 b483 h486 F_b482_detailMessage) (w_219 hw) (w_175 hw) (by decide) (by decide)) rfl rfl (lenOf pd_20 rfl) rfl (Nat.le_of_eq rfl) mem0 (by decide) (by decide) ?_
  rintro _ _ _ - - ⟨rfl, rfl, rfl⟩
  change Go _ _ _ _ _ _ _ _ _ _ _ _ _ _ [] h486 19 2971 95 #[.val (.int p1), .val (.int p2), .val (.int p3), .val (.int p4), .val (.int p5), .val (.int (1 : Int32)), .val (.int (0 : Int32)), .val (.int m0), .val (.int m1), .val (.int r0), .val (.int r1), .val (.ref b462), .val (.ref b472), .val (.ref b482), .unset] [(.ref b483)]
  refine Go.astore (pc' := 97) (Ls' := #[.val (.int p1), .val (.int p2), .val (.int p3), .val (.int p4), .val (.int p5), .val (.int (1 : Int32)), .val (.int (0 : Int32)), .val (.int m0), .val (.int m1), .val (.int r0), .val (.int r1), .val (.ref b462), .val (.ref b472), .val (.ref b482), .val (.ref b483)]) at_95 rfl rfl rfl ?_
  refine Go.aload (pc' := 99) at_97 rfl rfl rfl ?_
  refine Go.ifnullN (pc' := 102) at_99 rfl ?_
  refine Go.aload (pc' := 104) at_102 rfl rfl rfl ?_
  rw [show ((((22 : Int32) + (1 : Int32)) + (2 : Int32)) + (0 : Int32)) = (25 : Int32) from by decide] at V_b484
  rw [show (((PFX ++ [m0.toInt8.toInt32]) ++ [(58 : Int32), (32 : Int32)]) ++ ([] : List Int32)) = (PFX ++ ([m0.toInt8.toInt32] ++ ([(58 : Int32), (32 : Int32)] ++ ([] : List Int32)))) from by rw [List.append_assoc, List.append_assoc]] at V_b484
  refine Go.callV (pc' := 107) (u := N_12) (z := N_12) (a := b483) at_104 rfl (w_220 hw) (w_63 hw) (nf (w_65 hw) rfl) (w_65 hw) (w_64 hw) (by decide) E_b483 (argsL := []) (rest := []) (Pays.of_met (W := 0) (len := 3) (m_length hw hs b483 b484 q485 (25 : Int32) ((PFX ++ ([m0.toInt8.toInt32] ++ ([(58 : Int32), (32 : Int32)] ++ ([] : List Int32)))).map Value.int) h486 E_b483 F_b483_coder F_b483_value V_b484) (w_66 hw) (w_7 hw) (by decide) (by decide)) rfl rfl (lenOf pd_8 rfl) rfl (Nat.le_of_eq rfl) mem0 (by decide) (by decide) ?_
  rintro _ _ _ - - ⟨rfl, rfl, rfl⟩
  change Go _ _ _ _ _ _ _ _ _ _ _ _ _ _ [] h486 19 2971 107 #[.val (.int p1), .val (.int p2), .val (.int p3), .val (.int p4), .val (.int p5), .val (.int (1 : Int32)), .val (.int (0 : Int32)), .val (.int m0), .val (.int m1), .val (.int r0), .val (.int r1), .val (.ref b462), .val (.ref b472), .val (.ref b482), .val (.ref b483)] [(.int (25 : Int32))]
  refine Go.bipush (pc' := 109) at_107 rfl icb_24 ?_
  refine Go.iload (pc' := 111) at_109 rfl rfl ?_
  refine Go.iadd (pc' := 112) at_111 rfl ?_
  rw [show ((24 : Int32) + (1 : Int32)) = (25 : Int32) from by decide]
  refine Go.iload (pc' := 114) at_112 rfl rfl ?_
  refine Go.iadd (pc' := 115) at_114 rfl ?_
  rw [show ((25 : Int32) + (0 : Int32)) = (25 : Int32) from by decide]
  refine Go.icmpY (pc' := 120) at_115 (by decide) (by decide) (teq (rfl : (25 : Int32) = (25 : Int32))).1 ?_
  exact Go.more (k' := 24) (n' := 4000) (by decide) (by decide) (Go.fewer mem0 (m_lawb10 hw hs p1 p2 p3 p4 p5 m0 m1 r0 r1 b462 b472 b482 b483 b484 q485 h0 h486 E_b483 F_b483_coder F_b483_value V_b484 (hx_m0) (hx_m1) (hx_r0) (hx_r1)))
set_option maxRecDepth 65536 in
set_option maxHeartbeats 40000000 in
theorem m_lawb11 {l : Launch} {Z : State} {a0 : Array Value} {n0 : Nat} (hw : ∀ d ∈ tables_1, d.before a0 Z = true) (hs : Stat Z) (p1 : Int32) (p2 : Int32) (p3 : Int32) (p4 : Int32) (p5 : Int32) (m0 : Int32) (m1 : Int32) (r0 : Int32) (r1 : Int32) (s1 : Addr) (s2 : Addr) (e3 : Addr) (n4 : Addr) (t4 : Addr) (k4 : ClassId) (h0 h : Heap) (E_n4 : Exa Z h n4 "java/lang/String") (F_n4_coder : Fld Z h n4 "java/lang/String" "coder" "B" (.int (0 : Int32))) (F_n4_value : Fld Z h n4 "java/lang/String" "value" "[B" (.ref t4)) (V_t4 : Arv Z h t4 k4 .byte (26 : Int32) ((PFX ++ ([m0.toInt8.toInt32] ++ ([(58 : Int32), (32 : Int32)] ++ [r0.toInt8.toInt32]))).map Value.int) (.int (0 : Int32))) (hx_m0 : ¬ m0 < 0 ∧ ¬ 255 < m0) (hx_m1 : ¬ m1 < 0 ∧ ¬ 255 < m1) (hx_r0 : ¬ r0 < 0 ∧ ¬ 255 < r0) (hx_r1 : ¬ r1 < 0 ∧ ¬ 255 < r1) :
    Go l Z EL0 n0 NR0 KN0 x code maxLocals ret room_1 h0 [] (Q_m_law Z p1 p2 p3 p4 p5 h0) [] h 24 4000 120 #[.val (.int p1), .val (.int p2), .val (.int p3), .val (.int p4), .val (.int p5), .val (.int (1 : Int32)), .val (.int (1 : Int32)), .val (.int m0), .val (.int m1), .val (.int r0), .val (.int r1), .val (.ref s1), .val (.ref s2), .val (.ref e3), .val (.ref n4)] [] := by
  refine Go.aload (pc' := 122) at_120 rfl rfl rfl ?_
  refine Go.callS (pc' := 125) (z := N_46) at_122 rfl (w_221 hw) (w_222 hw) (w_3 hw) (w_223 hw) (by decide) (argsL := [(.ref n4)]) (rest := []) (Pays.of_met (W := 0) (len := 3) (m_pfx hw hs n4 t4 k4 (26 : Int32) ([m0.toInt8.toInt32] ++ ([(58 : Int32), (32 : Int32)] ++ [r0.toInt8.toInt32])) h E_n4 F_n4_coder F_n4_value V_t4 (by decide)) (w_223 hw) (w_3 hw) (by decide) (by decide)) rfl rfl (lenOf pd_33 rfl) rfl (Nat.le_of_eq rfl) mem0 (by decide) (by decide) ?_
  rintro _ _ _ - - ⟨rfl, rfl, rfl⟩
  change Go _ _ _ _ _ _ _ _ _ _ _ _ _ _ [] h 24 4000 125 #[.val (.int p1), .val (.int p2), .val (.int p3), .val (.int p4), .val (.int p5), .val (.int (1 : Int32)), .val (.int (1 : Int32)), .val (.int m0), .val (.int m1), .val (.int r0), .val (.int r1), .val (.ref s1), .val (.ref s2), .val (.ref e3), .val (.ref n4)] [(.int (1 : Int32))]
  refine Go.ifY (pc' := 130) at_125 (by decide) (by decide) ((if0 _ _).trans (feq (by decide : ¬ ((1 : Int32) = (0 : Int32)))).2) ?_
  refine Go.iload (pc' := 132) at_130 rfl rfl ?_
  refine Go.ifN (pc' := 135) at_132 rfl ((if0 _ _).trans (tlt (by decide : (0 : Int32) < (1 : Int32))).2.2.2) ?_
  refine Go.aload (pc' := 137) at_135 rfl rfl rfl ?_
  refine Go.bipush (pc' := 139) at_137 rfl icb_22 ?_
  refine Go.callV (pc' := 142) (u := N_40) (z := N_40) (a := n4) at_139 rfl (w_224 hw) (w_225 hw) (nf (w_227 hw) rfl) (w_227 hw) (w_226 hw) (by decide) E_n4 (argsL := [(.int (22 : Int32))]) (rest := []) (Pays.of_met (W := 0) (len := 3) (m_charAt hw hs n4 t4 k4 (26 : Int32) ((PFX ++ ([m0.toInt8.toInt32] ++ ([(58 : Int32), (32 : Int32)] ++ [r0.toInt8.toInt32]))).map Value.int) (22 : Int32) m0.toInt8.toInt32 h E_n4 F_n4_coder F_n4_value V_t4 (⟨by decide, by decide⟩) (rfl)) (w_228 hw) (w_7 hw) (by decide) (by decide)) rfl rfl (lenOf pd_32 rfl) rfl (Nat.le_of_eq rfl) mem0 (by decide) (by decide) ?_
  rintro _ _ _ - - ⟨rfl, rfl, rfl⟩
  change Go _ _ _ _ _ _ _ _ _ _ _ _ _ _ [] h 24 4000 142 #[.val (.int p1), .val (.int p2), .val (.int p3), .val (.int p4), .val (.int p5), .val (.int (1 : Int32)), .val (.int (1 : Int32)), .val (.int m0), .val (.int m1), .val (.int r0), .val (.int r1), .val (.ref s1), .val (.ref s2), .val (.ref e3), .val (.ref n4)] [(.int (m0.toInt8.toInt32 &&& (255 : Int32)).toUInt32.toUInt16.toUInt32.toInt32)]
  rw [own_lowback hx_m0.1 hx_m0.2]
  refine Go.iload (pc' := 144) at_142 rfl rfl ?_
  refine Go.icmpY (pc' := 149) at_144 (by decide) (by decide) (teq (rfl : m0 = m0)).1 ?_
  refine Go.iload (pc' := 151) at_149 rfl rfl ?_
  refine Go.iconst (pc' := 152) at_151 rfl ic_1 ?_
  refine Go.icmpY (pc' := 169) at_152 (by decide) (by decide) (flt (by decide : ¬ ((1 : Int32) < (1 : Int32)))).2.2.2 ?_
  refine Go.aload (pc' := 171) at_169 rfl rfl rfl ?_
  refine Go.bipush (pc' := 173) at_171 rfl icb_22 ?_
  refine Go.iload (pc' := 175) at_173 rfl rfl ?_
  refine Go.iadd (pc' := 176) at_175 rfl ?_
  rw [show ((22 : Int32) + (1 : Int32)) = (23 : Int32) from by decide]
  refine Go.callV (pc' := 179) (u := N_40) (z := N_40) (a := n4) at_176 rfl (w_224 hw) (w_225 hw) (nf (w_227 hw) rfl) (w_227 hw) (w_226 hw) (by decide) E_n4 (argsL := [(.int (23 : Int32))]) (rest := []) (Pays.of_met (W := 0) (len := 3) (m_charAt hw hs n4 t4 k4 (26 : Int32) ((PFX ++ ([m0.toInt8.toInt32] ++ ([(58 : Int32), (32 : Int32)] ++ [r0.toInt8.toInt32]))).map Value.int) (23 : Int32) (58 : Int32) h E_n4 F_n4_coder F_n4_value V_t4 (⟨by decide, by decide⟩) (rfl)) (w_228 hw) (w_7 hw) (by decide) (by decide)) rfl rfl (lenOf pd_32 rfl) rfl (Nat.le_of_eq rfl) mem0 (by decide) (by decide) ?_
  rintro _ _ _ - - ⟨rfl, rfl, rfl⟩
  change Go _ _ _ _ _ _ _ _ _ _ _ _ _ _ [] h 24 4000 179 #[.val (.int p1), .val (.int p2), .val (.int p3), .val (.int p4), .val (.int p5), .val (.int (1 : Int32)), .val (.int (1 : Int32)), .val (.int m0), .val (.int m1), .val (.int r0), .val (.int r1), .val (.ref s1), .val (.ref s2), .val (.ref e3), .val (.ref n4)] [(.int ((58 : Int32) &&& (255 : Int32)).toUInt32.toUInt16.toUInt32.toInt32)]
  rw [show ((58 : Int32) &&& (255 : Int32)).toUInt32.toUInt16.toUInt32.toInt32 = (58 : Int32) from by decide]
  refine Go.bipush (pc' := 181) at_179 rfl icb_58 ?_
  refine Go.icmpN (pc' := 184) at_181 rfl (teq (rfl : (58 : Int32) = (58 : Int32))).2 ?_
  refine Go.aload (pc' := 186) at_184 rfl rfl rfl ?_
  refine Go.bipush (pc' := 188) at_186 rfl icb_23 ?_
  refine Go.iload (pc' := 190) at_188 rfl rfl ?_
  refine Go.iadd (pc' := 191) at_190 rfl ?_
  rw [show ((23 : Int32) + (1 : Int32)) = (24 : Int32) from by decide]
  refine Go.callV (pc' := 194) (u := N_40) (z := N_40) (a := n4) at_191 rfl (w_224 hw) (w_225 hw) (nf (w_227 hw) rfl) (w_227 hw) (w_226 hw) (by decide) E_n4 (argsL := [(.int (24 : Int32))]) (rest := []) (Pays.of_met (W := 0) (len := 3) (m_charAt hw hs n4 t4 k4 (26 : Int32) ((PFX ++ ([m0.toInt8.toInt32] ++ ([(58 : Int32), (32 : Int32)] ++ [r0.toInt8.toInt32]))).map Value.int) (24 : Int32) (32 : Int32) h E_n4 F_n4_coder F_n4_value V_t4 (⟨by decide, by decide⟩) (rfl)) (w_228 hw) (w_7 hw) (by decide) (by decide)) rfl rfl (lenOf pd_32 rfl) rfl (Nat.le_of_eq rfl) mem0 (by decide) (by decide) ?_
  rintro _ _ _ - - ⟨rfl, rfl, rfl⟩
  change Go _ _ _ _ _ _ _ _ _ _ _ _ _ _ [] h 24 4000 194 #[.val (.int p1), .val (.int p2), .val (.int p3), .val (.int p4), .val (.int p5), .val (.int (1 : Int32)), .val (.int (1 : Int32)), .val (.int m0), .val (.int m1), .val (.int r0), .val (.int r1), .val (.ref s1), .val (.ref s2), .val (.ref e3), .val (.ref n4)] [(.int ((32 : Int32) &&& (255 : Int32)).toUInt32.toUInt16.toUInt32.toInt32)]
  rw [show ((32 : Int32) &&& (255 : Int32)).toUInt32.toUInt16.toUInt32.toInt32 = (32 : Int32) from by decide]
  refine Go.bipush (pc' := 196) at_194 rfl icb_32 ?_
  refine Go.icmpY (pc' := 201) at_196 (by decide) (by decide) (teq (rfl : (32 : Int32) = (32 : Int32))).1 ?_
  refine Go.iload (pc' := 203) at_201 rfl rfl ?_
  refine Go.ifN (pc' := 206) at_203 rfl ((if0 _ _).trans (tlt (by decide : (0 : Int32) < (1 : Int32))).2.2.2) ?_
  refine Go.aload (pc' := 208) at_206 rfl rfl rfl ?_
  refine Go.bipush (pc' := 210) at_208 rfl icb_24 ?_
  refine Go.iload (pc' := 212) at_210 rfl rfl ?_
  refine Go.iadd (pc' := 213) at_212 rfl ?_
  rw [show ((24 : Int32) + (1 : Int32)) = (25 : Int32) from by decide]
  refine Go.callV (pc' := 216) (u := N_40) (z := N_40) (a := n4) at_213 rfl (w_224 hw) (w_225 hw) (nf (w_227 hw) rfl) (w_227 hw) (w_226 hw) (by decide) E_n4 (argsL := [(.int (25 : Int32))]) (rest := []) (Pays.of_met (W := 0) (len := 3) (m_charAt hw hs n4 t4 k4 (26 : Int32) ((PFX ++ ([m0.toInt8.toInt32] ++ ([(58 : Int32), (32 : Int32)] ++ [r0.toInt8.toInt32]))).map Value.int) (25 : Int32) r0.toInt8.toInt32 h E_n4 F_n4_coder F_n4_value V_t4 (⟨by decide, by decide⟩) (rfl)) (w_228 hw) (w_7 hw) (by decide) (by decide)) rfl rfl (lenOf pd_32 rfl) rfl (Nat.le_of_eq rfl) mem0 (by decide) (by decide) ?_
  rintro _ _ _ - - ⟨rfl, rfl, rfl⟩
  change Go _ _ _ _ _ _ _ _ _ _ _ _ _ _ [] h 24 4000 216 #[.val (.int p1), .val (.int p2), .val (.int p3), .val (.int p4), .val (.int p5), .val (.int (1 : Int32)), .val (.int (1 : Int32)), .val (.int m0), .val (.int m1), .val (.int r0), .val (.int r1), .val (.ref s1), .val (.ref s2), .val (.ref e3), .val (.ref n4)] [(.int (r0.toInt8.toInt32 &&& (255 : Int32)).toUInt32.toUInt16.toUInt32.toInt32)]
  rw [own_lowback hx_r0.1 hx_r0.2]
  refine Go.iload (pc' := 218) at_216 rfl rfl ?_
  refine Go.icmpY (pc' := 223) at_218 (by decide) (by decide) (teq (rfl : r0 = r0)).1 ?_
  refine Go.iload (pc' := 225) at_223 rfl rfl ?_
  refine Go.iconst (pc' := 226) at_225 rfl ic_1 ?_
  refine Go.icmpY (pc' := 246) at_226 (by decide) (by decide) (flt (by decide : ¬ ((1 : Int32) < (1 : Int32)))).2.2.2 ?_
  refine Go.iconst (pc' := 247) at_246 rfl ic_1 ?_
  exact Go.retS (ty := .boolean) at_247 rfl (by simp) rfl (by decide) (by decide) [] sn0 ⟨rfl, rfl⟩
set_option maxRecDepth 65536 in
set_option maxHeartbeats 40000000 in
theorem m_lawa11 {l : Launch} {Z : State} {a0 : Array Value} {n0 : Nat} (hw : ∀ d ∈ tables_1, d.before a0 Z = true) (hs : Stat Z) (p1 : Int32) (p2 : Int32) (p3 : Int32) (p4 : Int32) (p5 : Int32) (m0 : Int32) (m1 : Int32) (r0 : Int32) (r1 : Int32) (h0 h : Heap) (hx_m0 : ¬ m0 < 0 ∧ ¬ 255 < m0) (hx_m1 : ¬ m1 < 0 ∧ ¬ 255 < m1) (hx_r0 : ¬ r0 < 0 ∧ ¬ 255 < r0) (hx_r1 : ¬ r1 < 0 ∧ ¬ 255 < r1) (hst : l.stackTraces = true) :
    Go l Z EL0 n0 NR0 KN0 x code maxLocals ret room_1 h0 [] (Q_m_law Z p1 p2 p3 p4 p5 h0) [] h 0 0 52 #[.val (.int p1), .val (.int p2), .val (.int p3), .val (.int p4), .val (.int p5), .val (.int (1 : Int32)), .val (.int (1 : Int32)), .val (.int m0), .val (.int m1), .val (.int r0), .val (.int r1), .unset, .unset, .unset, .unset] [] := by
  refine Go.iload (pc' := 54) at_52 rfl rfl ?_
  refine Go.iload (pc' := 56) at_54 rfl rfl ?_
  refine Go.iload (pc' := 58) at_56 rfl rfl ?_
  refine Go.callS (pc' := 61) (z := N_45) at_58 rfl (w_1 hw) (w_2 hw) (w_3 hw) (w_4 hw) (by decide) (argsL := [(.int (1 : Int32)), (.int m0), (.int m1)]) (rest := []) (Pays.of_met (W := 0) (len := 3) (m_mk1 hw hs m0 m1 h (hx_m0) (hx_m1)) (w_4 hw) (w_3 hw) (by decide) (by decide)) rfl rfl (lenOf pd_34 rfl) rfl (Nat.le_of_eq rfl) mem0 (by decide) (by decide) ?_
  rintro _ h498 _ K499 le500 ⟨b495, b496, q497, rfl, rfl, p501, p502, p503, p504⟩
  have E_b495 := p501
  have F_b495_coder := p502
  have F_b495_value := p503
  have V_b496 := p504
  change Go _ _ _ _ _ _ _ _ _ _ _ _ _ _ [] h498 2 5 61 #[.val (.int p1), .val (.int p2), .val (.int p3), .val (.int p4), .val (.int p5), .val (.int (1 : Int32)), .val (.int (1 : Int32)), .val (.int m0), .val (.int m1), .val (.int r0), .val (.int r1), .unset, .unset, .unset, .unset] [(.ref b495)]
  refine Go.astore (pc' := 63) (Ls' := #[.val (.int p1), .val (.int p2), .val (.int p3), .val (.int p4), .val (.int p5), .val (.int (1 : Int32)), .val (.int (1 : Int32)), .val (.int m0), .val (.int m1), .val (.int r0), .val (.int r1), .val (.ref b495), .unset, .unset, .unset]) at_61 rfl rfl rfl ?_
  refine Go.iload (pc' := 65) at_63 rfl rfl ?_
  refine Go.iload (pc' := 67) at_65 rfl rfl ?_
  refine Go.iload (pc' := 69) at_67 rfl rfl ?_
  refine Go.callS (pc' := 72) (z := N_45) at_69 rfl (w_1 hw) (w_2 hw) (w_3 hw) (w_4 hw) (by decide) (argsL := [(.int (1 : Int32)), (.int r0), (.int r1)]) (rest := []) (Pays.of_met (W := 0) (len := 3) (m_mk1 hw hs r0 r1 h498 (hx_r0) (hx_r1)) (w_4 hw) (w_3 hw) (by decide) (by decide)) rfl rfl (lenOf pd_34 rfl) rfl (Nat.le_of_eq rfl) mem0 (by decide) (by decide) ?_
  rintro _ h508 _ K509 le510 ⟨b505, b506, q507, rfl, rfl, p511, p512, p513, p514⟩
  replace E_b495 := E_b495.keep K509
  replace F_b495_coder := F_b495_coder.keep K509 nin0
  replace F_b495_value := F_b495_value.keep K509 nin0
  replace V_b496 := V_b496.keep K509 nin0
  have E_b505 := p511
  have F_b505_coder := p512
  have F_b505_value := p513
  have V_b506 := p514
  change Go _ _ _ _ _ _ _ _ _ _ _ _ _ _ [] h508 4 10 72 #[.val (.int p1), .val (.int p2), .val (.int p3), .val (.int p4), .val (.int p5), .val (.int (1 : Int32)), .val (.int (1 : Int32)), .val (.int m0), .val (.int m1), .val (.int r0), .val (.int r1), .val (.ref b495), .unset, .unset, .unset] [(.ref b505)]
  refine Go.astore (pc' := 74) (Ls' := #[.val (.int p1), .val (.int p2), .val (.int p3), .val (.int p4), .val (.int p5), .val (.int (1 : Int32)), .val (.int (1 : Int32)), .val (.int m0), .val (.int m1), .val (.int r0), .val (.int r1), .val (.ref b495), .val (.ref b505), .unset, .unset]) at_72 rfl rfl rfl ?_
  refine Go.aload (pc' := 76) at_74 rfl rfl rfl ?_
  refine Go.aload (pc' := 78) at_76 rfl rfl rfl ?_
  refine Go.callS (pc' := 81) (z := N_30) at_78 rfl (w_27 hw) (w_28 hw) (w_29 hw) (w_30 hw) (by decide) (argsL := [(.ref b495), (.ref b505)]) (rest := []) (Pays.of_met (W := 0) (len := 3) (m_fm hw hs b495 b496 q497 [m0.toInt8.toInt32] (1 : Int32) b505 b506 q507 [r0.toInt8.toInt32] (1 : Int32) h508 E_b495 F_b495_coder F_b495_value V_b496 E_b505 F_b505_coder F_b505_value V_b506 (show (1 : Int32).toNatClampNeg = 1 from by decide) (show (1 : Int32).toNatClampNeg = 1 from by decide) (show 1 ≤ 2 from by decide) (show 1 ≤ 2 from by decide) (hst)) (w_30 hw) (w_29 hw) (by decide) (by decide)) rfl rfl (lenOf pd_35 rfl) rfl (Nat.le_of_eq rfl) mem0 (by decide) (by decide) ?_
  rintro _ h519 _ K520 le521 ⟨b515, b516, b517, q518, rfl, rfl, p522, p523, p524, p525, p526, p527⟩
  replace E_b495 := E_b495.keep K520
  replace F_b495_coder := F_b495_coder.keep K520 nin0
  replace F_b495_value := F_b495_value.keep K520 nin0
  replace V_b496 := V_b496.keep K520 nin0
  replace E_b505 := E_b505.keep K520
  replace F_b505_coder := F_b505_coder.keep K520 nin0
  replace F_b505_value := F_b505_value.keep K520 nin0
  replace V_b506 := V_b506.keep K520 nin0
  have E_b515 := p522
  have F_b515_detailMessage := p523
  have E_b516 := p524
  have F_b516_coder := p525
  have F_b516_value := p526
  have V_b517 := p527
  change Go _ _ _ _ _ _ _ _ _ _ _ _ _ _ [] h519 15 2964 81 #[.val (.int p1), .val (.int p2), .val (.int p3), .val (.int p4), .val (.int p5), .val (.int (1 : Int32)), .val (.int (1 : Int32)), .val (.int m0), .val (.int m1), .val (.int r0), .val (.int r1), .val (.ref b495), .val (.ref b505), .unset, .unset] [(.ref b515)]
  refine Go.astore (pc' := 83) (Ls' := #[.val (.int p1), .val (.int p2), .val (.int p3), .val (.int p4), .val (.int p5), .val (.int (1 : Int32)), .val (.int (1 : Int32)), .val (.int m0), .val (.int m1), .val (.int r0), .val (.int r1), .val (.ref b495), .val (.ref b505), .val (.ref b515), .unset]) at_81 rfl rfl rfl ?_
  refine Go.aload (pc' := 85) at_83 rfl rfl rfl ?_
  refine Go.ifnonnullY (pc' := 90) at_85 (by decide) (by decide) ?_
  refine Go.aload (pc' := 92) at_90 rfl rfl rfl ?_
  refine Go.callU (pc' := 95) (u := N_47) (z := N_29) (owner := "java/lang/Throwable") (a := b515) at_92 rfl (w_214 hw) (w_215 hw) (w_216 hw) (by decide) (w_218 hw) (w_217 hw) E_b515 (argsL := []) (rest := []) (Pays.of_met (W := 0) (len := 3) (m_gm hw hs b515 b516 h519 F_b515_detailMessage) (w_219 hw) (w_175 hw) (by decide) (by decide)) rfl rfl (lenOf pd_20 rfl) rfl (Nat.le_of_eq rfl) mem0 (by decide) (by decide) ?_
  rintro _ _ _ - - ⟨rfl, rfl, rfl⟩
  change Go _ _ _ _ _ _ _ _ _ _ _ _ _ _ [] h519 15 2964 95 #[.val (.int p1), .val (.int p2), .val (.int p3), .val (.int p4), .val (.int p5), .val (.int (1 : Int32)), .val (.int (1 : Int32)), .val (.int m0), .val (.int m1), .val (.int r0), .val (.int r1), .val (.ref b495), .val (.ref b505), .val (.ref b515), .unset] [(.ref b516)]
  refine Go.astore (pc' := 97) (Ls' := #[.val (.int p1), .val (.int p2), .val (.int p3), .val (.int p4), .val (.int p5), .val (.int (1 : Int32)), .val (.int (1 : Int32)), .val (.int m0), .val (.int m1), .val (.int r0), .val (.int r1), .val (.ref b495), .val (.ref b505), .val (.ref b515), .val (.ref b516)]) at_95 rfl rfl rfl ?_
  refine Go.aload (pc' := 99) at_97 rfl rfl rfl ?_
  refine Go.ifnullN (pc' := 102) at_99 rfl ?_
  refine Go.aload (pc' := 104) at_102 rfl rfl rfl ?_
  rw [show ((((22 : Int32) + (1 : Int32)) + (2 : Int32)) + (1 : Int32)) = (26 : Int32) from by decide] at V_b517
  rw [show (((PFX ++ [m0.toInt8.toInt32]) ++ [(58 : Int32), (32 : Int32)]) ++ [r0.toInt8.toInt32]) = (PFX ++ ([m0.toInt8.toInt32] ++ ([(58 : Int32), (32 : Int32)] ++ [r0.toInt8.toInt32]))) from by rw [List.append_assoc, List.append_assoc]] at V_b517
  refine Go.callV (pc' := 107) (u := N_12) (z := N_12) (a := b516) at_104 rfl (w_220 hw) (w_63 hw) (nf (w_65 hw) rfl) (w_65 hw) (w_64 hw) (by decide) E_b516 (argsL := []) (rest := []) (Pays.of_met (W := 0) (len := 3) (m_length hw hs b516 b517 q518 (26 : Int32) ((PFX ++ ([m0.toInt8.toInt32] ++ ([(58 : Int32), (32 : Int32)] ++ [r0.toInt8.toInt32]))).map Value.int) h519 E_b516 F_b516_coder F_b516_value V_b517) (w_66 hw) (w_7 hw) (by decide) (by decide)) rfl rfl (lenOf pd_8 rfl) rfl (Nat.le_of_eq rfl) mem0 (by decide) (by decide) ?_
  rintro _ _ _ - - ⟨rfl, rfl, rfl⟩
  change Go _ _ _ _ _ _ _ _ _ _ _ _ _ _ [] h519 15 2964 107 #[.val (.int p1), .val (.int p2), .val (.int p3), .val (.int p4), .val (.int p5), .val (.int (1 : Int32)), .val (.int (1 : Int32)), .val (.int m0), .val (.int m1), .val (.int r0), .val (.int r1), .val (.ref b495), .val (.ref b505), .val (.ref b515), .val (.ref b516)] [(.int (26 : Int32))]
  refine Go.bipush (pc' := 109) at_107 rfl icb_24 ?_
  refine Go.iload (pc' := 111) at_109 rfl rfl ?_
  refine Go.iadd (pc' := 112) at_111 rfl ?_
  rw [show ((24 : Int32) + (1 : Int32)) = (25 : Int32) from by decide]
  refine Go.iload (pc' := 114) at_112 rfl rfl ?_
  refine Go.iadd (pc' := 115) at_114 rfl ?_
  rw [show ((25 : Int32) + (1 : Int32)) = (26 : Int32) from by decide]
  refine Go.icmpY (pc' := 120) at_115 (by decide) (by decide) (teq (rfl : (26 : Int32) = (26 : Int32))).1 ?_
  exact Go.more (k' := 24) (n' := 4000) (by decide) (by decide) (Go.fewer mem0 (m_lawb11 hw hs p1 p2 p3 p4 p5 m0 m1 r0 r1 b495 b505 b515 b516 b517 q518 h0 h519 E_b516 F_b516_coder F_b516_value V_b517 (hx_m0) (hx_m1) (hx_r0) (hx_r1)))
set_option maxRecDepth 65536 in
set_option maxHeartbeats 40000000 in
theorem m_lawb12 {l : Launch} {Z : State} {a0 : Array Value} {n0 : Nat} (hw : ∀ d ∈ tables_1, d.before a0 Z = true) (hs : Stat Z) (p1 : Int32) (p2 : Int32) (p3 : Int32) (p4 : Int32) (p5 : Int32) (m0 : Int32) (m1 : Int32) (r0 : Int32) (r1 : Int32) (s1 : Addr) (s2 : Addr) (e3 : Addr) (n4 : Addr) (t4 : Addr) (k4 : ClassId) (h0 h : Heap) (E_n4 : Exa Z h n4 "java/lang/String") (F_n4_coder : Fld Z h n4 "java/lang/String" "coder" "B" (.int (0 : Int32))) (F_n4_value : Fld Z h n4 "java/lang/String" "value" "[B" (.ref t4)) (V_t4 : Arv Z h t4 k4 .byte (27 : Int32) ((PFX ++ ([m0.toInt8.toInt32] ++ ([(58 : Int32), (32 : Int32)] ++ [r0.toInt8.toInt32, r1.toInt8.toInt32]))).map Value.int) (.int (0 : Int32))) (hx_m0 : ¬ m0 < 0 ∧ ¬ 255 < m0) (hx_m1 : ¬ m1 < 0 ∧ ¬ 255 < m1) (hx_r0 : ¬ r0 < 0 ∧ ¬ 255 < r0) (hx_r1 : ¬ r1 < 0 ∧ ¬ 255 < r1) :
    Go l Z EL0 n0 NR0 KN0 x code maxLocals ret room_1 h0 [] (Q_m_law Z p1 p2 p3 p4 p5 h0) [] h 24 4000 120 #[.val (.int p1), .val (.int p2), .val (.int p3), .val (.int p4), .val (.int p5), .val (.int (1 : Int32)), .val (.int (2 : Int32)), .val (.int m0), .val (.int m1), .val (.int r0), .val (.int r1), .val (.ref s1), .val (.ref s2), .val (.ref e3), .val (.ref n4)] [] := by
  refine Go.aload (pc' := 122) at_120 rfl rfl rfl ?_
  refine Go.callS (pc' := 125) (z := N_46) at_122 rfl (w_221 hw) (w_222 hw) (w_3 hw) (w_223 hw) (by decide) (argsL := [(.ref n4)]) (rest := []) (Pays.of_met (W := 0) (len := 3) (m_pfx hw hs n4 t4 k4 (27 : Int32) ([m0.toInt8.toInt32] ++ ([(58 : Int32), (32 : Int32)] ++ [r0.toInt8.toInt32, r1.toInt8.toInt32])) h E_n4 F_n4_coder F_n4_value V_t4 (by decide)) (w_223 hw) (w_3 hw) (by decide) (by decide)) rfl rfl (lenOf pd_33 rfl) rfl (Nat.le_of_eq rfl) mem0 (by decide) (by decide) ?_
  rintro _ _ _ - - ⟨rfl, rfl, rfl⟩
  change Go _ _ _ _ _ _ _ _ _ _ _ _ _ _ [] h 24 4000 125 #[.val (.int p1), .val (.int p2), .val (.int p3), .val (.int p4), .val (.int p5), .val (.int (1 : Int32)), .val (.int (2 : Int32)), .val (.int m0), .val (.int m1), .val (.int r0), .val (.int r1), .val (.ref s1), .val (.ref s2), .val (.ref e3), .val (.ref n4)] [(.int (1 : Int32))]
  refine Go.ifY (pc' := 130) at_125 (by decide) (by decide) ((if0 _ _).trans (feq (by decide : ¬ ((1 : Int32) = (0 : Int32)))).2) ?_
  refine Go.iload (pc' := 132) at_130 rfl rfl ?_
  refine Go.ifN (pc' := 135) at_132 rfl ((if0 _ _).trans (tlt (by decide : (0 : Int32) < (1 : Int32))).2.2.2) ?_
  refine Go.aload (pc' := 137) at_135 rfl rfl rfl ?_
  refine Go.bipush (pc' := 139) at_137 rfl icb_22 ?_
  refine Go.callV (pc' := 142) (u := N_40) (z := N_40) (a := n4) at_139 rfl (w_224 hw) (w_225 hw) (nf (w_227 hw) rfl) (w_227 hw) (w_226 hw) (by decide) E_n4 (argsL := [(.int (22 : Int32))]) (rest := []) (Pays.of_met (W := 0) (len := 3) (m_charAt hw hs n4 t4 k4 (27 : Int32) ((PFX ++ ([m0.toInt8.toInt32] ++ ([(58 : Int32), (32 : Int32)] ++ [r0.toInt8.toInt32, r1.toInt8.toInt32]))).map Value.int) (22 : Int32) m0.toInt8.toInt32 h E_n4 F_n4_coder F_n4_value V_t4 (⟨by decide, by decide⟩) (rfl)) (w_228 hw) (w_7 hw) (by decide) (by decide)) rfl rfl (lenOf pd_32 rfl) rfl (Nat.le_of_eq rfl) mem0 (by decide) (by decide) ?_
  rintro _ _ _ - - ⟨rfl, rfl, rfl⟩
  change Go _ _ _ _ _ _ _ _ _ _ _ _ _ _ [] h 24 4000 142 #[.val (.int p1), .val (.int p2), .val (.int p3), .val (.int p4), .val (.int p5), .val (.int (1 : Int32)), .val (.int (2 : Int32)), .val (.int m0), .val (.int m1), .val (.int r0), .val (.int r1), .val (.ref s1), .val (.ref s2), .val (.ref e3), .val (.ref n4)] [(.int (m0.toInt8.toInt32 &&& (255 : Int32)).toUInt32.toUInt16.toUInt32.toInt32)]
  rw [own_lowback hx_m0.1 hx_m0.2]
  refine Go.iload (pc' := 144) at_142 rfl rfl ?_
  refine Go.icmpY (pc' := 149) at_144 (by decide) (by decide) (teq (rfl : m0 = m0)).1 ?_
  refine Go.iload (pc' := 151) at_149 rfl rfl ?_
  refine Go.iconst (pc' := 152) at_151 rfl ic_1 ?_
  refine Go.icmpY (pc' := 169) at_152 (by decide) (by decide) (flt (by decide : ¬ ((1 : Int32) < (1 : Int32)))).2.2.2 ?_
  refine Go.aload (pc' := 171) at_169 rfl rfl rfl ?_
  refine Go.bipush (pc' := 173) at_171 rfl icb_22 ?_
  refine Go.iload (pc' := 175) at_173 rfl rfl ?_
  refine Go.iadd (pc' := 176) at_175 rfl ?_
  rw [show ((22 : Int32) + (1 : Int32)) = (23 : Int32) from by decide]
  refine Go.callV (pc' := 179) (u := N_40) (z := N_40) (a := n4) at_176 rfl (w_224 hw) (w_225 hw) (nf (w_227 hw) rfl) (w_227 hw) (w_226 hw) (by decide) E_n4 (argsL := [(.int (23 : Int32))]) (rest := []) (Pays.of_met (W := 0) (len := 3) (m_charAt hw hs n4 t4 k4 (27 : Int32) ((PFX ++ ([m0.toInt8.toInt32] ++ ([(58 : Int32), (32 : Int32)] ++ [r0.toInt8.toInt32, r1.toInt8.toInt32]))).map Value.int) (23 : Int32) (58 : Int32) h E_n4 F_n4_coder F_n4_value V_t4 (⟨by decide, by decide⟩) (rfl)) (w_228 hw) (w_7 hw) (by decide) (by decide)) rfl rfl (lenOf pd_32 rfl) rfl (Nat.le_of_eq rfl) mem0 (by decide) (by decide) ?_
  rintro _ _ _ - - ⟨rfl, rfl, rfl⟩
  change Go _ _ _ _ _ _ _ _ _ _ _ _ _ _ [] h 24 4000 179 #[.val (.int p1), .val (.int p2), .val (.int p3), .val (.int p4), .val (.int p5), .val (.int (1 : Int32)), .val (.int (2 : Int32)), .val (.int m0), .val (.int m1), .val (.int r0), .val (.int r1), .val (.ref s1), .val (.ref s2), .val (.ref e3), .val (.ref n4)] [(.int ((58 : Int32) &&& (255 : Int32)).toUInt32.toUInt16.toUInt32.toInt32)]
  rw [show ((58 : Int32) &&& (255 : Int32)).toUInt32.toUInt16.toUInt32.toInt32 = (58 : Int32) from by decide]
  refine Go.bipush (pc' := 181) at_179 rfl icb_58 ?_
  refine Go.icmpN (pc' := 184) at_181 rfl (teq (rfl : (58 : Int32) = (58 : Int32))).2 ?_
  refine Go.aload (pc' := 186) at_184 rfl rfl rfl ?_
  refine Go.bipush (pc' := 188) at_186 rfl icb_23 ?_
  refine Go.iload (pc' := 190) at_188 rfl rfl ?_
  refine Go.iadd (pc' := 191) at_190 rfl ?_
  rw [show ((23 : Int32) + (1 : Int32)) = (24 : Int32) from by decide]
  refine Go.callV (pc' := 194) (u := N_40) (z := N_40) (a := n4) at_191 rfl (w_224 hw) (w_225 hw) (nf (w_227 hw) rfl) (w_227 hw) (w_226 hw) (by decide) E_n4 (argsL := [(.int (24 : Int32))]) (rest := []) (Pays.of_met (W := 0) (len := 3) (m_charAt hw hs n4 t4 k4 (27 : Int32) ((PFX ++ ([m0.toInt8.toInt32] ++ ([(58 : Int32), (32 : Int32)] ++ [r0.toInt8.toInt32, r1.toInt8.toInt32]))).map Value.int) (24 : Int32) (32 : Int32) h E_n4 F_n4_coder F_n4_value V_t4 (⟨by decide, by decide⟩) (rfl)) (w_228 hw) (w_7 hw) (by decide) (by decide)) rfl rfl (lenOf pd_32 rfl) rfl (Nat.le_of_eq rfl) mem0 (by decide) (by decide) ?_
  rintro _ _ _ - - ⟨rfl, rfl, rfl⟩
  change Go _ _ _ _ _ _ _ _ _ _ _ _ _ _ [] h 24 4000 194 #[.val (.int p1), .val (.int p2), .val (.int p3), .val (.int p4), .val (.int p5), .val (.int (1 : Int32)), .val (.int (2 : Int32)), .val (.int m0), .val (.int m1), .val (.int r0), .val (.int r1), .val (.ref s1), .val (.ref s2), .val (.ref e3), .val (.ref n4)] [(.int ((32 : Int32) &&& (255 : Int32)).toUInt32.toUInt16.toUInt32.toInt32)]
  rw [show ((32 : Int32) &&& (255 : Int32)).toUInt32.toUInt16.toUInt32.toInt32 = (32 : Int32) from by decide]
  refine Go.bipush (pc' := 196) at_194 rfl icb_32 ?_
  refine Go.icmpY (pc' := 201) at_196 (by decide) (by decide) (teq (rfl : (32 : Int32) = (32 : Int32))).1 ?_
  refine Go.iload (pc' := 203) at_201 rfl rfl ?_
  refine Go.ifN (pc' := 206) at_203 rfl ((if0 _ _).trans (tlt (by decide : (0 : Int32) < (2 : Int32))).2.2.2) ?_
  refine Go.aload (pc' := 208) at_206 rfl rfl rfl ?_
  refine Go.bipush (pc' := 210) at_208 rfl icb_24 ?_
  refine Go.iload (pc' := 212) at_210 rfl rfl ?_
  refine Go.iadd (pc' := 213) at_212 rfl ?_
  rw [show ((24 : Int32) + (1 : Int32)) = (25 : Int32) from by decide]
  refine Go.callV (pc' := 216) (u := N_40) (z := N_40) (a := n4) at_213 rfl (w_224 hw) (w_225 hw) (nf (w_227 hw) rfl) (w_227 hw) (w_226 hw) (by decide) E_n4 (argsL := [(.int (25 : Int32))]) (rest := []) (Pays.of_met (W := 0) (len := 3) (m_charAt hw hs n4 t4 k4 (27 : Int32) ((PFX ++ ([m0.toInt8.toInt32] ++ ([(58 : Int32), (32 : Int32)] ++ [r0.toInt8.toInt32, r1.toInt8.toInt32]))).map Value.int) (25 : Int32) r0.toInt8.toInt32 h E_n4 F_n4_coder F_n4_value V_t4 (⟨by decide, by decide⟩) (rfl)) (w_228 hw) (w_7 hw) (by decide) (by decide)) rfl rfl (lenOf pd_32 rfl) rfl (Nat.le_of_eq rfl) mem0 (by decide) (by decide) ?_
  rintro _ _ _ - - ⟨rfl, rfl, rfl⟩
  change Go _ _ _ _ _ _ _ _ _ _ _ _ _ _ [] h 24 4000 216 #[.val (.int p1), .val (.int p2), .val (.int p3), .val (.int p4), .val (.int p5), .val (.int (1 : Int32)), .val (.int (2 : Int32)), .val (.int m0), .val (.int m1), .val (.int r0), .val (.int r1), .val (.ref s1), .val (.ref s2), .val (.ref e3), .val (.ref n4)] [(.int (r0.toInt8.toInt32 &&& (255 : Int32)).toUInt32.toUInt16.toUInt32.toInt32)]
  rw [own_lowback hx_r0.1 hx_r0.2]
  refine Go.iload (pc' := 218) at_216 rfl rfl ?_
  refine Go.icmpY (pc' := 223) at_218 (by decide) (by decide) (teq (rfl : r0 = r0)).1 ?_
  refine Go.iload (pc' := 225) at_223 rfl rfl ?_
  refine Go.iconst (pc' := 226) at_225 rfl ic_1 ?_
  refine Go.icmpN (pc' := 229) at_226 rfl (tlt (by decide : (1 : Int32) < (2 : Int32))).2.2.2 ?_
  refine Go.aload (pc' := 231) at_229 rfl rfl rfl ?_
  refine Go.bipush (pc' := 233) at_231 rfl icb_25 ?_
  refine Go.iload (pc' := 235) at_233 rfl rfl ?_
  refine Go.iadd (pc' := 236) at_235 rfl ?_
  rw [show ((25 : Int32) + (1 : Int32)) = (26 : Int32) from by decide]
  refine Go.callV (pc' := 239) (u := N_40) (z := N_40) (a := n4) at_236 rfl (w_224 hw) (w_225 hw) (nf (w_227 hw) rfl) (w_227 hw) (w_226 hw) (by decide) E_n4 (argsL := [(.int (26 : Int32))]) (rest := []) (Pays.of_met (W := 0) (len := 3) (m_charAt hw hs n4 t4 k4 (27 : Int32) ((PFX ++ ([m0.toInt8.toInt32] ++ ([(58 : Int32), (32 : Int32)] ++ [r0.toInt8.toInt32, r1.toInt8.toInt32]))).map Value.int) (26 : Int32) r1.toInt8.toInt32 h E_n4 F_n4_coder F_n4_value V_t4 (⟨by decide, by decide⟩) (rfl)) (w_228 hw) (w_7 hw) (by decide) (by decide)) rfl rfl (lenOf pd_32 rfl) rfl (Nat.le_of_eq rfl) mem0 (by decide) (by decide) ?_
  rintro _ _ _ - - ⟨rfl, rfl, rfl⟩
  change Go _ _ _ _ _ _ _ _ _ _ _ _ _ _ [] h 24 4000 239 #[.val (.int p1), .val (.int p2), .val (.int p3), .val (.int p4), .val (.int p5), .val (.int (1 : Int32)), .val (.int (2 : Int32)), .val (.int m0), .val (.int m1), .val (.int r0), .val (.int r1), .val (.ref s1), .val (.ref s2), .val (.ref e3), .val (.ref n4)] [(.int (r1.toInt8.toInt32 &&& (255 : Int32)).toUInt32.toUInt16.toUInt32.toInt32)]
  rw [own_lowback hx_r1.1 hx_r1.2]
  refine Go.iload (pc' := 241) at_239 rfl rfl ?_
  refine Go.icmpY (pc' := 246) at_241 (by decide) (by decide) (teq (rfl : r1 = r1)).1 ?_
  refine Go.iconst (pc' := 247) at_246 rfl ic_1 ?_
  exact Go.retS (ty := .boolean) at_247 rfl (by simp) rfl (by decide) (by decide) [] sn0 ⟨rfl, rfl⟩
set_option maxRecDepth 65536 in
set_option maxHeartbeats 40000000 in
theorem m_lawa12 {l : Launch} {Z : State} {a0 : Array Value} {n0 : Nat} (hw : ∀ d ∈ tables_1, d.before a0 Z = true) (hs : Stat Z) (p1 : Int32) (p2 : Int32) (p3 : Int32) (p4 : Int32) (p5 : Int32) (m0 : Int32) (m1 : Int32) (r0 : Int32) (r1 : Int32) (h0 h : Heap) (hx_m0 : ¬ m0 < 0 ∧ ¬ 255 < m0) (hx_m1 : ¬ m1 < 0 ∧ ¬ 255 < m1) (hx_r0 : ¬ r0 < 0 ∧ ¬ 255 < r0) (hx_r1 : ¬ r1 < 0 ∧ ¬ 255 < r1) (hst : l.stackTraces = true) :
    Go l Z EL0 n0 NR0 KN0 x code maxLocals ret room_1 h0 [] (Q_m_law Z p1 p2 p3 p4 p5 h0) [] h 0 0 52 #[.val (.int p1), .val (.int p2), .val (.int p3), .val (.int p4), .val (.int p5), .val (.int (1 : Int32)), .val (.int (2 : Int32)), .val (.int m0), .val (.int m1), .val (.int r0), .val (.int r1), .unset, .unset, .unset, .unset] [] := by
  refine Go.iload (pc' := 54) at_52 rfl rfl ?_
  refine Go.iload (pc' := 56) at_54 rfl rfl ?_
  refine Go.iload (pc' := 58) at_56 rfl rfl ?_
  refine Go.callS (pc' := 61) (z := N_45) at_58 rfl (w_1 hw) (w_2 hw) (w_3 hw) (w_4 hw) (by decide) (argsL := [(.int (1 : Int32)), (.int m0), (.int m1)]) (rest := []) (Pays.of_met (W := 0) (len := 3) (m_mk1 hw hs m0 m1 h (hx_m0) (hx_m1)) (w_4 hw) (w_3 hw) (by decide) (by decide)) rfl rfl (lenOf pd_34 rfl) rfl (Nat.le_of_eq rfl) mem0 (by decide) (by decide) ?_
  rintro _ h531 _ K532 le533 ⟨b528, b529, q530, rfl, rfl, p534, p535, p536, p537⟩
  have E_b528 := p534
  have F_b528_coder := p535
  have F_b528_value := p536
  have V_b529 := p537
  change Go _ _ _ _ _ _ _ _ _ _ _ _ _ _ [] h531 2 5 61 #[.val (.int p1), .val (.int p2), .val (.int p3), .val (.int p4), .val (.int p5), .val (.int (1 : Int32)), .val (.int (2 : Int32)), .val (.int m0), .val (.int m1), .val (.int r0), .val (.int r1), .unset, .unset, .unset, .unset] [(.ref b528)]
  refine Go.astore (pc' := 63) (Ls' := #[.val (.int p1), .val (.int p2), .val (.int p3), .val (.int p4), .val (.int p5), .val (.int (1 : Int32)), .val (.int (2 : Int32)), .val (.int m0), .val (.int m1), .val (.int r0), .val (.int r1), .val (.ref b528), .unset, .unset, .unset]) at_61 rfl rfl rfl ?_
  refine Go.iload (pc' := 65) at_63 rfl rfl ?_
  refine Go.iload (pc' := 67) at_65 rfl rfl ?_
  refine Go.iload (pc' := 69) at_67 rfl rfl ?_
  refine Go.callS (pc' := 72) (z := N_45) at_69 rfl (w_1 hw) (w_2 hw) (w_3 hw) (w_4 hw) (by decide) (argsL := [(.int (2 : Int32)), (.int r0), (.int r1)]) (rest := []) (Pays.of_met (W := 0) (len := 3) (m_mk2 hw hs r0 r1 h531 (hx_r0) (hx_r1)) (w_4 hw) (w_3 hw) (by decide) (by decide)) rfl rfl (lenOf pd_34 rfl) rfl (Nat.le_of_eq rfl) mem0 (by decide) (by decide) ?_
  rintro _ h541 _ K542 le543 ⟨b538, b539, q540, rfl, rfl, p544, p545, p546, p547⟩
  replace E_b528 := E_b528.keep K542
  replace F_b528_coder := F_b528_coder.keep K542 nin0
  replace F_b528_value := F_b528_value.keep K542 nin0
  replace V_b529 := V_b529.keep K542 nin0
  have E_b538 := p544
  have F_b538_coder := p545
  have F_b538_value := p546
  have V_b539 := p547
  change Go _ _ _ _ _ _ _ _ _ _ _ _ _ _ [] h541 5 13 72 #[.val (.int p1), .val (.int p2), .val (.int p3), .val (.int p4), .val (.int p5), .val (.int (1 : Int32)), .val (.int (2 : Int32)), .val (.int m0), .val (.int m1), .val (.int r0), .val (.int r1), .val (.ref b528), .unset, .unset, .unset] [(.ref b538)]
  refine Go.astore (pc' := 74) (Ls' := #[.val (.int p1), .val (.int p2), .val (.int p3), .val (.int p4), .val (.int p5), .val (.int (1 : Int32)), .val (.int (2 : Int32)), .val (.int m0), .val (.int m1), .val (.int r0), .val (.int r1), .val (.ref b528), .val (.ref b538), .unset, .unset]) at_72 rfl rfl rfl ?_
  refine Go.aload (pc' := 76) at_74 rfl rfl rfl ?_
  refine Go.aload (pc' := 78) at_76 rfl rfl rfl ?_
  refine Go.callS (pc' := 81) (z := N_30) at_78 rfl (w_27 hw) (w_28 hw) (w_29 hw) (w_30 hw) (by decide) (argsL := [(.ref b528), (.ref b538)]) (rest := []) (Pays.of_met (W := 0) (len := 3) (m_fm hw hs b528 b529 q530 [m0.toInt8.toInt32] (1 : Int32) b538 b539 q540 [r0.toInt8.toInt32, r1.toInt8.toInt32] (2 : Int32) h541 E_b528 F_b528_coder F_b528_value V_b529 E_b538 F_b538_coder F_b538_value V_b539 (show (1 : Int32).toNatClampNeg = 1 from by decide) (show (2 : Int32).toNatClampNeg = 2 from by decide) (show 1 ≤ 2 from by decide) (show 2 ≤ 2 from by decide) (hst)) (w_30 hw) (w_29 hw) (by decide) (by decide)) rfl rfl (lenOf pd_35 rfl) rfl (Nat.le_of_eq rfl) mem0 (by decide) (by decide) ?_
  rintro _ h552 _ K553 le554 ⟨b548, b549, b550, q551, rfl, rfl, p555, p556, p557, p558, p559, p560⟩
  replace E_b528 := E_b528.keep K553
  replace F_b528_coder := F_b528_coder.keep K553 nin0
  replace F_b528_value := F_b528_value.keep K553 nin0
  replace V_b529 := V_b529.keep K553 nin0
  replace E_b538 := E_b538.keep K553
  replace F_b538_coder := F_b538_coder.keep K553 nin0
  replace F_b538_value := F_b538_value.keep K553 nin0
  replace V_b539 := V_b539.keep K553 nin0
  have E_b548 := p555
  have F_b548_detailMessage := p556
  have E_b549 := p557
  have F_b549_coder := p558
  have F_b549_value := p559
  have V_b550 := p560
  change Go _ _ _ _ _ _ _ _ _ _ _ _ _ _ [] h552 16 2967 81 #[.val (.int p1), .val (.int p2), .val (.int p3), .val (.int p4), .val (.int p5), .val (.int (1 : Int32)), .val (.int (2 : Int32)), .val (.int m0), .val (.int m1), .val (.int r0), .val (.int r1), .val (.ref b528), .val (.ref b538), .unset, .unset] [(.ref b548)]
  refine Go.astore (pc' := 83) (Ls' := #[.val (.int p1), .val (.int p2), .val (.int p3), .val (.int p4), .val (.int p5), .val (.int (1 : Int32)), .val (.int (2 : Int32)), .val (.int m0), .val (.int m1), .val (.int r0), .val (.int r1), .val (.ref b528), .val (.ref b538), .val (.ref b548), .unset]) at_81 rfl rfl rfl ?_
  refine Go.aload (pc' := 85) at_83 rfl rfl rfl ?_
  refine Go.ifnonnullY (pc' := 90) at_85 (by decide) (by decide) ?_
  refine Go.aload (pc' := 92) at_90 rfl rfl rfl ?_
  refine Go.callU (pc' := 95) (u := N_47) (z := N_29) (owner := "java/lang/Throwable") (a := b548) at_92 rfl (w_214 hw) (w_215 hw) (w_216 hw) (by decide) (w_218 hw) (w_217 hw) E_b548 (argsL := []) (rest := []) (Pays.of_met (W := 0) (len := 3) (m_gm hw hs b548 b549 h552 F_b548_detailMessage) (w_219 hw) (w_175 hw) (by decide) (by decide)) rfl rfl (lenOf pd_20 rfl) rfl (Nat.le_of_eq rfl) mem0 (by decide) (by decide) ?_
  rintro _ _ _ - - ⟨rfl, rfl, rfl⟩
  change Go _ _ _ _ _ _ _ _ _ _ _ _ _ _ [] h552 16 2967 95 #[.val (.int p1), .val (.int p2), .val (.int p3), .val (.int p4), .val (.int p5), .val (.int (1 : Int32)), .val (.int (2 : Int32)), .val (.int m0), .val (.int m1), .val (.int r0), .val (.int r1), .val (.ref b528), .val (.ref b538), .val (.ref b548), .unset] [(.ref b549)]
  refine Go.astore (pc' := 97) (Ls' := #[.val (.int p1), .val (.int p2), .val (.int p3), .val (.int p4), .val (.int p5), .val (.int (1 : Int32)), .val (.int (2 : Int32)), .val (.int m0), .val (.int m1), .val (.int r0), .val (.int r1), .val (.ref b528), .val (.ref b538), .val (.ref b548), .val (.ref b549)]) at_95 rfl rfl rfl ?_
  refine Go.aload (pc' := 99) at_97 rfl rfl rfl ?_
  refine Go.ifnullN (pc' := 102) at_99 rfl ?_
  refine Go.aload (pc' := 104) at_102 rfl rfl rfl ?_
  rw [show ((((22 : Int32) + (1 : Int32)) + (2 : Int32)) + (2 : Int32)) = (27 : Int32) from by decide] at V_b550
  rw [show (((PFX ++ [m0.toInt8.toInt32]) ++ [(58 : Int32), (32 : Int32)]) ++ [r0.toInt8.toInt32, r1.toInt8.toInt32]) = (PFX ++ ([m0.toInt8.toInt32] ++ ([(58 : Int32), (32 : Int32)] ++ [r0.toInt8.toInt32, r1.toInt8.toInt32]))) from by rw [List.append_assoc, List.append_assoc]] at V_b550
  refine Go.callV (pc' := 107) (u := N_12) (z := N_12) (a := b549) at_104 rfl (w_220 hw) (w_63 hw) (nf (w_65 hw) rfl) (w_65 hw) (w_64 hw) (by decide) E_b549 (argsL := []) (rest := []) (Pays.of_met (W := 0) (len := 3) (m_length hw hs b549 b550 q551 (27 : Int32) ((PFX ++ ([m0.toInt8.toInt32] ++ ([(58 : Int32), (32 : Int32)] ++ [r0.toInt8.toInt32, r1.toInt8.toInt32]))).map Value.int) h552 E_b549 F_b549_coder F_b549_value V_b550) (w_66 hw) (w_7 hw) (by decide) (by decide)) rfl rfl (lenOf pd_8 rfl) rfl (Nat.le_of_eq rfl) mem0 (by decide) (by decide) ?_
  rintro _ _ _ - - ⟨rfl, rfl, rfl⟩
  change Go _ _ _ _ _ _ _ _ _ _ _ _ _ _ [] h552 16 2967 107 #[.val (.int p1), .val (.int p2), .val (.int p3), .val (.int p4), .val (.int p5), .val (.int (1 : Int32)), .val (.int (2 : Int32)), .val (.int m0), .val (.int m1), .val (.int r0), .val (.int r1), .val (.ref b528), .val (.ref b538), .val (.ref b548), .val (.ref b549)] [(.int (27 : Int32))]
  refine Go.bipush (pc' := 109) at_107 rfl icb_24 ?_
  refine Go.iload (pc' := 111) at_109 rfl rfl ?_
  refine Go.iadd (pc' := 112) at_111 rfl ?_
  rw [show ((24 : Int32) + (1 : Int32)) = (25 : Int32) from by decide]
  refine Go.iload (pc' := 114) at_112 rfl rfl ?_
  refine Go.iadd (pc' := 115) at_114 rfl ?_
  rw [show ((25 : Int32) + (2 : Int32)) = (27 : Int32) from by decide]
  refine Go.icmpY (pc' := 120) at_115 (by decide) (by decide) (teq (rfl : (27 : Int32) = (27 : Int32))).1 ?_
  exact Go.more (k' := 24) (n' := 4000) (by decide) (by decide) (Go.fewer mem0 (m_lawb12 hw hs p1 p2 p3 p4 p5 m0 m1 r0 r1 b528 b538 b548 b549 b550 q551 h0 h552 E_b549 F_b549_coder F_b549_value V_b550 (hx_m0) (hx_m1) (hx_r0) (hx_r1)))
set_option maxRecDepth 65536 in
set_option maxHeartbeats 40000000 in
theorem m_lawb20 {l : Launch} {Z : State} {a0 : Array Value} {n0 : Nat} (hw : ∀ d ∈ tables_1, d.before a0 Z = true) (hs : Stat Z) (p1 : Int32) (p2 : Int32) (p3 : Int32) (p4 : Int32) (p5 : Int32) (m0 : Int32) (m1 : Int32) (r0 : Int32) (r1 : Int32) (s1 : Addr) (s2 : Addr) (e3 : Addr) (n4 : Addr) (t4 : Addr) (k4 : ClassId) (h0 h : Heap) (E_n4 : Exa Z h n4 "java/lang/String") (F_n4_coder : Fld Z h n4 "java/lang/String" "coder" "B" (.int (0 : Int32))) (F_n4_value : Fld Z h n4 "java/lang/String" "value" "[B" (.ref t4)) (V_t4 : Arv Z h t4 k4 .byte (26 : Int32) ((PFX ++ ([m0.toInt8.toInt32, m1.toInt8.toInt32] ++ ([(58 : Int32), (32 : Int32)] ++ ([] : List Int32)))).map Value.int) (.int (0 : Int32))) (hx_m0 : ¬ m0 < 0 ∧ ¬ 255 < m0) (hx_m1 : ¬ m1 < 0 ∧ ¬ 255 < m1) (hx_r0 : ¬ r0 < 0 ∧ ¬ 255 < r0) (hx_r1 : ¬ r1 < 0 ∧ ¬ 255 < r1) :
    Go l Z EL0 n0 NR0 KN0 x code maxLocals ret room_1 h0 [] (Q_m_law Z p1 p2 p3 p4 p5 h0) [] h 24 4000 120 #[.val (.int p1), .val (.int p2), .val (.int p3), .val (.int p4), .val (.int p5), .val (.int (2 : Int32)), .val (.int (0 : Int32)), .val (.int m0), .val (.int m1), .val (.int r0), .val (.int r1), .val (.ref s1), .val (.ref s2), .val (.ref e3), .val (.ref n4)] [] := by
  refine Go.aload (pc' := 122) at_120 rfl rfl rfl ?_
  refine Go.callS (pc' := 125) (z := N_46) at_122 rfl (w_221 hw) (w_222 hw) (w_3 hw) (w_223 hw) (by decide) (argsL := [(.ref n4)]) (rest := []) (Pays.of_met (W := 0) (len := 3) (m_pfx hw hs n4 t4 k4 (26 : Int32) ([m0.toInt8.toInt32, m1.toInt8.toInt32] ++ ([(58 : Int32), (32 : Int32)] ++ ([] : List Int32))) h E_n4 F_n4_coder F_n4_value V_t4 (by decide)) (w_223 hw) (w_3 hw) (by decide) (by decide)) rfl rfl (lenOf pd_33 rfl) rfl (Nat.le_of_eq rfl) mem0 (by decide) (by decide) ?_
  rintro _ _ _ - - ⟨rfl, rfl, rfl⟩
  change Go _ _ _ _ _ _ _ _ _ _ _ _ _ _ [] h 24 4000 125 #[.val (.int p1), .val (.int p2), .val (.int p3), .val (.int p4), .val (.int p5), .val (.int (2 : Int32)), .val (.int (0 : Int32)), .val (.int m0), .val (.int m1), .val (.int r0), .val (.int r1), .val (.ref s1), .val (.ref s2), .val (.ref e3), .val (.ref n4)] [(.int (1 : Int32))]
  refine Go.ifY (pc' := 130) at_125 (by decide) (by decide) ((if0 _ _).trans (feq (by decide : ¬ ((1 : Int32) = (0 : Int32)))).2) ?_
  refine Go.iload (pc' := 132) at_130 rfl rfl ?_
  refine Go.ifN (pc' := 135) at_132 rfl ((if0 _ _).trans (tlt (by decide : (0 : Int32) < (2 : Int32))).2.2.2) ?_
  refine Go.aload (pc' := 137) at_135 rfl rfl rfl ?_
  refine Go.bipush (pc' := 139) at_137 rfl icb_22 ?_
  refine Go.callV (pc' := 142) (u := N_40) (z := N_40) (a := n4) at_139 rfl (w_224 hw) (w_225 hw) (nf (w_227 hw) rfl) (w_227 hw) (w_226 hw) (by decide) E_n4 (argsL := [(.int (22 : Int32))]) (rest := []) (Pays.of_met (W := 0) (len := 3) (m_charAt hw hs n4 t4 k4 (26 : Int32) ((PFX ++ ([m0.toInt8.toInt32, m1.toInt8.toInt32] ++ ([(58 : Int32), (32 : Int32)] ++ ([] : List Int32)))).map Value.int) (22 : Int32) m0.toInt8.toInt32 h E_n4 F_n4_coder F_n4_value V_t4 (⟨by decide, by decide⟩) (rfl)) (w_228 hw) (w_7 hw) (by decide) (by decide)) rfl rfl (lenOf pd_32 rfl) rfl (Nat.le_of_eq rfl) mem0 (by decide) (by decide) ?_
  rintro _ _ _ - - ⟨rfl, rfl, rfl⟩
  change Go _ _ _ _ _ _ _ _ _ _ _ _ _ _ [] h 24 4000 142 #[.val (.int p1), .val (.int p2), .val (.int p3), .val (.int p4), .val (.int p5), .val (.int (2 : Int32)), .val (.int (0 : Int32)), .val (.int m0), .val (.int m1), .val (.int r0), .val (.int r1), .val (.ref s1), .val (.ref s2), .val (.ref e3), .val (.ref n4)] [(.int (m0.toInt8.toInt32 &&& (255 : Int32)).toUInt32.toUInt16.toUInt32.toInt32)]
  rw [own_lowback hx_m0.1 hx_m0.2]
  refine Go.iload (pc' := 144) at_142 rfl rfl ?_
  refine Go.icmpY (pc' := 149) at_144 (by decide) (by decide) (teq (rfl : m0 = m0)).1 ?_
  refine Go.iload (pc' := 151) at_149 rfl rfl ?_
  refine Go.iconst (pc' := 152) at_151 rfl ic_1 ?_
  refine Go.icmpN (pc' := 155) at_152 rfl (tlt (by decide : (1 : Int32) < (2 : Int32))).2.2.2 ?_
  refine Go.aload (pc' := 157) at_155 rfl rfl rfl ?_
  refine Go.bipush (pc' := 159) at_157 rfl icb_23 ?_
  refine Go.callV (pc' := 162) (u := N_40) (z := N_40) (a := n4) at_159 rfl (w_224 hw) (w_225 hw) (nf (w_227 hw) rfl) (w_227 hw) (w_226 hw) (by decide) E_n4 (argsL := [(.int (23 : Int32))]) (rest := []) (Pays.of_met (W := 0) (len := 3) (m_charAt hw hs n4 t4 k4 (26 : Int32) ((PFX ++ ([m0.toInt8.toInt32, m1.toInt8.toInt32] ++ ([(58 : Int32), (32 : Int32)] ++ ([] : List Int32)))).map Value.int) (23 : Int32) m1.toInt8.toInt32 h E_n4 F_n4_coder F_n4_value V_t4 (⟨by decide, by decide⟩) (rfl)) (w_228 hw) (w_7 hw) (by decide) (by decide)) rfl rfl (lenOf pd_32 rfl) rfl (Nat.le_of_eq rfl) mem0 (by decide) (by decide) ?_
  rintro _ _ _ - - ⟨rfl, rfl, rfl⟩
  change Go _ _ _ _ _ _ _ _ _ _ _ _ _ _ [] h 24 4000 162 #[.val (.int p1), .val (.int p2), .val (.int p3), .val (.int p4), .val (.int p5), .val (.int (2 : Int32)), .val (.int (0 : Int32)), .val (.int m0), .val (.int m1), .val (.int r0), .val (.int r1), .val (.ref s1), .val (.ref s2), .val (.ref e3), .val (.ref n4)] [(.int (m1.toInt8.toInt32 &&& (255 : Int32)).toUInt32.toUInt16.toUInt32.toInt32)]
  rw [own_lowback hx_m1.1 hx_m1.2]
  refine Go.iload (pc' := 164) at_162 rfl rfl ?_
  refine Go.icmpY (pc' := 169) at_164 (by decide) (by decide) (teq (rfl : m1 = m1)).1 ?_
  refine Go.aload (pc' := 171) at_169 rfl rfl rfl ?_
  refine Go.bipush (pc' := 173) at_171 rfl icb_22 ?_
  refine Go.iload (pc' := 175) at_173 rfl rfl ?_
  refine Go.iadd (pc' := 176) at_175 rfl ?_
  rw [show ((22 : Int32) + (2 : Int32)) = (24 : Int32) from by decide]
  refine Go.callV (pc' := 179) (u := N_40) (z := N_40) (a := n4) at_176 rfl (w_224 hw) (w_225 hw) (nf (w_227 hw) rfl) (w_227 hw) (w_226 hw) (by decide) E_n4 (argsL := [(.int (24 : Int32))]) (rest := []) (Pays.of_met (W := 0) (len := 3) (m_charAt hw hs n4 t4 k4 (26 : Int32) ((PFX ++ ([m0.toInt8.toInt32, m1.toInt8.toInt32] ++ ([(58 : Int32), (32 : Int32)] ++ ([] : List Int32)))).map Value.int) (24 : Int32) (58 : Int32) h E_n4 F_n4_coder F_n4_value V_t4 (⟨by decide, by decide⟩) (rfl)) (w_228 hw) (w_7 hw) (by decide) (by decide)) rfl rfl (lenOf pd_32 rfl) rfl (Nat.le_of_eq rfl) mem0 (by decide) (by decide) ?_
  rintro _ _ _ - - ⟨rfl, rfl, rfl⟩
  change Go _ _ _ _ _ _ _ _ _ _ _ _ _ _ [] h 24 4000 179 #[.val (.int p1), .val (.int p2), .val (.int p3), .val (.int p4), .val (.int p5), .val (.int (2 : Int32)), .val (.int (0 : Int32)), .val (.int m0), .val (.int m1), .val (.int r0), .val (.int r1), .val (.ref s1), .val (.ref s2), .val (.ref e3), .val (.ref n4)] [(.int ((58 : Int32) &&& (255 : Int32)).toUInt32.toUInt16.toUInt32.toInt32)]
  rw [show ((58 : Int32) &&& (255 : Int32)).toUInt32.toUInt16.toUInt32.toInt32 = (58 : Int32) from by decide]
  refine Go.bipush (pc' := 181) at_179 rfl icb_58 ?_
  refine Go.icmpN (pc' := 184) at_181 rfl (teq (rfl : (58 : Int32) = (58 : Int32))).2 ?_
  refine Go.aload (pc' := 186) at_184 rfl rfl rfl ?_
  refine Go.bipush (pc' := 188) at_186 rfl icb_23 ?_
  refine Go.iload (pc' := 190) at_188 rfl rfl ?_
  refine Go.iadd (pc' := 191) at_190 rfl ?_
  rw [show ((23 : Int32) + (2 : Int32)) = (25 : Int32) from by decide]
  refine Go.callV (pc' := 194) (u := N_40) (z := N_40) (a := n4) at_191 rfl (w_224 hw) (w_225 hw) (nf (w_227 hw) rfl) (w_227 hw) (w_226 hw) (by decide) E_n4 (argsL := [(.int (25 : Int32))]) (rest := []) (Pays.of_met (W := 0) (len := 3) (m_charAt hw hs n4 t4 k4 (26 : Int32) ((PFX ++ ([m0.toInt8.toInt32, m1.toInt8.toInt32] ++ ([(58 : Int32), (32 : Int32)] ++ ([] : List Int32)))).map Value.int) (25 : Int32) (32 : Int32) h E_n4 F_n4_coder F_n4_value V_t4 (⟨by decide, by decide⟩) (rfl)) (w_228 hw) (w_7 hw) (by decide) (by decide)) rfl rfl (lenOf pd_32 rfl) rfl (Nat.le_of_eq rfl) mem0 (by decide) (by decide) ?_
  rintro _ _ _ - - ⟨rfl, rfl, rfl⟩
  change Go _ _ _ _ _ _ _ _ _ _ _ _ _ _ [] h 24 4000 194 #[.val (.int p1), .val (.int p2), .val (.int p3), .val (.int p4), .val (.int p5), .val (.int (2 : Int32)), .val (.int (0 : Int32)), .val (.int m0), .val (.int m1), .val (.int r0), .val (.int r1), .val (.ref s1), .val (.ref s2), .val (.ref e3), .val (.ref n4)] [(.int ((32 : Int32) &&& (255 : Int32)).toUInt32.toUInt16.toUInt32.toInt32)]
  rw [show ((32 : Int32) &&& (255 : Int32)).toUInt32.toUInt16.toUInt32.toInt32 = (32 : Int32) from by decide]
  refine Go.bipush (pc' := 196) at_194 rfl icb_32 ?_
  refine Go.icmpY (pc' := 201) at_196 (by decide) (by decide) (teq (rfl : (32 : Int32) = (32 : Int32))).1 ?_
  refine Go.iload (pc' := 203) at_201 rfl rfl ?_
  refine Go.ifY (pc' := 223) at_203 (by decide) (by decide) ((if0 _ _).trans (flt (by decide : ¬ ((0 : Int32) < (0 : Int32)))).2.2.2) ?_
  refine Go.iload (pc' := 225) at_223 rfl rfl ?_
  refine Go.iconst (pc' := 226) at_225 rfl ic_1 ?_
  refine Go.icmpY (pc' := 246) at_226 (by decide) (by decide) (flt (by decide : ¬ ((1 : Int32) < (0 : Int32)))).2.2.2 ?_
  refine Go.iconst (pc' := 247) at_246 rfl ic_1 ?_
  exact Go.retS (ty := .boolean) at_247 rfl (by simp) rfl (by decide) (by decide) [] sn0 ⟨rfl, rfl⟩
set_option maxRecDepth 65536 in
set_option maxHeartbeats 40000000 in
theorem m_lawa20 {l : Launch} {Z : State} {a0 : Array Value} {n0 : Nat} (hw : ∀ d ∈ tables_1, d.before a0 Z = true) (hs : Stat Z) (p1 : Int32) (p2 : Int32) (p3 : Int32) (p4 : Int32) (p5 : Int32) (m0 : Int32) (m1 : Int32) (r0 : Int32) (r1 : Int32) (h0 h : Heap) (hx_m0 : ¬ m0 < 0 ∧ ¬ 255 < m0) (hx_m1 : ¬ m1 < 0 ∧ ¬ 255 < m1) (hx_r0 : ¬ r0 < 0 ∧ ¬ 255 < r0) (hx_r1 : ¬ r1 < 0 ∧ ¬ 255 < r1) (hst : l.stackTraces = true) :
    Go l Z EL0 n0 NR0 KN0 x code maxLocals ret room_1 h0 [] (Q_m_law Z p1 p2 p3 p4 p5 h0) [] h 0 0 52 #[.val (.int p1), .val (.int p2), .val (.int p3), .val (.int p4), .val (.int p5), .val (.int (2 : Int32)), .val (.int (0 : Int32)), .val (.int m0), .val (.int m1), .val (.int r0), .val (.int r1), .unset, .unset, .unset, .unset] [] := by
  refine Go.iload (pc' := 54) at_52 rfl rfl ?_
  refine Go.iload (pc' := 56) at_54 rfl rfl ?_
  refine Go.iload (pc' := 58) at_56 rfl rfl ?_
  refine Go.callS (pc' := 61) (z := N_45) at_58 rfl (w_1 hw) (w_2 hw) (w_3 hw) (w_4 hw) (by decide) (argsL := [(.int (2 : Int32)), (.int m0), (.int m1)]) (rest := []) (Pays.of_met (W := 0) (len := 3) (m_mk2 hw hs m0 m1 h (hx_m0) (hx_m1)) (w_4 hw) (w_3 hw) (by decide) (by decide)) rfl rfl (lenOf pd_34 rfl) rfl (Nat.le_of_eq rfl) mem0 (by decide) (by decide) ?_
  rintro _ h564 _ K565 le566 ⟨b561, b562, q563, rfl, rfl, p567, p568, p569, p570⟩
  have E_b561 := p567
  have F_b561_coder := p568
  have F_b561_value := p569
  have V_b562 := p570
  change Go _ _ _ _ _ _ _ _ _ _ _ _ _ _ [] h564 3 8 61 #[.val (.int p1), .val (.int p2), .val (.int p3), .val (.int p4), .val (.int p5), .val (.int (2 : Int32)), .val (.int (0 : Int32)), .val (.int m0), .val (.int m1), .val (.int r0), .val (.int r1), .unset, .unset, .unset, .unset] [(.ref b561)]
  refine Go.astore (pc' := 63) (Ls' := #[.val (.int p1), .val (.int p2), .val (.int p3), .val (.int p4), .val (.int p5), .val (.int (2 : Int32)), .val (.int (0 : Int32)), .val (.int m0), .val (.int m1), .val (.int r0), .val (.int r1), .val (.ref b561), .unset, .unset, .unset]) at_61 rfl rfl rfl ?_
  refine Go.iload (pc' := 65) at_63 rfl rfl ?_
  refine Go.iload (pc' := 67) at_65 rfl rfl ?_
  refine Go.iload (pc' := 69) at_67 rfl rfl ?_
  refine Go.callS (pc' := 72) (z := N_45) at_69 rfl (w_1 hw) (w_2 hw) (w_3 hw) (w_4 hw) (by decide) (argsL := [(.int (0 : Int32)), (.int r0), (.int r1)]) (rest := []) (Pays.of_met (W := 0) (len := 3) (m_mk0 hw hs r0 r1 h564 (hx_r0) (hx_r1)) (w_4 hw) (w_3 hw) (by decide) (by decide)) rfl rfl (lenOf pd_34 rfl) rfl (Nat.le_of_eq rfl) mem0 (by decide) (by decide) ?_
  rintro _ h574 _ K575 le576 ⟨b571, b572, q573, rfl, rfl, p577, p578, p579, p580⟩
  replace E_b561 := E_b561.keep K575
  replace F_b561_coder := F_b561_coder.keep K575 nin0
  replace F_b561_value := F_b561_value.keep K575 nin0
  replace V_b562 := V_b562.keep K575 nin0
  have E_b571 := p577
  have F_b571_coder := p578
  have F_b571_value := p579
  have V_b572 := p580
  change Go _ _ _ _ _ _ _ _ _ _ _ _ _ _ [] h574 9 20 72 #[.val (.int p1), .val (.int p2), .val (.int p3), .val (.int p4), .val (.int p5), .val (.int (2 : Int32)), .val (.int (0 : Int32)), .val (.int m0), .val (.int m1), .val (.int r0), .val (.int r1), .val (.ref b561), .unset, .unset, .unset] [(.ref b571)]
  refine Go.astore (pc' := 74) (Ls' := #[.val (.int p1), .val (.int p2), .val (.int p3), .val (.int p4), .val (.int p5), .val (.int (2 : Int32)), .val (.int (0 : Int32)), .val (.int m0), .val (.int m1), .val (.int r0), .val (.int r1), .val (.ref b561), .val (.ref b571), .unset, .unset]) at_72 rfl rfl rfl ?_
  refine Go.aload (pc' := 76) at_74 rfl rfl rfl ?_
  refine Go.aload (pc' := 78) at_76 rfl rfl rfl ?_
  refine Go.callS (pc' := 81) (z := N_30) at_78 rfl (w_27 hw) (w_28 hw) (w_29 hw) (w_30 hw) (by decide) (argsL := [(.ref b561), (.ref b571)]) (rest := []) (Pays.of_met (W := 0) (len := 3) (m_fm hw hs b561 b562 q563 [m0.toInt8.toInt32, m1.toInt8.toInt32] (2 : Int32) b571 b572 q573 ([] : List Int32) (0 : Int32) h574 E_b561 F_b561_coder F_b561_value V_b562 E_b571 F_b571_coder F_b571_value V_b572 (show (2 : Int32).toNatClampNeg = 2 from by decide) (show (0 : Int32).toNatClampNeg = 0 from by decide) (show 2 ≤ 2 from by decide) (show 0 ≤ 2 from by decide) (hst)) (w_30 hw) (w_29 hw) (by decide) (by decide)) rfl rfl (lenOf pd_35 rfl) rfl (Nat.le_of_eq rfl) mem0 (by decide) (by decide) ?_
  rintro _ h585 _ K586 le587 ⟨b581, b582, b583, q584, rfl, rfl, p588, p589, p590, p591, p592, p593⟩
  replace E_b561 := E_b561.keep K586
  replace F_b561_coder := F_b561_coder.keep K586 nin0
  replace F_b561_value := F_b561_value.keep K586 nin0
  replace V_b562 := V_b562.keep K586 nin0
  replace E_b571 := E_b571.keep K586
  replace F_b571_coder := F_b571_coder.keep K586 nin0
  replace F_b571_value := F_b571_value.keep K586 nin0
  replace V_b572 := V_b572.keep K586 nin0
  have E_b581 := p588
  have F_b581_detailMessage := p589
  have E_b582 := p590
  have F_b582_coder := p591
  have F_b582_value := p592
  have V_b583 := p593
  change Go _ _ _ _ _ _ _ _ _ _ _ _ _ _ [] h585 20 2974 81 #[.val (.int p1), .val (.int p2), .val (.int p3), .val (.int p4), .val (.int p5), .val (.int (2 : Int32)), .val (.int (0 : Int32)), .val (.int m0), .val (.int m1), .val (.int r0), .val (.int r1), .val (.ref b561), .val (.ref b571), .unset, .unset] [(.ref b581)]
  refine Go.astore (pc' := 83) (Ls' := #[.val (.int p1), .val (.int p2), .val (.int p3), .val (.int p4), .val (.int p5), .val (.int (2 : Int32)), .val (.int (0 : Int32)), .val (.int m0), .val (.int m1), .val (.int r0), .val (.int r1), .val (.ref b561), .val (.ref b571), .val (.ref b581), .unset]) at_81 rfl rfl rfl ?_
  refine Go.aload (pc' := 85) at_83 rfl rfl rfl ?_
  refine Go.ifnonnullY (pc' := 90) at_85 (by decide) (by decide) ?_
  refine Go.aload (pc' := 92) at_90 rfl rfl rfl ?_
  refine Go.callU (pc' := 95) (u := N_47) (z := N_29) (owner := "java/lang/Throwable") (a := b581) at_92 rfl (w_214 hw) (w_215 hw) (w_216 hw) (by decide) (w_218 hw) (w_217 hw) E_b581 (argsL := []) (rest := []) (Pays.of_met (W := 0) (len := 3) (m_gm hw hs b581 b582 h585 F_b581_detailMessage) (w_219 hw) (w_175 hw) (by decide) (by decide)) rfl rfl (lenOf pd_20 rfl) rfl (Nat.le_of_eq rfl) mem0 (by decide) (by decide) ?_
  rintro _ _ _ - - ⟨rfl, rfl, rfl⟩
  change Go _ _ _ _ _ _ _ _ _ _ _ _ _ _ [] h585 20 2974 95 #[.val (.int p1), .val (.int p2), .val (.int p3), .val (.int p4), .val (.int p5), .val (.int (2 : Int32)), .val (.int (0 : Int32)), .val (.int m0), .val (.int m1), .val (.int r0), .val (.int r1), .val (.ref b561), .val (.ref b571), .val (.ref b581), .unset] [(.ref b582)]
  refine Go.astore (pc' := 97) (Ls' := #[.val (.int p1), .val (.int p2), .val (.int p3), .val (.int p4), .val (.int p5), .val (.int (2 : Int32)), .val (.int (0 : Int32)), .val (.int m0), .val (.int m1), .val (.int r0), .val (.int r1), .val (.ref b561), .val (.ref b571), .val (.ref b581), .val (.ref b582)]) at_95 rfl rfl rfl ?_
  refine Go.aload (pc' := 99) at_97 rfl rfl rfl ?_
  refine Go.ifnullN (pc' := 102) at_99 rfl ?_
  refine Go.aload (pc' := 104) at_102 rfl rfl rfl ?_
  rw [show ((((22 : Int32) + (2 : Int32)) + (2 : Int32)) + (0 : Int32)) = (26 : Int32) from by decide] at V_b583
  rw [show (((PFX ++ [m0.toInt8.toInt32, m1.toInt8.toInt32]) ++ [(58 : Int32), (32 : Int32)]) ++ ([] : List Int32)) = (PFX ++ ([m0.toInt8.toInt32, m1.toInt8.toInt32] ++ ([(58 : Int32), (32 : Int32)] ++ ([] : List Int32)))) from by rw [List.append_assoc, List.append_assoc]] at V_b583
  refine Go.callV (pc' := 107) (u := N_12) (z := N_12) (a := b582) at_104 rfl (w_220 hw) (w_63 hw) (nf (w_65 hw) rfl) (w_65 hw) (w_64 hw) (by decide) E_b582 (argsL := []) (rest := []) (Pays.of_met (W := 0) (len := 3) (m_length hw hs b582 b583 q584 (26 : Int32) ((PFX ++ ([m0.toInt8.toInt32, m1.toInt8.toInt32] ++ ([(58 : Int32), (32 : Int32)] ++ ([] : List Int32)))).map Value.int) h585 E_b582 F_b582_coder F_b582_value V_b583) (w_66 hw) (w_7 hw) (by decide) (by decide)) rfl rfl (lenOf pd_8 rfl) rfl (Nat.le_of_eq rfl) mem0 (by decide) (by decide) ?_
  rintro _ _ _ - - ⟨rfl, rfl, rfl⟩
  change Go _ _ _ _ _ _ _ _ _ _ _ _ _ _ [] h585 20 2974 107 #[.val (.int p1), .val (.int p2), .val (.int p3), .val (.int p4), .val (.int p5), .val (.int (2 : Int32)), .val (.int (0 : Int32)), .val (.int m0), .val (.int m1), .val (.int r0), .val (.int r1), .val (.ref b561), .val (.ref b571), .val (.ref b581), .val (.ref b582)] [(.int (26 : Int32))]
  refine Go.bipush (pc' := 109) at_107 rfl icb_24 ?_
  refine Go.iload (pc' := 111) at_109 rfl rfl ?_
  refine Go.iadd (pc' := 112) at_111 rfl ?_
  rw [show ((24 : Int32) + (2 : Int32)) = (26 : Int32) from by decide]
  refine Go.iload (pc' := 114) at_112 rfl rfl ?_
  refine Go.iadd (pc' := 115) at_114 rfl ?_
  rw [show ((26 : Int32) + (0 : Int32)) = (26 : Int32) from by decide]
  refine Go.icmpY (pc' := 120) at_115 (by decide) (by decide) (teq (rfl : (26 : Int32) = (26 : Int32))).1 ?_
  exact Go.more (k' := 24) (n' := 4000) (by decide) (by decide) (Go.fewer mem0 (m_lawb20 hw hs p1 p2 p3 p4 p5 m0 m1 r0 r1 b561 b571 b581 b582 b583 q584 h0 h585 E_b582 F_b582_coder F_b582_value V_b583 (hx_m0) (hx_m1) (hx_r0) (hx_r1)))
set_option maxRecDepth 65536 in
set_option maxHeartbeats 40000000 in
theorem m_lawb21 {l : Launch} {Z : State} {a0 : Array Value} {n0 : Nat} (hw : ∀ d ∈ tables_1, d.before a0 Z = true) (hs : Stat Z) (p1 : Int32) (p2 : Int32) (p3 : Int32) (p4 : Int32) (p5 : Int32) (m0 : Int32) (m1 : Int32) (r0 : Int32) (r1 : Int32) (s1 : Addr) (s2 : Addr) (e3 : Addr) (n4 : Addr) (t4 : Addr) (k4 : ClassId) (h0 h : Heap) (E_n4 : Exa Z h n4 "java/lang/String") (F_n4_coder : Fld Z h n4 "java/lang/String" "coder" "B" (.int (0 : Int32))) (F_n4_value : Fld Z h n4 "java/lang/String" "value" "[B" (.ref t4)) (V_t4 : Arv Z h t4 k4 .byte (27 : Int32) ((PFX ++ ([m0.toInt8.toInt32, m1.toInt8.toInt32] ++ ([(58 : Int32), (32 : Int32)] ++ [r0.toInt8.toInt32]))).map Value.int) (.int (0 : Int32))) (hx_m0 : ¬ m0 < 0 ∧ ¬ 255 < m0) (hx_m1 : ¬ m1 < 0 ∧ ¬ 255 < m1) (hx_r0 : ¬ r0 < 0 ∧ ¬ 255 < r0) (hx_r1 : ¬ r1 < 0 ∧ ¬ 255 < r1) :
    Go l Z EL0 n0 NR0 KN0 x code maxLocals ret room_1 h0 [] (Q_m_law Z p1 p2 p3 p4 p5 h0) [] h 24 4000 120 #[.val (.int p1), .val (.int p2), .val (.int p3), .val (.int p4), .val (.int p5), .val (.int (2 : Int32)), .val (.int (1 : Int32)), .val (.int m0), .val (.int m1), .val (.int r0), .val (.int r1), .val (.ref s1), .val (.ref s2), .val (.ref e3), .val (.ref n4)] [] := by
  refine Go.aload (pc' := 122) at_120 rfl rfl rfl ?_
  refine Go.callS (pc' := 125) (z := N_46) at_122 rfl (w_221 hw) (w_222 hw) (w_3 hw) (w_223 hw) (by decide) (argsL := [(.ref n4)]) (rest := []) (Pays.of_met (W := 0) (len := 3) (m_pfx hw hs n4 t4 k4 (27 : Int32) ([m0.toInt8.toInt32, m1.toInt8.toInt32] ++ ([(58 : Int32), (32 : Int32)] ++ [r0.toInt8.toInt32])) h E_n4 F_n4_coder F_n4_value V_t4 (by decide)) (w_223 hw) (w_3 hw) (by decide) (by decide)) rfl rfl (lenOf pd_33 rfl) rfl (Nat.le_of_eq rfl) mem0 (by decide) (by decide) ?_
  rintro _ _ _ - - ⟨rfl, rfl, rfl⟩
  change Go _ _ _ _ _ _ _ _ _ _ _ _ _ _ [] h 24 4000 125 #[.val (.int p1), .val (.int p2), .val (.int p3), .val (.int p4), .val (.int p5), .val (.int (2 : Int32)), .val (.int (1 : Int32)), .val (.int m0), .val (.int m1), .val (.int r0), .val (.int r1), .val (.ref s1), .val (.ref s2), .val (.ref e3), .val (.ref n4)] [(.int (1 : Int32))]
  refine Go.ifY (pc' := 130) at_125 (by decide) (by decide) ((if0 _ _).trans (feq (by decide : ¬ ((1 : Int32) = (0 : Int32)))).2) ?_
  refine Go.iload (pc' := 132) at_130 rfl rfl ?_
  refine Go.ifN (pc' := 135) at_132 rfl ((if0 _ _).trans (tlt (by decide : (0 : Int32) < (2 : Int32))).2.2.2) ?_
  refine Go.aload (pc' := 137) at_135 rfl rfl rfl ?_
  refine Go.bipush (pc' := 139) at_137 rfl icb_22 ?_
  refine Go.callV (pc' := 142) (u := N_40) (z := N_40) (a := n4) at_139 rfl (w_224 hw) (w_225 hw) (nf (w_227 hw) rfl) (w_227 hw) (w_226 hw) (by decide) E_n4 (argsL := [(.int (22 : Int32))]) (rest := []) (Pays.of_met (W := 0) (len := 3) (m_charAt hw hs n4 t4 k4 (27 : Int32) ((PFX ++ ([m0.toInt8.toInt32, m1.toInt8.toInt32] ++ ([(58 : Int32), (32 : Int32)] ++ [r0.toInt8.toInt32]))).map Value.int) (22 : Int32) m0.toInt8.toInt32 h E_n4 F_n4_coder F_n4_value V_t4 (⟨by decide, by decide⟩) (rfl)) (w_228 hw) (w_7 hw) (by decide) (by decide)) rfl rfl (lenOf pd_32 rfl) rfl (Nat.le_of_eq rfl) mem0 (by decide) (by decide) ?_
  rintro _ _ _ - - ⟨rfl, rfl, rfl⟩
  change Go _ _ _ _ _ _ _ _ _ _ _ _ _ _ [] h 24 4000 142 #[.val (.int p1), .val (.int p2), .val (.int p3), .val (.int p4), .val (.int p5), .val (.int (2 : Int32)), .val (.int (1 : Int32)), .val (.int m0), .val (.int m1), .val (.int r0), .val (.int r1), .val (.ref s1), .val (.ref s2), .val (.ref e3), .val (.ref n4)] [(.int (m0.toInt8.toInt32 &&& (255 : Int32)).toUInt32.toUInt16.toUInt32.toInt32)]
  rw [own_lowback hx_m0.1 hx_m0.2]
  refine Go.iload (pc' := 144) at_142 rfl rfl ?_
  refine Go.icmpY (pc' := 149) at_144 (by decide) (by decide) (teq (rfl : m0 = m0)).1 ?_
  refine Go.iload (pc' := 151) at_149 rfl rfl ?_
  refine Go.iconst (pc' := 152) at_151 rfl ic_1 ?_
  refine Go.icmpN (pc' := 155) at_152 rfl (tlt (by decide : (1 : Int32) < (2 : Int32))).2.2.2 ?_
  refine Go.aload (pc' := 157) at_155 rfl rfl rfl ?_
  refine Go.bipush (pc' := 159) at_157 rfl icb_23 ?_
  refine Go.callV (pc' := 162) (u := N_40) (z := N_40) (a := n4) at_159 rfl (w_224 hw) (w_225 hw) (nf (w_227 hw) rfl) (w_227 hw) (w_226 hw) (by decide) E_n4 (argsL := [(.int (23 : Int32))]) (rest := []) (Pays.of_met (W := 0) (len := 3) (m_charAt hw hs n4 t4 k4 (27 : Int32) ((PFX ++ ([m0.toInt8.toInt32, m1.toInt8.toInt32] ++ ([(58 : Int32), (32 : Int32)] ++ [r0.toInt8.toInt32]))).map Value.int) (23 : Int32) m1.toInt8.toInt32 h E_n4 F_n4_coder F_n4_value V_t4 (⟨by decide, by decide⟩) (rfl)) (w_228 hw) (w_7 hw) (by decide) (by decide)) rfl rfl (lenOf pd_32 rfl) rfl (Nat.le_of_eq rfl) mem0 (by decide) (by decide) ?_
  rintro _ _ _ - - ⟨rfl, rfl, rfl⟩
  change Go _ _ _ _ _ _ _ _ _ _ _ _ _ _ [] h 24 4000 162 #[.val (.int p1), .val (.int p2), .val (.int p3), .val (.int p4), .val (.int p5), .val (.int (2 : Int32)), .val (.int (1 : Int32)), .val (.int m0), .val (.int m1), .val (.int r0), .val (.int r1), .val (.ref s1), .val (.ref s2), .val (.ref e3), .val (.ref n4)] [(.int (m1.toInt8.toInt32 &&& (255 : Int32)).toUInt32.toUInt16.toUInt32.toInt32)]
  rw [own_lowback hx_m1.1 hx_m1.2]
  refine Go.iload (pc' := 164) at_162 rfl rfl ?_
  refine Go.icmpY (pc' := 169) at_164 (by decide) (by decide) (teq (rfl : m1 = m1)).1 ?_
  refine Go.aload (pc' := 171) at_169 rfl rfl rfl ?_
  refine Go.bipush (pc' := 173) at_171 rfl icb_22 ?_
  refine Go.iload (pc' := 175) at_173 rfl rfl ?_
  refine Go.iadd (pc' := 176) at_175 rfl ?_
  rw [show ((22 : Int32) + (2 : Int32)) = (24 : Int32) from by decide]
  refine Go.callV (pc' := 179) (u := N_40) (z := N_40) (a := n4) at_176 rfl (w_224 hw) (w_225 hw) (nf (w_227 hw) rfl) (w_227 hw) (w_226 hw) (by decide) E_n4 (argsL := [(.int (24 : Int32))]) (rest := []) (Pays.of_met (W := 0) (len := 3) (m_charAt hw hs n4 t4 k4 (27 : Int32) ((PFX ++ ([m0.toInt8.toInt32, m1.toInt8.toInt32] ++ ([(58 : Int32), (32 : Int32)] ++ [r0.toInt8.toInt32]))).map Value.int) (24 : Int32) (58 : Int32) h E_n4 F_n4_coder F_n4_value V_t4 (⟨by decide, by decide⟩) (rfl)) (w_228 hw) (w_7 hw) (by decide) (by decide)) rfl rfl (lenOf pd_32 rfl) rfl (Nat.le_of_eq rfl) mem0 (by decide) (by decide) ?_
  rintro _ _ _ - - ⟨rfl, rfl, rfl⟩
  change Go _ _ _ _ _ _ _ _ _ _ _ _ _ _ [] h 24 4000 179 #[.val (.int p1), .val (.int p2), .val (.int p3), .val (.int p4), .val (.int p5), .val (.int (2 : Int32)), .val (.int (1 : Int32)), .val (.int m0), .val (.int m1), .val (.int r0), .val (.int r1), .val (.ref s1), .val (.ref s2), .val (.ref e3), .val (.ref n4)] [(.int ((58 : Int32) &&& (255 : Int32)).toUInt32.toUInt16.toUInt32.toInt32)]
  rw [show ((58 : Int32) &&& (255 : Int32)).toUInt32.toUInt16.toUInt32.toInt32 = (58 : Int32) from by decide]
  refine Go.bipush (pc' := 181) at_179 rfl icb_58 ?_
  refine Go.icmpN (pc' := 184) at_181 rfl (teq (rfl : (58 : Int32) = (58 : Int32))).2 ?_
  refine Go.aload (pc' := 186) at_184 rfl rfl rfl ?_
  refine Go.bipush (pc' := 188) at_186 rfl icb_23 ?_
  refine Go.iload (pc' := 190) at_188 rfl rfl ?_
  refine Go.iadd (pc' := 191) at_190 rfl ?_
  rw [show ((23 : Int32) + (2 : Int32)) = (25 : Int32) from by decide]
  refine Go.callV (pc' := 194) (u := N_40) (z := N_40) (a := n4) at_191 rfl (w_224 hw) (w_225 hw) (nf (w_227 hw) rfl) (w_227 hw) (w_226 hw) (by decide) E_n4 (argsL := [(.int (25 : Int32))]) (rest := []) (Pays.of_met (W := 0) (len := 3) (m_charAt hw hs n4 t4 k4 (27 : Int32) ((PFX ++ ([m0.toInt8.toInt32, m1.toInt8.toInt32] ++ ([(58 : Int32), (32 : Int32)] ++ [r0.toInt8.toInt32]))).map Value.int) (25 : Int32) (32 : Int32) h E_n4 F_n4_coder F_n4_value V_t4 (⟨by decide, by decide⟩) (rfl)) (w_228 hw) (w_7 hw) (by decide) (by decide)) rfl rfl (lenOf pd_32 rfl) rfl (Nat.le_of_eq rfl) mem0 (by decide) (by decide) ?_
  rintro _ _ _ - - ⟨rfl, rfl, rfl⟩
  change Go _ _ _ _ _ _ _ _ _ _ _ _ _ _ [] h 24 4000 194 #[.val (.int p1), .val (.int p2), .val (.int p3), .val (.int p4), .val (.int p5), .val (.int (2 : Int32)), .val (.int (1 : Int32)), .val (.int m0), .val (.int m1), .val (.int r0), .val (.int r1), .val (.ref s1), .val (.ref s2), .val (.ref e3), .val (.ref n4)] [(.int ((32 : Int32) &&& (255 : Int32)).toUInt32.toUInt16.toUInt32.toInt32)]
  rw [show ((32 : Int32) &&& (255 : Int32)).toUInt32.toUInt16.toUInt32.toInt32 = (32 : Int32) from by decide]
  refine Go.bipush (pc' := 196) at_194 rfl icb_32 ?_
  refine Go.icmpY (pc' := 201) at_196 (by decide) (by decide) (teq (rfl : (32 : Int32) = (32 : Int32))).1 ?_
  refine Go.iload (pc' := 203) at_201 rfl rfl ?_
  refine Go.ifN (pc' := 206) at_203 rfl ((if0 _ _).trans (tlt (by decide : (0 : Int32) < (1 : Int32))).2.2.2) ?_
  refine Go.aload (pc' := 208) at_206 rfl rfl rfl ?_
  refine Go.bipush (pc' := 210) at_208 rfl icb_24 ?_
  refine Go.iload (pc' := 212) at_210 rfl rfl ?_
  refine Go.iadd (pc' := 213) at_212 rfl ?_
  rw [show ((24 : Int32) + (2 : Int32)) = (26 : Int32) from by decide]
  refine Go.callV (pc' := 216) (u := N_40) (z := N_40) (a := n4) at_213 rfl (w_224 hw) (w_225 hw) (nf (w_227 hw) rfl) (w_227 hw) (w_226 hw) (by decide) E_n4 (argsL := [(.int (26 : Int32))]) (rest := []) (Pays.of_met (W := 0) (len := 3) (m_charAt hw hs n4 t4 k4 (27 : Int32) ((PFX ++ ([m0.toInt8.toInt32, m1.toInt8.toInt32] ++ ([(58 : Int32), (32 : Int32)] ++ [r0.toInt8.toInt32]))).map Value.int) (26 : Int32) r0.toInt8.toInt32 h E_n4 F_n4_coder F_n4_value V_t4 (⟨by decide, by decide⟩) (rfl)) (w_228 hw) (w_7 hw) (by decide) (by decide)) rfl rfl (lenOf pd_32 rfl) rfl (Nat.le_of_eq rfl) mem0 (by decide) (by decide) ?_
  rintro _ _ _ - - ⟨rfl, rfl, rfl⟩
  change Go _ _ _ _ _ _ _ _ _ _ _ _ _ _ [] h 24 4000 216 #[.val (.int p1), .val (.int p2), .val (.int p3), .val (.int p4), .val (.int p5), .val (.int (2 : Int32)), .val (.int (1 : Int32)), .val (.int m0), .val (.int m1), .val (.int r0), .val (.int r1), .val (.ref s1), .val (.ref s2), .val (.ref e3), .val (.ref n4)] [(.int (r0.toInt8.toInt32 &&& (255 : Int32)).toUInt32.toUInt16.toUInt32.toInt32)]
  rw [own_lowback hx_r0.1 hx_r0.2]
  refine Go.iload (pc' := 218) at_216 rfl rfl ?_
  refine Go.icmpY (pc' := 223) at_218 (by decide) (by decide) (teq (rfl : r0 = r0)).1 ?_
  refine Go.iload (pc' := 225) at_223 rfl rfl ?_
  refine Go.iconst (pc' := 226) at_225 rfl ic_1 ?_
  refine Go.icmpY (pc' := 246) at_226 (by decide) (by decide) (flt (by decide : ¬ ((1 : Int32) < (1 : Int32)))).2.2.2 ?_
  refine Go.iconst (pc' := 247) at_246 rfl ic_1 ?_
  exact Go.retS (ty := .boolean) at_247 rfl (by simp) rfl (by decide) (by decide) [] sn0 ⟨rfl, rfl⟩
set_option maxRecDepth 65536 in
set_option maxHeartbeats 40000000 in
theorem m_lawa21 {l : Launch} {Z : State} {a0 : Array Value} {n0 : Nat} (hw : ∀ d ∈ tables_1, d.before a0 Z = true) (hs : Stat Z) (p1 : Int32) (p2 : Int32) (p3 : Int32) (p4 : Int32) (p5 : Int32) (m0 : Int32) (m1 : Int32) (r0 : Int32) (r1 : Int32) (h0 h : Heap) (hx_m0 : ¬ m0 < 0 ∧ ¬ 255 < m0) (hx_m1 : ¬ m1 < 0 ∧ ¬ 255 < m1) (hx_r0 : ¬ r0 < 0 ∧ ¬ 255 < r0) (hx_r1 : ¬ r1 < 0 ∧ ¬ 255 < r1) (hst : l.stackTraces = true) :
    Go l Z EL0 n0 NR0 KN0 x code maxLocals ret room_1 h0 [] (Q_m_law Z p1 p2 p3 p4 p5 h0) [] h 0 0 52 #[.val (.int p1), .val (.int p2), .val (.int p3), .val (.int p4), .val (.int p5), .val (.int (2 : Int32)), .val (.int (1 : Int32)), .val (.int m0), .val (.int m1), .val (.int r0), .val (.int r1), .unset, .unset, .unset, .unset] [] := by
  refine Go.iload (pc' := 54) at_52 rfl rfl ?_
  refine Go.iload (pc' := 56) at_54 rfl rfl ?_
  refine Go.iload (pc' := 58) at_56 rfl rfl ?_
  refine Go.callS (pc' := 61) (z := N_45) at_58 rfl (w_1 hw) (w_2 hw) (w_3 hw) (w_4 hw) (by decide) (argsL := [(.int (2 : Int32)), (.int m0), (.int m1)]) (rest := []) (Pays.of_met (W := 0) (len := 3) (m_mk2 hw hs m0 m1 h (hx_m0) (hx_m1)) (w_4 hw) (w_3 hw) (by decide) (by decide)) rfl rfl (lenOf pd_34 rfl) rfl (Nat.le_of_eq rfl) mem0 (by decide) (by decide) ?_
  rintro _ h597 _ K598 le599 ⟨b594, b595, q596, rfl, rfl, p600, p601, p602, p603⟩
  have E_b594 := p600
  have F_b594_coder := p601
  have F_b594_value := p602
  have V_b595 := p603
  change Go _ _ _ _ _ _ _ _ _ _ _ _ _ _ [] h597 3 8 61 #[.val (.int p1), .val (.int p2), .val (.int p3), .val (.int p4), .val (.int p5), .val (.int (2 : Int32)), .val (.int (1 : Int32)), .val (.int m0), .val (.int m1), .val (.int r0), .val (.int r1), .unset, .unset, .unset, .unset] [(.ref b594)]
  refine Go.astore (pc' := 63) (Ls' := #[.val (.int p1), .val (.int p2), .val (.int p3), .val (.int p4), .val (.int p5), .val (.int (2 : Int32)), .val (.int (1 : Int32)), .val (.int m0), .val (.int m1), .val (.int r0), .val (.int r1), .val (.ref b594), .unset, .unset, .unset]) at_61 rfl rfl rfl ?_
  refine Go.iload (pc' := 65) at_63 rfl rfl ?_
  refine Go.iload (pc' := 67) at_65 rfl rfl ?_
  refine Go.iload (pc' := 69) at_67 rfl rfl ?_
  refine Go.callS (pc' := 72) (z := N_45) at_69 rfl (w_1 hw) (w_2 hw) (w_3 hw) (w_4 hw) (by decide) (argsL := [(.int (1 : Int32)), (.int r0), (.int r1)]) (rest := []) (Pays.of_met (W := 0) (len := 3) (m_mk1 hw hs r0 r1 h597 (hx_r0) (hx_r1)) (w_4 hw) (w_3 hw) (by decide) (by decide)) rfl rfl (lenOf pd_34 rfl) rfl (Nat.le_of_eq rfl) mem0 (by decide) (by decide) ?_
  rintro _ h607 _ K608 le609 ⟨b604, b605, q606, rfl, rfl, p610, p611, p612, p613⟩
  replace E_b594 := E_b594.keep K608
  replace F_b594_coder := F_b594_coder.keep K608 nin0
  replace F_b594_value := F_b594_value.keep K608 nin0
  replace V_b595 := V_b595.keep K608 nin0
  have E_b604 := p610
  have F_b604_coder := p611
  have F_b604_value := p612
  have V_b605 := p613
  change Go _ _ _ _ _ _ _ _ _ _ _ _ _ _ [] h607 5 13 72 #[.val (.int p1), .val (.int p2), .val (.int p3), .val (.int p4), .val (.int p5), .val (.int (2 : Int32)), .val (.int (1 : Int32)), .val (.int m0), .val (.int m1), .val (.int r0), .val (.int r1), .val (.ref b594), .unset, .unset, .unset] [(.ref b604)]
  refine Go.astore (pc' := 74) (Ls' := #[.val (.int p1), .val (.int p2), .val (.int p3), .val (.int p4), .val (.int p5), .val (.int (2 : Int32)), .val (.int (1 : Int32)), .val (.int m0), .val (.int m1), .val (.int r0), .val (.int r1), .val (.ref b594), .val (.ref b604), .unset, .unset]) at_72 rfl rfl rfl ?_
  refine Go.aload (pc' := 76) at_74 rfl rfl rfl ?_
  refine Go.aload (pc' := 78) at_76 rfl rfl rfl ?_
  refine Go.callS (pc' := 81) (z := N_30) at_78 rfl (w_27 hw) (w_28 hw) (w_29 hw) (w_30 hw) (by decide) (argsL := [(.ref b594), (.ref b604)]) (rest := []) (Pays.of_met (W := 0) (len := 3) (m_fm hw hs b594 b595 q596 [m0.toInt8.toInt32, m1.toInt8.toInt32] (2 : Int32) b604 b605 q606 [r0.toInt8.toInt32] (1 : Int32) h607 E_b594 F_b594_coder F_b594_value V_b595 E_b604 F_b604_coder F_b604_value V_b605 (show (2 : Int32).toNatClampNeg = 2 from by decide) (show (1 : Int32).toNatClampNeg = 1 from by decide) (show 2 ≤ 2 from by decide) (show 1 ≤ 2 from by decide) (hst)) (w_30 hw) (w_29 hw) (by decide) (by decide)) rfl rfl (lenOf pd_35 rfl) rfl (Nat.le_of_eq rfl) mem0 (by decide) (by decide) ?_
  rintro _ h618 _ K619 le620 ⟨b614, b615, b616, q617, rfl, rfl, p621, p622, p623, p624, p625, p626⟩
  replace E_b594 := E_b594.keep K619
  replace F_b594_coder := F_b594_coder.keep K619 nin0
  replace F_b594_value := F_b594_value.keep K619 nin0
  replace V_b595 := V_b595.keep K619 nin0
  replace E_b604 := E_b604.keep K619
  replace F_b604_coder := F_b604_coder.keep K619 nin0
  replace F_b604_value := F_b604_value.keep K619 nin0
  replace V_b605 := V_b605.keep K619 nin0
  have E_b614 := p621
  have F_b614_detailMessage := p622
  have E_b615 := p623
  have F_b615_coder := p624
  have F_b615_value := p625
  have V_b616 := p626
  change Go _ _ _ _ _ _ _ _ _ _ _ _ _ _ [] h618 16 2967 81 #[.val (.int p1), .val (.int p2), .val (.int p3), .val (.int p4), .val (.int p5), .val (.int (2 : Int32)), .val (.int (1 : Int32)), .val (.int m0), .val (.int m1), .val (.int r0), .val (.int r1), .val (.ref b594), .val (.ref b604), .unset, .unset] [(.ref b614)]
  refine Go.astore (pc' := 83) (Ls' := #[.val (.int p1), .val (.int p2), .val (.int p3), .val (.int p4), .val (.int p5), .val (.int (2 : Int32)), .val (.int (1 : Int32)), .val (.int m0), .val (.int m1), .val (.int r0), .val (.int r1), .val (.ref b594), .val (.ref b604), .val (.ref b614), .unset]) at_81 rfl rfl rfl ?_
  refine Go.aload (pc' := 85) at_83 rfl rfl rfl ?_
  refine Go.ifnonnullY (pc' := 90) at_85 (by decide) (by decide) ?_
  refine Go.aload (pc' := 92) at_90 rfl rfl rfl ?_
  refine Go.callU (pc' := 95) (u := N_47) (z := N_29) (owner := "java/lang/Throwable") (a := b614) at_92 rfl (w_214 hw) (w_215 hw) (w_216 hw) (by decide) (w_218 hw) (w_217 hw) E_b614 (argsL := []) (rest := []) (Pays.of_met (W := 0) (len := 3) (m_gm hw hs b614 b615 h618 F_b614_detailMessage) (w_219 hw) (w_175 hw) (by decide) (by decide)) rfl rfl (lenOf pd_20 rfl) rfl (Nat.le_of_eq rfl) mem0 (by decide) (by decide) ?_
  rintro _ _ _ - - ⟨rfl, rfl, rfl⟩
  change Go _ _ _ _ _ _ _ _ _ _ _ _ _ _ [] h618 16 2967 95 #[.val (.int p1), .val (.int p2), .val (.int p3), .val (.int p4), .val (.int p5), .val (.int (2 : Int32)), .val (.int (1 : Int32)), .val (.int m0), .val (.int m1), .val (.int r0), .val (.int r1), .val (.ref b594), .val (.ref b604), .val (.ref b614), .unset] [(.ref b615)]
  refine Go.astore (pc' := 97) (Ls' := #[.val (.int p1), .val (.int p2), .val (.int p3), .val (.int p4), .val (.int p5), .val (.int (2 : Int32)), .val (.int (1 : Int32)), .val (.int m0), .val (.int m1), .val (.int r0), .val (.int r1), .val (.ref b594), .val (.ref b604), .val (.ref b614), .val (.ref b615)]) at_95 rfl rfl rfl ?_
  refine Go.aload (pc' := 99) at_97 rfl rfl rfl ?_
  refine Go.ifnullN (pc' := 102) at_99 rfl ?_
  refine Go.aload (pc' := 104) at_102 rfl rfl rfl ?_
  rw [show ((((22 : Int32) + (2 : Int32)) + (2 : Int32)) + (1 : Int32)) = (27 : Int32) from by decide] at V_b616
  rw [show (((PFX ++ [m0.toInt8.toInt32, m1.toInt8.toInt32]) ++ [(58 : Int32), (32 : Int32)]) ++ [r0.toInt8.toInt32]) = (PFX ++ ([m0.toInt8.toInt32, m1.toInt8.toInt32] ++ ([(58 : Int32), (32 : Int32)] ++ [r0.toInt8.toInt32]))) from by rw [List.append_assoc, List.append_assoc]] at V_b616
  refine Go.callV (pc' := 107) (u := N_12) (z := N_12) (a := b615) at_104 rfl (w_220 hw) (w_63 hw) (nf (w_65 hw) rfl) (w_65 hw) (w_64 hw) (by decide) E_b615 (argsL := []) (rest := []) (Pays.of_met (W := 0) (len := 3) (m_length hw hs b615 b616 q617 (27 : Int32) ((PFX ++ ([m0.toInt8.toInt32, m1.toInt8.toInt32] ++ ([(58 : Int32), (32 : Int32)] ++ [r0.toInt8.toInt32]))).map Value.int) h618 E_b615 F_b615_coder F_b615_value V_b616) (w_66 hw) (w_7 hw) (by decide) (by decide)) rfl rfl (lenOf pd_8 rfl) rfl (Nat.le_of_eq rfl) mem0 (by decide) (by decide) ?_
  rintro _ _ _ - - ⟨rfl, rfl, rfl⟩
  change Go _ _ _ _ _ _ _ _ _ _ _ _ _ _ [] h618 16 2967 107 #[.val (.int p1), .val (.int p2), .val (.int p3), .val (.int p4), .val (.int p5), .val (.int (2 : Int32)), .val (.int (1 : Int32)), .val (.int m0), .val (.int m1), .val (.int r0), .val (.int r1), .val (.ref b594), .val (.ref b604), .val (.ref b614), .val (.ref b615)] [(.int (27 : Int32))]
  refine Go.bipush (pc' := 109) at_107 rfl icb_24 ?_
  refine Go.iload (pc' := 111) at_109 rfl rfl ?_
  refine Go.iadd (pc' := 112) at_111 rfl ?_
  rw [show ((24 : Int32) + (2 : Int32)) = (26 : Int32) from by decide]
  refine Go.iload (pc' := 114) at_112 rfl rfl ?_
  refine Go.iadd (pc' := 115) at_114 rfl ?_
  rw [show ((26 : Int32) + (1 : Int32)) = (27 : Int32) from by decide]
  refine Go.icmpY (pc' := 120) at_115 (by decide) (by decide) (teq (rfl : (27 : Int32) = (27 : Int32))).1 ?_
  exact Go.more (k' := 24) (n' := 4000) (by decide) (by decide) (Go.fewer mem0 (m_lawb21 hw hs p1 p2 p3 p4 p5 m0 m1 r0 r1 b594 b604 b614 b615 b616 q617 h0 h618 E_b615 F_b615_coder F_b615_value V_b616 (hx_m0) (hx_m1) (hx_r0) (hx_r1)))
set_option maxRecDepth 65536 in
set_option maxHeartbeats 40000000 in
theorem m_lawb22 {l : Launch} {Z : State} {a0 : Array Value} {n0 : Nat} (hw : ∀ d ∈ tables_1, d.before a0 Z = true) (hs : Stat Z) (p1 : Int32) (p2 : Int32) (p3 : Int32) (p4 : Int32) (p5 : Int32) (m0 : Int32) (m1 : Int32) (r0 : Int32) (r1 : Int32) (s1 : Addr) (s2 : Addr) (e3 : Addr) (n4 : Addr) (t4 : Addr) (k4 : ClassId) (h0 h : Heap) (E_n4 : Exa Z h n4 "java/lang/String") (F_n4_coder : Fld Z h n4 "java/lang/String" "coder" "B" (.int (0 : Int32))) (F_n4_value : Fld Z h n4 "java/lang/String" "value" "[B" (.ref t4)) (V_t4 : Arv Z h t4 k4 .byte (28 : Int32) ((PFX ++ ([m0.toInt8.toInt32, m1.toInt8.toInt32] ++ ([(58 : Int32), (32 : Int32)] ++ [r0.toInt8.toInt32, r1.toInt8.toInt32]))).map Value.int) (.int (0 : Int32))) (hx_m0 : ¬ m0 < 0 ∧ ¬ 255 < m0) (hx_m1 : ¬ m1 < 0 ∧ ¬ 255 < m1) (hx_r0 : ¬ r0 < 0 ∧ ¬ 255 < r0) (hx_r1 : ¬ r1 < 0 ∧ ¬ 255 < r1) :
    Go l Z EL0 n0 NR0 KN0 x code maxLocals ret room_1 h0 [] (Q_m_law Z p1 p2 p3 p4 p5 h0) [] h 24 4000 120 #[.val (.int p1), .val (.int p2), .val (.int p3), .val (.int p4), .val (.int p5), .val (.int (2 : Int32)), .val (.int (2 : Int32)), .val (.int m0), .val (.int m1), .val (.int r0), .val (.int r1), .val (.ref s1), .val (.ref s2), .val (.ref e3), .val (.ref n4)] [] := by
  refine Go.aload (pc' := 122) at_120 rfl rfl rfl ?_
  refine Go.callS (pc' := 125) (z := N_46) at_122 rfl (w_221 hw) (w_222 hw) (w_3 hw) (w_223 hw) (by decide) (argsL := [(.ref n4)]) (rest := []) (Pays.of_met (W := 0) (len := 3) (m_pfx hw hs n4 t4 k4 (28 : Int32) ([m0.toInt8.toInt32, m1.toInt8.toInt32] ++ ([(58 : Int32), (32 : Int32)] ++ [r0.toInt8.toInt32, r1.toInt8.toInt32])) h E_n4 F_n4_coder F_n4_value V_t4 (by decide)) (w_223 hw) (w_3 hw) (by decide) (by decide)) rfl rfl (lenOf pd_33 rfl) rfl (Nat.le_of_eq rfl) mem0 (by decide) (by decide) ?_
  rintro _ _ _ - - ⟨rfl, rfl, rfl⟩
  change Go _ _ _ _ _ _ _ _ _ _ _ _ _ _ [] h 24 4000 125 #[.val (.int p1), .val (.int p2), .val (.int p3), .val (.int p4), .val (.int p5), .val (.int (2 : Int32)), .val (.int (2 : Int32)), .val (.int m0), .val (.int m1), .val (.int r0), .val (.int r1), .val (.ref s1), .val (.ref s2), .val (.ref e3), .val (.ref n4)] [(.int (1 : Int32))]
  refine Go.ifY (pc' := 130) at_125 (by decide) (by decide) ((if0 _ _).trans (feq (by decide : ¬ ((1 : Int32) = (0 : Int32)))).2) ?_
  refine Go.iload (pc' := 132) at_130 rfl rfl ?_
  refine Go.ifN (pc' := 135) at_132 rfl ((if0 _ _).trans (tlt (by decide : (0 : Int32) < (2 : Int32))).2.2.2) ?_
  refine Go.aload (pc' := 137) at_135 rfl rfl rfl ?_
  refine Go.bipush (pc' := 139) at_137 rfl icb_22 ?_
  refine Go.callV (pc' := 142) (u := N_40) (z := N_40) (a := n4) at_139 rfl (w_224 hw) (w_225 hw) (nf (w_227 hw) rfl) (w_227 hw) (w_226 hw) (by decide) E_n4 (argsL := [(.int (22 : Int32))]) (rest := []) (Pays.of_met (W := 0) (len := 3) (m_charAt hw hs n4 t4 k4 (28 : Int32) ((PFX ++ ([m0.toInt8.toInt32, m1.toInt8.toInt32] ++ ([(58 : Int32), (32 : Int32)] ++ [r0.toInt8.toInt32, r1.toInt8.toInt32]))).map Value.int) (22 : Int32) m0.toInt8.toInt32 h E_n4 F_n4_coder F_n4_value V_t4 (⟨by decide, by decide⟩) (rfl)) (w_228 hw) (w_7 hw) (by decide) (by decide)) rfl rfl (lenOf pd_32 rfl) rfl (Nat.le_of_eq rfl) mem0 (by decide) (by decide) ?_
  rintro _ _ _ - - ⟨rfl, rfl, rfl⟩
  change Go _ _ _ _ _ _ _ _ _ _ _ _ _ _ [] h 24 4000 142 #[.val (.int p1), .val (.int p2), .val (.int p3), .val (.int p4), .val (.int p5), .val (.int (2 : Int32)), .val (.int (2 : Int32)), .val (.int m0), .val (.int m1), .val (.int r0), .val (.int r1), .val (.ref s1), .val (.ref s2), .val (.ref e3), .val (.ref n4)] [(.int (m0.toInt8.toInt32 &&& (255 : Int32)).toUInt32.toUInt16.toUInt32.toInt32)]
  rw [own_lowback hx_m0.1 hx_m0.2]
  refine Go.iload (pc' := 144) at_142 rfl rfl ?_
  refine Go.icmpY (pc' := 149) at_144 (by decide) (by decide) (teq (rfl : m0 = m0)).1 ?_
  refine Go.iload (pc' := 151) at_149 rfl rfl ?_
  refine Go.iconst (pc' := 152) at_151 rfl ic_1 ?_
  refine Go.icmpN (pc' := 155) at_152 rfl (tlt (by decide : (1 : Int32) < (2 : Int32))).2.2.2 ?_
  refine Go.aload (pc' := 157) at_155 rfl rfl rfl ?_
  refine Go.bipush (pc' := 159) at_157 rfl icb_23 ?_
  refine Go.callV (pc' := 162) (u := N_40) (z := N_40) (a := n4) at_159 rfl (w_224 hw) (w_225 hw) (nf (w_227 hw) rfl) (w_227 hw) (w_226 hw) (by decide) E_n4 (argsL := [(.int (23 : Int32))]) (rest := []) (Pays.of_met (W := 0) (len := 3) (m_charAt hw hs n4 t4 k4 (28 : Int32) ((PFX ++ ([m0.toInt8.toInt32, m1.toInt8.toInt32] ++ ([(58 : Int32), (32 : Int32)] ++ [r0.toInt8.toInt32, r1.toInt8.toInt32]))).map Value.int) (23 : Int32) m1.toInt8.toInt32 h E_n4 F_n4_coder F_n4_value V_t4 (⟨by decide, by decide⟩) (rfl)) (w_228 hw) (w_7 hw) (by decide) (by decide)) rfl rfl (lenOf pd_32 rfl) rfl (Nat.le_of_eq rfl) mem0 (by decide) (by decide) ?_
  rintro _ _ _ - - ⟨rfl, rfl, rfl⟩
  change Go _ _ _ _ _ _ _ _ _ _ _ _ _ _ [] h 24 4000 162 #[.val (.int p1), .val (.int p2), .val (.int p3), .val (.int p4), .val (.int p5), .val (.int (2 : Int32)), .val (.int (2 : Int32)), .val (.int m0), .val (.int m1), .val (.int r0), .val (.int r1), .val (.ref s1), .val (.ref s2), .val (.ref e3), .val (.ref n4)] [(.int (m1.toInt8.toInt32 &&& (255 : Int32)).toUInt32.toUInt16.toUInt32.toInt32)]
  rw [own_lowback hx_m1.1 hx_m1.2]
  refine Go.iload (pc' := 164) at_162 rfl rfl ?_
  refine Go.icmpY (pc' := 169) at_164 (by decide) (by decide) (teq (rfl : m1 = m1)).1 ?_
  refine Go.aload (pc' := 171) at_169 rfl rfl rfl ?_
  refine Go.bipush (pc' := 173) at_171 rfl icb_22 ?_
  refine Go.iload (pc' := 175) at_173 rfl rfl ?_
  refine Go.iadd (pc' := 176) at_175 rfl ?_
  rw [show ((22 : Int32) + (2 : Int32)) = (24 : Int32) from by decide]
  refine Go.callV (pc' := 179) (u := N_40) (z := N_40) (a := n4) at_176 rfl (w_224 hw) (w_225 hw) (nf (w_227 hw) rfl) (w_227 hw) (w_226 hw) (by decide) E_n4 (argsL := [(.int (24 : Int32))]) (rest := []) (Pays.of_met (W := 0) (len := 3) (m_charAt hw hs n4 t4 k4 (28 : Int32) ((PFX ++ ([m0.toInt8.toInt32, m1.toInt8.toInt32] ++ ([(58 : Int32), (32 : Int32)] ++ [r0.toInt8.toInt32, r1.toInt8.toInt32]))).map Value.int) (24 : Int32) (58 : Int32) h E_n4 F_n4_coder F_n4_value V_t4 (⟨by decide, by decide⟩) (rfl)) (w_228 hw) (w_7 hw) (by decide) (by decide)) rfl rfl (lenOf pd_32 rfl) rfl (Nat.le_of_eq rfl) mem0 (by decide) (by decide) ?_
  rintro _ _ _ - - ⟨rfl, rfl, rfl⟩
  change Go _ _ _ _ _ _ _ _ _ _ _ _ _ _ [] h 24 4000 179 #[.val (.int p1), .val (.int p2), .val (.int p3), .val (.int p4), .val (.int p5), .val (.int (2 : Int32)), .val (.int (2 : Int32)), .val (.int m0), .val (.int m1), .val (.int r0), .val (.int r1), .val (.ref s1), .val (.ref s2), .val (.ref e3), .val (.ref n4)] [(.int ((58 : Int32) &&& (255 : Int32)).toUInt32.toUInt16.toUInt32.toInt32)]
  rw [show ((58 : Int32) &&& (255 : Int32)).toUInt32.toUInt16.toUInt32.toInt32 = (58 : Int32) from by decide]
  refine Go.bipush (pc' := 181) at_179 rfl icb_58 ?_
  refine Go.icmpN (pc' := 184) at_181 rfl (teq (rfl : (58 : Int32) = (58 : Int32))).2 ?_
  refine Go.aload (pc' := 186) at_184 rfl rfl rfl ?_
  refine Go.bipush (pc' := 188) at_186 rfl icb_23 ?_
  refine Go.iload (pc' := 190) at_188 rfl rfl ?_
  refine Go.iadd (pc' := 191) at_190 rfl ?_
  rw [show ((23 : Int32) + (2 : Int32)) = (25 : Int32) from by decide]
  refine Go.callV (pc' := 194) (u := N_40) (z := N_40) (a := n4) at_191 rfl (w_224 hw) (w_225 hw) (nf (w_227 hw) rfl) (w_227 hw) (w_226 hw) (by decide) E_n4 (argsL := [(.int (25 : Int32))]) (rest := []) (Pays.of_met (W := 0) (len := 3) (m_charAt hw hs n4 t4 k4 (28 : Int32) ((PFX ++ ([m0.toInt8.toInt32, m1.toInt8.toInt32] ++ ([(58 : Int32), (32 : Int32)] ++ [r0.toInt8.toInt32, r1.toInt8.toInt32]))).map Value.int) (25 : Int32) (32 : Int32) h E_n4 F_n4_coder F_n4_value V_t4 (⟨by decide, by decide⟩) (rfl)) (w_228 hw) (w_7 hw) (by decide) (by decide)) rfl rfl (lenOf pd_32 rfl) rfl (Nat.le_of_eq rfl) mem0 (by decide) (by decide) ?_
  rintro _ _ _ - - ⟨rfl, rfl, rfl⟩
  change Go _ _ _ _ _ _ _ _ _ _ _ _ _ _ [] h 24 4000 194 #[.val (.int p1), .val (.int p2), .val (.int p3), .val (.int p4), .val (.int p5), .val (.int (2 : Int32)), .val (.int (2 : Int32)), .val (.int m0), .val (.int m1), .val (.int r0), .val (.int r1), .val (.ref s1), .val (.ref s2), .val (.ref e3), .val (.ref n4)] [(.int ((32 : Int32) &&& (255 : Int32)).toUInt32.toUInt16.toUInt32.toInt32)]
  rw [show ((32 : Int32) &&& (255 : Int32)).toUInt32.toUInt16.toUInt32.toInt32 = (32 : Int32) from by decide]
  refine Go.bipush (pc' := 196) at_194 rfl icb_32 ?_
  refine Go.icmpY (pc' := 201) at_196 (by decide) (by decide) (teq (rfl : (32 : Int32) = (32 : Int32))).1 ?_
  refine Go.iload (pc' := 203) at_201 rfl rfl ?_
  refine Go.ifN (pc' := 206) at_203 rfl ((if0 _ _).trans (tlt (by decide : (0 : Int32) < (2 : Int32))).2.2.2) ?_
  refine Go.aload (pc' := 208) at_206 rfl rfl rfl ?_
  refine Go.bipush (pc' := 210) at_208 rfl icb_24 ?_
  refine Go.iload (pc' := 212) at_210 rfl rfl ?_
  refine Go.iadd (pc' := 213) at_212 rfl ?_
  rw [show ((24 : Int32) + (2 : Int32)) = (26 : Int32) from by decide]
  refine Go.callV (pc' := 216) (u := N_40) (z := N_40) (a := n4) at_213 rfl (w_224 hw) (w_225 hw) (nf (w_227 hw) rfl) (w_227 hw) (w_226 hw) (by decide) E_n4 (argsL := [(.int (26 : Int32))]) (rest := []) (Pays.of_met (W := 0) (len := 3) (m_charAt hw hs n4 t4 k4 (28 : Int32) ((PFX ++ ([m0.toInt8.toInt32, m1.toInt8.toInt32] ++ ([(58 : Int32), (32 : Int32)] ++ [r0.toInt8.toInt32, r1.toInt8.toInt32]))).map Value.int) (26 : Int32) r0.toInt8.toInt32 h E_n4 F_n4_coder F_n4_value V_t4 (⟨by decide, by decide⟩) (rfl)) (w_228 hw) (w_7 hw) (by decide) (by decide)) rfl rfl (lenOf pd_32 rfl) rfl (Nat.le_of_eq rfl) mem0 (by decide) (by decide) ?_
  rintro _ _ _ - - ⟨rfl, rfl, rfl⟩
  change Go _ _ _ _ _ _ _ _ _ _ _ _ _ _ [] h 24 4000 216 #[.val (.int p1), .val (.int p2), .val (.int p3), .val (.int p4), .val (.int p5), .val (.int (2 : Int32)), .val (.int (2 : Int32)), .val (.int m0), .val (.int m1), .val (.int r0), .val (.int r1), .val (.ref s1), .val (.ref s2), .val (.ref e3), .val (.ref n4)] [(.int (r0.toInt8.toInt32 &&& (255 : Int32)).toUInt32.toUInt16.toUInt32.toInt32)]
  rw [own_lowback hx_r0.1 hx_r0.2]
  refine Go.iload (pc' := 218) at_216 rfl rfl ?_
  refine Go.icmpY (pc' := 223) at_218 (by decide) (by decide) (teq (rfl : r0 = r0)).1 ?_
  refine Go.iload (pc' := 225) at_223 rfl rfl ?_
  refine Go.iconst (pc' := 226) at_225 rfl ic_1 ?_
  refine Go.icmpN (pc' := 229) at_226 rfl (tlt (by decide : (1 : Int32) < (2 : Int32))).2.2.2 ?_
  refine Go.aload (pc' := 231) at_229 rfl rfl rfl ?_
  refine Go.bipush (pc' := 233) at_231 rfl icb_25 ?_
  refine Go.iload (pc' := 235) at_233 rfl rfl ?_
  refine Go.iadd (pc' := 236) at_235 rfl ?_
  rw [show ((25 : Int32) + (2 : Int32)) = (27 : Int32) from by decide]
  refine Go.callV (pc' := 239) (u := N_40) (z := N_40) (a := n4) at_236 rfl (w_224 hw) (w_225 hw) (nf (w_227 hw) rfl) (w_227 hw) (w_226 hw) (by decide) E_n4 (argsL := [(.int (27 : Int32))]) (rest := []) (Pays.of_met (W := 0) (len := 3) (m_charAt hw hs n4 t4 k4 (28 : Int32) ((PFX ++ ([m0.toInt8.toInt32, m1.toInt8.toInt32] ++ ([(58 : Int32), (32 : Int32)] ++ [r0.toInt8.toInt32, r1.toInt8.toInt32]))).map Value.int) (27 : Int32) r1.toInt8.toInt32 h E_n4 F_n4_coder F_n4_value V_t4 (⟨by decide, by decide⟩) (rfl)) (w_228 hw) (w_7 hw) (by decide) (by decide)) rfl rfl (lenOf pd_32 rfl) rfl (Nat.le_of_eq rfl) mem0 (by decide) (by decide) ?_
  rintro _ _ _ - - ⟨rfl, rfl, rfl⟩
  change Go _ _ _ _ _ _ _ _ _ _ _ _ _ _ [] h 24 4000 239 #[.val (.int p1), .val (.int p2), .val (.int p3), .val (.int p4), .val (.int p5), .val (.int (2 : Int32)), .val (.int (2 : Int32)), .val (.int m0), .val (.int m1), .val (.int r0), .val (.int r1), .val (.ref s1), .val (.ref s2), .val (.ref e3), .val (.ref n4)] [(.int (r1.toInt8.toInt32 &&& (255 : Int32)).toUInt32.toUInt16.toUInt32.toInt32)]
  rw [own_lowback hx_r1.1 hx_r1.2]
  refine Go.iload (pc' := 241) at_239 rfl rfl ?_
  refine Go.icmpY (pc' := 246) at_241 (by decide) (by decide) (teq (rfl : r1 = r1)).1 ?_
  refine Go.iconst (pc' := 247) at_246 rfl ic_1 ?_
  exact Go.retS (ty := .boolean) at_247 rfl (by simp) rfl (by decide) (by decide) [] sn0 ⟨rfl, rfl⟩
set_option maxRecDepth 65536 in
set_option maxHeartbeats 40000000 in
theorem m_lawa22 {l : Launch} {Z : State} {a0 : Array Value} {n0 : Nat} (hw : ∀ d ∈ tables_1, d.before a0 Z = true) (hs : Stat Z) (p1 : Int32) (p2 : Int32) (p3 : Int32) (p4 : Int32) (p5 : Int32) (m0 : Int32) (m1 : Int32) (r0 : Int32) (r1 : Int32) (h0 h : Heap) (hx_m0 : ¬ m0 < 0 ∧ ¬ 255 < m0) (hx_m1 : ¬ m1 < 0 ∧ ¬ 255 < m1) (hx_r0 : ¬ r0 < 0 ∧ ¬ 255 < r0) (hx_r1 : ¬ r1 < 0 ∧ ¬ 255 < r1) (hst : l.stackTraces = true) :
    Go l Z EL0 n0 NR0 KN0 x code maxLocals ret room_1 h0 [] (Q_m_law Z p1 p2 p3 p4 p5 h0) [] h 0 0 52 #[.val (.int p1), .val (.int p2), .val (.int p3), .val (.int p4), .val (.int p5), .val (.int (2 : Int32)), .val (.int (2 : Int32)), .val (.int m0), .val (.int m1), .val (.int r0), .val (.int r1), .unset, .unset, .unset, .unset] [] := by
  refine Go.iload (pc' := 54) at_52 rfl rfl ?_
  refine Go.iload (pc' := 56) at_54 rfl rfl ?_
  refine Go.iload (pc' := 58) at_56 rfl rfl ?_
  refine Go.callS (pc' := 61) (z := N_45) at_58 rfl (w_1 hw) (w_2 hw) (w_3 hw) (w_4 hw) (by decide) (argsL := [(.int (2 : Int32)), (.int m0), (.int m1)]) (rest := []) (Pays.of_met (W := 0) (len := 3) (m_mk2 hw hs m0 m1 h (hx_m0) (hx_m1)) (w_4 hw) (w_3 hw) (by decide) (by decide)) rfl rfl (lenOf pd_34 rfl) rfl (Nat.le_of_eq rfl) mem0 (by decide) (by decide) ?_
  rintro _ h630 _ K631 le632 ⟨b627, b628, q629, rfl, rfl, p633, p634, p635, p636⟩
  have E_b627 := p633
  have F_b627_coder := p634
  have F_b627_value := p635
  have V_b628 := p636
  change Go _ _ _ _ _ _ _ _ _ _ _ _ _ _ [] h630 3 8 61 #[.val (.int p1), .val (.int p2), .val (.int p3), .val (.int p4), .val (.int p5), .val (.int (2 : Int32)), .val (.int (2 : Int32)), .val (.int m0), .val (.int m1), .val (.int r0), .val (.int r1), .unset, .unset, .unset, .unset] [(.ref b627)]
  refine Go.astore (pc' := 63) (Ls' := #[.val (.int p1), .val (.int p2), .val (.int p3), .val (.int p4), .val (.int p5), .val (.int (2 : Int32)), .val (.int (2 : Int32)), .val (.int m0), .val (.int m1), .val (.int r0), .val (.int r1), .val (.ref b627), .unset, .unset, .unset]) at_61 rfl rfl rfl ?_
  refine Go.iload (pc' := 65) at_63 rfl rfl ?_
  refine Go.iload (pc' := 67) at_65 rfl rfl ?_
  refine Go.iload (pc' := 69) at_67 rfl rfl ?_
  refine Go.callS (pc' := 72) (z := N_45) at_69 rfl (w_1 hw) (w_2 hw) (w_3 hw) (w_4 hw) (by decide) (argsL := [(.int (2 : Int32)), (.int r0), (.int r1)]) (rest := []) (Pays.of_met (W := 0) (len := 3) (m_mk2 hw hs r0 r1 h630 (hx_r0) (hx_r1)) (w_4 hw) (w_3 hw) (by decide) (by decide)) rfl rfl (lenOf pd_34 rfl) rfl (Nat.le_of_eq rfl) mem0 (by decide) (by decide) ?_
  rintro _ h640 _ K641 le642 ⟨b637, b638, q639, rfl, rfl, p643, p644, p645, p646⟩
  replace E_b627 := E_b627.keep K641
  replace F_b627_coder := F_b627_coder.keep K641 nin0
  replace F_b627_value := F_b627_value.keep K641 nin0
  replace V_b628 := V_b628.keep K641 nin0
  have E_b637 := p643
  have F_b637_coder := p644
  have F_b637_value := p645
  have V_b638 := p646
  change Go _ _ _ _ _ _ _ _ _ _ _ _ _ _ [] h640 6 16 72 #[.val (.int p1), .val (.int p2), .val (.int p3), .val (.int p4), .val (.int p5), .val (.int (2 : Int32)), .val (.int (2 : Int32)), .val (.int m0), .val (.int m1), .val (.int r0), .val (.int r1), .val (.ref b627), .unset, .unset, .unset] [(.ref b637)]
  refine Go.astore (pc' := 74) (Ls' := #[.val (.int p1), .val (.int p2), .val (.int p3), .val (.int p4), .val (.int p5), .val (.int (2 : Int32)), .val (.int (2 : Int32)), .val (.int m0), .val (.int m1), .val (.int r0), .val (.int r1), .val (.ref b627), .val (.ref b637), .unset, .unset]) at_72 rfl rfl rfl ?_
  refine Go.aload (pc' := 76) at_74 rfl rfl rfl ?_
  refine Go.aload (pc' := 78) at_76 rfl rfl rfl ?_
  refine Go.callS (pc' := 81) (z := N_30) at_78 rfl (w_27 hw) (w_28 hw) (w_29 hw) (w_30 hw) (by decide) (argsL := [(.ref b627), (.ref b637)]) (rest := []) (Pays.of_met (W := 0) (len := 3) (m_fm hw hs b627 b628 q629 [m0.toInt8.toInt32, m1.toInt8.toInt32] (2 : Int32) b637 b638 q639 [r0.toInt8.toInt32, r1.toInt8.toInt32] (2 : Int32) h640 E_b627 F_b627_coder F_b627_value V_b628 E_b637 F_b637_coder F_b637_value V_b638 (show (2 : Int32).toNatClampNeg = 2 from by decide) (show (2 : Int32).toNatClampNeg = 2 from by decide) (show 2 ≤ 2 from by decide) (show 2 ≤ 2 from by decide) (hst)) (w_30 hw) (w_29 hw) (by decide) (by decide)) rfl rfl (lenOf pd_35 rfl) rfl (Nat.le_of_eq rfl) mem0 (by decide) (by decide) ?_
  rintro _ h651 _ K652 le653 ⟨b647, b648, b649, q650, rfl, rfl, p654, p655, p656, p657, p658, p659⟩
  replace E_b627 := E_b627.keep K652
  replace F_b627_coder := F_b627_coder.keep K652 nin0
  replace F_b627_value := F_b627_value.keep K652 nin0
  replace V_b628 := V_b628.keep K652 nin0
  replace E_b637 := E_b637.keep K652
  replace F_b637_coder := F_b637_coder.keep K652 nin0
  replace F_b637_value := F_b637_value.keep K652 nin0
  replace V_b638 := V_b638.keep K652 nin0
  have E_b647 := p654
  have F_b647_detailMessage := p655
  have E_b648 := p656
  have F_b648_coder := p657
  have F_b648_value := p658
  have V_b649 := p659
  change Go _ _ _ _ _ _ _ _ _ _ _ _ _ _ [] h651 17 2970 81 #[.val (.int p1), .val (.int p2), .val (.int p3), .val (.int p4), .val (.int p5), .val (.int (2 : Int32)), .val (.int (2 : Int32)), .val (.int m0), .val (.int m1), .val (.int r0), .val (.int r1), .val (.ref b627), .val (.ref b637), .unset, .unset] [(.ref b647)]
  refine Go.astore (pc' := 83) (Ls' := #[.val (.int p1), .val (.int p2), .val (.int p3), .val (.int p4), .val (.int p5), .val (.int (2 : Int32)), .val (.int (2 : Int32)), .val (.int m0), .val (.int m1), .val (.int r0), .val (.int r1), .val (.ref b627), .val (.ref b637), .val (.ref b647), .unset]) at_81 rfl rfl rfl ?_
  refine Go.aload (pc' := 85) at_83 rfl rfl rfl ?_
  refine Go.ifnonnullY (pc' := 90) at_85 (by decide) (by decide) ?_
  refine Go.aload (pc' := 92) at_90 rfl rfl rfl ?_
  refine Go.callU (pc' := 95) (u := N_47) (z := N_29) (owner := "java/lang/Throwable") (a := b647) at_92 rfl (w_214 hw) (w_215 hw) (w_216 hw) (by decide) (w_218 hw) (w_217 hw) E_b647 (argsL := []) (rest := []) (Pays.of_met (W := 0) (len := 3) (m_gm hw hs b647 b648 h651 F_b647_detailMessage) (w_219 hw) (w_175 hw) (by decide) (by decide)) rfl rfl (lenOf pd_20 rfl) rfl (Nat.le_of_eq rfl) mem0 (by decide) (by decide) ?_
  rintro _ _ _ - - ⟨rfl, rfl, rfl⟩
  change Go _ _ _ _ _ _ _ _ _ _ _ _ _ _ [] h651 17 2970 95 #[.val (.int p1), .val (.int p2), .val (.int p3), .val (.int p4), .val (.int p5), .val (.int (2 : Int32)), .val (.int (2 : Int32)), .val (.int m0), .val (.int m1), .val (.int r0), .val (.int r1), .val (.ref b627), .val (.ref b637), .val (.ref b647), .unset] [(.ref b648)]
  refine Go.astore (pc' := 97) (Ls' := #[.val (.int p1), .val (.int p2), .val (.int p3), .val (.int p4), .val (.int p5), .val (.int (2 : Int32)), .val (.int (2 : Int32)), .val (.int m0), .val (.int m1), .val (.int r0), .val (.int r1), .val (.ref b627), .val (.ref b637), .val (.ref b647), .val (.ref b648)]) at_95 rfl rfl rfl ?_
  refine Go.aload (pc' := 99) at_97 rfl rfl rfl ?_
  refine Go.ifnullN (pc' := 102) at_99 rfl ?_
  refine Go.aload (pc' := 104) at_102 rfl rfl rfl ?_
  rw [show ((((22 : Int32) + (2 : Int32)) + (2 : Int32)) + (2 : Int32)) = (28 : Int32) from by decide] at V_b649
  rw [show (((PFX ++ [m0.toInt8.toInt32, m1.toInt8.toInt32]) ++ [(58 : Int32), (32 : Int32)]) ++ [r0.toInt8.toInt32, r1.toInt8.toInt32]) = (PFX ++ ([m0.toInt8.toInt32, m1.toInt8.toInt32] ++ ([(58 : Int32), (32 : Int32)] ++ [r0.toInt8.toInt32, r1.toInt8.toInt32]))) from by rw [List.append_assoc, List.append_assoc]] at V_b649
  refine Go.callV (pc' := 107) (u := N_12) (z := N_12) (a := b648) at_104 rfl (w_220 hw) (w_63 hw) (nf (w_65 hw) rfl) (w_65 hw) (w_64 hw) (by decide) E_b648 (argsL := []) (rest := []) (Pays.of_met (W := 0) (len := 3) (m_length hw hs b648 b649 q650 (28 : Int32) ((PFX ++ ([m0.toInt8.toInt32, m1.toInt8.toInt32] ++ ([(58 : Int32), (32 : Int32)] ++ [r0.toInt8.toInt32, r1.toInt8.toInt32]))).map Value.int) h651 E_b648 F_b648_coder F_b648_value V_b649) (w_66 hw) (w_7 hw) (by decide) (by decide)) rfl rfl (lenOf pd_8 rfl) rfl (Nat.le_of_eq rfl) mem0 (by decide) (by decide) ?_
  rintro _ _ _ - - ⟨rfl, rfl, rfl⟩
  change Go _ _ _ _ _ _ _ _ _ _ _ _ _ _ [] h651 17 2970 107 #[.val (.int p1), .val (.int p2), .val (.int p3), .val (.int p4), .val (.int p5), .val (.int (2 : Int32)), .val (.int (2 : Int32)), .val (.int m0), .val (.int m1), .val (.int r0), .val (.int r1), .val (.ref b627), .val (.ref b637), .val (.ref b647), .val (.ref b648)] [(.int (28 : Int32))]
  refine Go.bipush (pc' := 109) at_107 rfl icb_24 ?_
  refine Go.iload (pc' := 111) at_109 rfl rfl ?_
  refine Go.iadd (pc' := 112) at_111 rfl ?_
  rw [show ((24 : Int32) + (2 : Int32)) = (26 : Int32) from by decide]
  refine Go.iload (pc' := 114) at_112 rfl rfl ?_
  refine Go.iadd (pc' := 115) at_114 rfl ?_
  rw [show ((26 : Int32) + (2 : Int32)) = (28 : Int32) from by decide]
  refine Go.icmpY (pc' := 120) at_115 (by decide) (by decide) (teq (rfl : (28 : Int32) = (28 : Int32))).1 ?_
  exact Go.more (k' := 24) (n' := 4000) (by decide) (by decide) (Go.fewer mem0 (m_lawb22 hw hs p1 p2 p3 p4 p5 m0 m1 r0 r1 b627 b637 b647 b648 b649 q650 h0 h651 E_b648 F_b648_coder F_b648_value V_b649 (hx_m0) (hx_m1) (hx_r0) (hx_r1)))
theorem pn_m_law : plainFor (⟨"com/example/slackline/slackline/TooLargeExceptionForMethodPinLaw", "law", "(IIIII)Z"⟩ : MethodName) = true := by first | (refine plainFor_of_name ?_; simp [plainName, overriddenIn]; done) | decide +kernel
theorem ef_m_law (mid : MethodId) (p1 : Int32) (p2 : Int32) (p3 : Int32) (p4 : Int32) (p5 : Int32) : entryFrame mid #[(.int p1), (.int p2), (.int p3), (.int p4), (.int p5)] maxLocals = mkF mid 0 #[.val (.int p1), .val (.int p2), .val (.int p3), .val (.int p4), .val (.int p5), .unset, .unset, .unset, .unset, .unset, .unset, .unset, .unset, .unset, .unset] [] := by first | (simp [entryFrame, mkF, argsToLocals, Value.category, maxLocals]; done) | rfl
set_option maxRecDepth 65536 in
set_option maxHeartbeats 40000000 in
theorem m_law {l : Launch} {Z : State} {a0 : Array Value} {n0 : Nat} (hw : ∀ d ∈ tables_1, d.before a0 Z = true) (hs : Stat Z) (p1 : Int32) (p2 : Int32) (p3 : Int32) (p4 : Int32) (p5 : Int32) (h0 : Heap) (hst : l.stackTraces = true) :
    Met l Z EL0 n0 NR0 KN0 x code maxLocals ret room_1 [] #[(.int p1), (.int p2), (.int p3), (.int p4), (.int p5)] h0 (Q_m_law Z p1 p2 p3 p4 p5 h0) := by
  refine Met.of_go pn_m_law (fun mid => ef_m_law mid p1 p2 p3 p4 p5 ) ?_
  intro hO hWS
  refine Go.iload_n (pc' := 1) at_0 rfl rfl ?_
  refine Go.ldcInt (pc' := 3) at_1 rfl (w_0 hw) ?_
  refine Go.iand (pc' := 4) at_3 rfl ?_
  refine Go.iconst (pc' := 5) at_4 rfl ic_3 ?_
  refine Go.irem (pc' := 6) at_5 rfl (by decide) ?_
  refine Go.istore (pc' := 8) (Ls' := #[.val (.int p1), .val (.int p2), .val (.int p3), .val (.int p4), .val (.int p5), .val (.int ((p1 &&& (2147483647 : Int32)) % (3 : Int32))), .unset, .unset, .unset, .unset, .unset, .unset, .unset, .unset, .unset]) at_6 rfl rfl ?_
  refine Go.iload_n (pc' := 9) at_8 rfl rfl ?_
  refine Go.bipush (pc' := 11) at_9 rfl icb_8 ?_
  refine Go.iushr (pc' := 12) at_11 rfl ?_
  have hm3 := own_lt3 (own_rem (own_maskn p1 2147483647 (by decide)) (m := 3) (by decide))
  generalize hgm : ((p1 &&& (2147483647 : Int32)) % (3 : Int32)) = ml at hm3 ⊢
  refine Go.ldcInt (pc' := 14) at_12 rfl (w_0 hw) ?_
  refine Go.iand (pc' := 15) at_14 rfl ?_
  refine Go.iconst (pc' := 16) at_15 rfl ic_3 ?_
  refine Go.irem (pc' := 17) at_16 rfl (by decide) ?_
  refine Go.istore (pc' := 19) (Ls' := #[.val (.int p1), .val (.int p2), .val (.int p3), .val (.int p4), .val (.int p5), .val (.int ml), .val (.int ((((p1.toUInt32 >>> ((8 : Int32) &&& 31).toUInt32).toInt32) &&& (2147483647 : Int32)) % (3 : Int32))), .unset, .unset, .unset, .unset, .unset, .unset, .unset, .unset]) at_17 rfl rfl ?_
  have hr3 := own_lt3 (own_rem (own_maskn ((p1.toUInt32 >>> ((8 : Int32) &&& 31).toUInt32).toInt32) 2147483647 (by decide)) (m := 3) (by decide))
  generalize hgr : ((((p1.toUInt32 >>> ((8 : Int32) &&& 31).toUInt32).toInt32) &&& (2147483647 : Int32)) % (3 : Int32)) = rl at hr3 ⊢
  refine Go.iload_n (pc' := 20) at_19 rfl rfl ?_
  refine Go.sipush (pc' := 23) at_20 rfl ics_255 ?_
  refine Go.iand (pc' := 24) at_23 rfl ?_
  refine Go.i2c (pc' := 25) at_24 rfl ?_
  rw [i2c_mask]
  have hx_m0 := mask255 p2
  generalize hg_m0 : (p2 &&& (255 : Int32)) = m0 at hx_m0 ⊢
  refine Go.istore (pc' := 27) (Ls' := #[.val (.int p1), .val (.int p2), .val (.int p3), .val (.int p4), .val (.int p5), .val (.int ml), .val (.int rl), .val (.int m0), .unset, .unset, .unset, .unset, .unset, .unset, .unset]) at_25 rfl rfl ?_
  refine Go.iload_n (pc' := 28) at_27 rfl rfl ?_
  refine Go.sipush (pc' := 31) at_28 rfl ics_255 ?_
  refine Go.iand (pc' := 32) at_31 rfl ?_
  refine Go.i2c (pc' := 33) at_32 rfl ?_
  rw [i2c_mask]
  have hx_m1 := mask255 p3
  generalize hg_m1 : (p3 &&& (255 : Int32)) = m1 at hx_m1 ⊢
  refine Go.istore (pc' := 35) (Ls' := #[.val (.int p1), .val (.int p2), .val (.int p3), .val (.int p4), .val (.int p5), .val (.int ml), .val (.int rl), .val (.int m0), .val (.int m1), .unset, .unset, .unset, .unset, .unset, .unset]) at_33 rfl rfl ?_
  refine Go.iload_n (pc' := 36) at_35 rfl rfl ?_
  refine Go.sipush (pc' := 39) at_36 rfl ics_255 ?_
  refine Go.iand (pc' := 40) at_39 rfl ?_
  refine Go.i2c (pc' := 41) at_40 rfl ?_
  rw [i2c_mask]
  have hx_r0 := mask255 p4
  generalize hg_r0 : (p4 &&& (255 : Int32)) = r0 at hx_r0 ⊢
  refine Go.istore (pc' := 43) (Ls' := #[.val (.int p1), .val (.int p2), .val (.int p3), .val (.int p4), .val (.int p5), .val (.int ml), .val (.int rl), .val (.int m0), .val (.int m1), .val (.int r0), .unset, .unset, .unset, .unset, .unset]) at_41 rfl rfl ?_
  refine Go.iload (pc' := 45) at_43 rfl rfl ?_
  refine Go.sipush (pc' := 48) at_45 rfl ics_255 ?_
  refine Go.iand (pc' := 49) at_48 rfl ?_
  refine Go.i2c (pc' := 50) at_49 rfl ?_
  rw [i2c_mask]
  have hx_r1 := mask255 p5
  generalize hg_r1 : (p5 &&& (255 : Int32)) = r1 at hx_r1 ⊢
  refine Go.istore (pc' := 52) (Ls' := #[.val (.int p1), .val (.int p2), .val (.int p3), .val (.int p4), .val (.int p5), .val (.int ml), .val (.int rl), .val (.int m0), .val (.int m1), .val (.int r0), .val (.int r1), .unset, .unset, .unset, .unset]) at_50 rfl rfl ?_
  rcases hm3 with rfl | rfl | rfl
  · skip
    rcases hr3 with rfl | rfl | rfl
    · skip
      exact Go.more (k' := 0) (n' := 0) (by decide) (by decide) (Go.fewer mem0 (m_lawa00 hw hs p1 p2 p3 p4 p5 m0 m1 r0 r1 h0 h0 (hx_m0) (hx_m1) (hx_r0) (hx_r1) (hst)))
    · skip
      exact Go.more (k' := 0) (n' := 0) (by decide) (by decide) (Go.fewer mem0 (m_lawa01 hw hs p1 p2 p3 p4 p5 m0 m1 r0 r1 h0 h0 (hx_m0) (hx_m1) (hx_r0) (hx_r1) (hst)))
    · skip
      exact Go.more (k' := 0) (n' := 0) (by decide) (by decide) (Go.fewer mem0 (m_lawa02 hw hs p1 p2 p3 p4 p5 m0 m1 r0 r1 h0 h0 (hx_m0) (hx_m1) (hx_r0) (hx_r1) (hst)))
  · skip
    rcases hr3 with rfl | rfl | rfl
    · skip
      exact Go.more (k' := 0) (n' := 0) (by decide) (by decide) (Go.fewer mem0 (m_lawa10 hw hs p1 p2 p3 p4 p5 m0 m1 r0 r1 h0 h0 (hx_m0) (hx_m1) (hx_r0) (hx_r1) (hst)))
    · skip
      exact Go.more (k' := 0) (n' := 0) (by decide) (by decide) (Go.fewer mem0 (m_lawa11 hw hs p1 p2 p3 p4 p5 m0 m1 r0 r1 h0 h0 (hx_m0) (hx_m1) (hx_r0) (hx_r1) (hst)))
    · skip
      exact Go.more (k' := 0) (n' := 0) (by decide) (by decide) (Go.fewer mem0 (m_lawa12 hw hs p1 p2 p3 p4 p5 m0 m1 r0 r1 h0 h0 (hx_m0) (hx_m1) (hx_r0) (hx_r1) (hst)))
  · skip
    rcases hr3 with rfl | rfl | rfl
    · skip
      exact Go.more (k' := 0) (n' := 0) (by decide) (by decide) (Go.fewer mem0 (m_lawa20 hw hs p1 p2 p3 p4 p5 m0 m1 r0 r1 h0 h0 (hx_m0) (hx_m1) (hx_r0) (hx_r1) (hst)))
    · skip
      exact Go.more (k' := 0) (n' := 0) (by decide) (by decide) (Go.fewer mem0 (m_lawa21 hw hs p1 p2 p3 p4 p5 m0 m1 r0 r1 h0 h0 (hx_m0) (hx_m1) (hx_r0) (hx_r1) (hst)))
    · skip
      exact Go.more (k' := 0) (n' := 0) (by decide) (by decide) (Go.fewer mem0 (m_lawa22 hw hs p1 p2 p3 p4 p5 m0 m1 r0 r1 h0 h0 (hx_m0) (hx_m1) (hx_r0) (hx_r1) (hst)))
theorem own_mk {vm : Vm} {m : MethodId} (h : Jvm.D.methodKnown vm m = true) : vm.knowsMethod m := by
  unfold Jvm.D.methodKnown at h
  cases e : vm.classes[m.cls]? with
  | none => rw [e] at h; cases h
  | some k =>
    rw [e] at h
    refine ⟨k, e, fun cf hc => ?_⟩
    simp only [hc] at h
    exact h
theorem own_hkn {s : State} {m : MethodId} {args : Array Value} {below : List Frame} (hf : s.frames = Frame.invoking m args :: below) (h1 : Jvm.D.framesKnown s = true) (h2 : Jvm.D.tablesKnown s = true) : s.vm.MethodsKnown ∧ s.vm.FramesKnown below := by
  refine ⟨fun m x hx => ?_, fun y hy m' hm' => ?_⟩
  · unfold Vm.method? at hx
    cases e : s.vm.classes[m.cls]? with
    | none => rw [e] at hx; cases hx
    | some k =>
      rw [e] at hx
      refine ⟨k, e, fun cf hc => ?_⟩
      have q := (Array.all_eq_true_iff_forall_mem.mp h2) k (Array.mem_of_getElem? e)
      simp only [hc] at q
      have q' : k.methods.size = cf.methods.size := by simpa using q
      have hx' : k.methods[m.idx]? = some x := hx
      have lt := (Array.getElem?_eq_some_iff.mp hx').1
      rw [q'] at lt
      simp [Array.getElem?_eq_getElem lt]
  · have q := List.all_eq_true.mp h1 y (by rw [hf]; exact List.mem_cons_of_mem _ hy)
    cases y with
    | java g => cases hm'; exact own_mk q
    | native g => cases hm'; exact own_mk q
    | _ => cases hm'
set_option maxRecDepth 65536 in
set_option maxHeartbeats 40000000 in
theorem comes_1 {Post : Tables → Env → Array Value → State → Outcome → State → Prop} (hpost : ∀ tb e args s v u, (limb_1_1.after args s (.returned v) u = true ∧ limb_1_2.after args s (.returned v) u = true ∧ True) → Jvm.D.FramedW s (.returned v) u (Jvm.fieldLocs frame_1_writes args s ++ Jvm.arrayLocs frame_1_arrays args s ++ Jvm.staticLocs frame_1_statics s) 40 8896 → Post tb e args s (.returned v) u) :
    ArmFor flags0 classFile x code maxLocals ret World_1 tables_1 room_1 Calls_1 rest_1 Pre_1 Post := by
  intro l hfl _ _ p e ha hc hk s m args below hf hA hF happ hP
  obtain ⟨hcalls, hrest, hpre⟩ := hP
  obtain ⟨-, -, -, hnamed, -, -, -, hat⟩ := (Spec.applies_iff hf).mp happ
  obtain ⟨hg, hn⟩ := and_e (Cond.before_iff.mp (show (Jvm.Cond.and given_1 narrow_1).before args s = true from hpre))
  have hgn := hg
  obtain ⟨h_c, hg⟩ := and_e hg
  obtain ⟨w0, w1, w2, w3, w4, rfl⟩ : ∃ w0 w1 w2 w3 w4 : Value, args = #[w0, w1, w2, w3, w4] := by
    have hs : args.size = 5 := by simpa [Cond.value, given_1] using h_c
    obtain ⟨L⟩ := args
    match L, hs with
    | [w0, w1, w2, w3, w4], _ => exact ⟨w0, w1, w2, w3, w4, rfl⟩
  obtain ⟨h_0, hg⟩ := and_e hg
  obtain ⟨i0, e_0⟩ := is_v h_0
  obtain rfl : w0 = (.int i0) := Option.some.inj e_0
  obtain ⟨h_1, hg⟩ := and_e hg
  obtain ⟨i1, e_1⟩ := is_v h_1
  obtain rfl : w1 = (.int i1) := Option.some.inj e_1
  obtain ⟨h_2, hg⟩ := and_e hg
  obtain ⟨i2, e_2⟩ := is_v h_2
  obtain rfl : w2 = (.int i2) := Option.some.inj e_2
  obtain ⟨h_3, hg⟩ := and_e hg
  obtain ⟨i3, e_3⟩ := is_v h_3
  obtain rfl : w3 = (.int i3) := Option.some.inj e_3
  have h_4 := hg
  obtain ⟨i4, e_4⟩ := is_v h_4
  obtain rfl : w4 = (.int i4) := Option.some.inj e_4
  have hw := fun d (hd : d ∈ tables_1) => atoms_spec (ws := Jvm.Cond.code x code maxLocals ret :: tables_1) hat d (List.mem_cons_of_mem _ hd)
  have hfit : Fit s := fun {y c} hc i hi => by
    obtain ⟨ha, rfl⟩ := Array.getElem?_eq_some_iff.mp hc
    have q := List.all_eq_true.mp ((Array.all_eq_true_iff_forall_mem.mp hF) _ (Array.getElem_mem ha)) i (List.mem_range.mpr hi)
    simpa [Array.getElem?_eq_getElem hi] using q
  have hsets := (atoms_of jdkStatics_1 (show (jdkStatics_1.foldr Jvm.Cond.and restOwn_1).before _ s = true from hrest)).1
  obtain ⟨zc, e_zc⟩ := is_v (Cond.before_iff.mp (hsets _ (List.mem_of_getElem? (i := 1) rfl)))
  have n_zc := gotF (Cond.eq_ints e_zc (Term.int_eval (0))) (not_v (Cond.before_iff.mp (hsets _ (List.mem_of_getElem? (i := 2) rfl))))
  have s_zc := Sta.start e_zc (Or.inl (hsets _ (List.mem_of_getElem? (i := 0) rfl)))
  obtain ⟨fm, e_fm, r_fm⟩ := isR_v (Cond.before_iff.mp (hsets _ (List.mem_of_getElem? (i := 8) rfl)))
  have s_fm := Sta.start e_fm (Or.inl (hsets _ (List.mem_of_getElem? (i := 7) rfl)))
  obtain ⟨ua, e_ua⟩ := arr_v (Cond.before_iff.mp (hsets _ (List.mem_of_getElem? (i := 17) rfl)))
  have s_ua := Sta.start e_ua (Or.inl (hsets _ (List.mem_of_getElem? (i := 15) rfl)))
  obtain ⟨va, e_va⟩ := exa_v (Cond.before_iff.mp (hsets _ (List.mem_of_getElem? (i := 22) rfl)))
  have s_va := Sta.start e_va (Or.inl (hsets _ (List.mem_of_getElem? (i := 20) rfl)))
  have hs : Stat s := ⟨⟨zc, s_zc, n_zc⟩, ⟨fm, s_fm, r_fm⟩, ⟨⟨ua, s_ua⟩, va, s_va⟩, trivial⟩
  have hst : l.stackTraces = true := by unfold Launch.stackTraces; rw [hfl]; decide +kernel
  have hkn := own_hkn hf hcalls.1 hcalls.2.1
  have hEL : EW s _ EL0 := (EW.cons (w_51 hw) lit_0.1 (EW.cons (w_123 hw) lit_1.1 (EW.cons (w_19 hw) lit_2.1 EW.nil)))
  have hCH : CHv s EL0 s.vm s.heap := CHv.start hEL (fun p hp => hcalls.2.2.1 p hp) (hsets _ (List.mem_of_getElem? (i := 2) rfl)) (sA hw _ (by simp [Bundle.stringAtoms])) (sA hw _ (by simp [Bundle.stringAtoms, Bundle.sN]))
  obtain ⟨n, o, h1, h2, h3, v, L, SN, rfl, ⟨rfl, -⟩, hL, -, -, -, hN, hE⟩ := m_law hw hs i0 i1 i2 i3 i4 s.heap hst tables_1 p e ha hc hk s m _ below hf ((Spec.applies_iff_loose hf).mp happ).1 ⟨rfl, State.Warmed39.refl s, rfl, hCH, (fun x hx => nomatch hx), ⟨rfl, Ext.refl _⟩, _, hEL⟩ (fun _ => hkn)
  refine ⟨n, _, h1, h2, h3, hpost _ _ _ _ _ _ ⟨Cond.after_iff.mpr rfl, Cond.after_iff.mpr (eq_i res_at (Term.int_eval (1)) rfl), trivial⟩ ⟨hE.1, hE.2.1, hE.2.2.1, (hE.2.2.2.sift fun y hy => Or.inr (hL y hy)).mono (by decide) (by decide)⟩⟩
theorem main_1_1 : Claimed_1_1 := comes_1 fun _ _ _ _ _ _ h hF => ⟨h.1, hF⟩
theorem main_1_2 : Claimed_1_2 := comes_1 fun _ _ _ _ _ _ h hF => ⟨h.2.1, hF⟩
end Jvm.Pilot.@@N@@
namespace Jvm.Pilot.@@N@@
open Jvm Jvm.ClassFile Sem Op Lib Jvm.Free Jvm.Stand Jvm.Pilot.@@N@@.Jvm.D
/-! MADE BY PROGRAM (witnessworld.py) out of the Statement's table words and the real class files: 41 classes; the members and pool entries that the words name. The judged class is class 1, her method 1. -/
namespace start1
open Jvm.ClassFile
def u (s : String) : CpInfo := .utf8 (stringToUtf16 s)
/-- a pool by its gaps: so many unusable entries, then the entry; so many at the end -/
def gap : Nat → List CpInfo → List CpInfo
  | 0, r => r
  | n + 1, r => .unusable :: gap n r
def poolList (es : List (Nat × CpInfo)) (last : Nat) : List CpInfo := es.foldr (fun e r => gap e.1 (e.2 :: r)) (gap last [])
def pool (es : List (Nat × CpInfo)) (last : Nat) : Array CpInfo := ⟨poolList es last⟩
def fileOf (pool : Array CpInfo) (this : Nat) (attrs : Array Attribute := #[]) (ms : Array MethodInfo := #[]) (fl : Nat := 33) (sup : Nat := 0) (ifs : Array Nat := #[]) (fds : Array FieldInfo := #[]) : ClassFile where
  minorVersion := 0
  majorVersion := 65
  constantPool := pool
  accessFlags := fl
  thisClass := this
  superClass := sup
  interfaces := ifs
  fields := fds
  methods := ms
  attributes := attrs
def plain (name : String) (sup : Option ClassId) : Class where
  name := name
  kind := .ordinary
  loader := none
  accessFlags := 33
  super := sup
  interfaces := #[]
  cf := none
  fields := #[]
  methods := #[]
  instanceTypes := #[]
  staticTypes := #[]
  resolved := #[]
  callSites := []
  init := .initialized
  statics := none
  mirror := none

def pool0 : Array CpInfo := pool [(5, u "<init>"), (0, u "()V"), (1, .class_ 10), (1, u "java/lang/Object")] 113

def k0c0 : Code := { maxStack := 0, maxLocals := 1, code := object_method_1_code, exceptionTable := #[], attributes := #[] }
def k0m0 : Method := { name := "<init>", desc := "()V", sig := { parameters := [], returnType := none }, accessFlags := 1, code := some k0c0 }
/-- java/lang/Object -/
def k0 : Class := { plain "java/lang/Object" none with
  accessFlags := 33
  interfaces := #[]
  cf := some (fileOf pool0 8 #[] #[{ accessFlags := 1, nameIndex := 5, descriptorIndex := 6, attributes := #[] }] 33 0 #[] #[])
  fields := #[]
  methods := #[k0m0]
  instanceTypes := #[]
  staticTypes := #[]
  resolved := Array.replicate 124 none
  statics := none }

def pool1 : Array CpInfo := pool [(2, .class_ 4), (1, u "java/lang/Object"), (0, u "<init>"), (0, u "()V"), (0, .integer 2147483647), (0, .methodref 9 10), (0, .class_ 11), (0, .nameAndType 12 13), (0, u "com/example/slackline/slackline/TooLargeExceptionForMethodPinLaw"), (0, u "mk"), (0, u "(ICC)Ljava/lang/String;"), (0, .methodref 15 16), (0, .class_ 17), (0, .nameAndType 18 19), (0, u "com/example/slackline/slackline/TooLargeException"), (0, u "forMethod"), (0, u "(Ljava/lang/String;Ljava/lang/String;)Lcom/example/slackline/slackline/TooLargeException;"), (0, .methodref 15 21), (0, .nameAndType 22 23), (0, u "getMessage"), (0, u "()Ljava/lang/String;"), (0, .methodref 25 26), (0, .class_ 27), (0, .nameAndType 28 29), (0, u "java/lang/String"), (0, u "length"), (0, u "()I"), (0, .methodref 9 31), (0, .nameAndType 32 33), (0, u "prefixOk"), (0, u "(Ljava/lang/String;)Z"), (0, .methodref 25 35), (0, .nameAndType 36 37), (0, u "charAt"), (0, u "(I)C"), (0, .methodref 25 39), (0, .nameAndType 5 40), (0, u "([C)V"), (0, .methodref 25 42), (0, .nameAndType 43 44), (0, u "valueOf"), (0, u "(C)Ljava/lang/String;"), (2, u "law"), (0, u "(IIIII)Z")] 3

def k1m0 : Method := { name := "<init>", desc := "()V", sig := { parameters := [], returnType := none }, accessFlags := 1, code := none }
def k1c1 : Code := { maxStack := 3, maxLocals := 15, code := code, exceptionTable := #[], attributes := #[] }
def k1m1 : Method := { name := "law", desc := "(IIIII)Z", sig := { parameters := [.int, .int, .int, .int, .int], returnType := some .boolean }, accessFlags := 9, code := some k1c1 }
def k1c2 : Code := { maxStack := 6, maxLocals := 3, code := method_3_code, exceptionTable := #[], attributes := #[] }
def k1m2 : Method := { name := "mk", desc := "(ICC)Ljava/lang/String;", sig := { parameters := [.int, .char, .char], returnType := some (.object "java/lang/String") }, accessFlags := 10, code := some k1c2 }
def k1c3 : Code := { maxStack := 2, maxLocals := 1, code := method_4_code, exceptionTable := #[], attributes := #[] }
def k1m3 : Method := { name := "prefixOk", desc := "(Ljava/lang/String;)Z", sig := { parameters := [(.object "java/lang/String")], returnType := some .boolean }, accessFlags := 10, code := some k1c3 }
/-- com/example/slackline/slackline/TooLargeExceptionForMethodPinLaw -/
def k1 : Class := { plain "com/example/slackline/slackline/TooLargeExceptionForMethodPinLaw" (some 0) with
  accessFlags := 49
  interfaces := #[]
  cf := some (fileOf pool1 9 #[] #[{ accessFlags := 1, nameIndex := 5, descriptorIndex := 6, attributes := #[] }, { accessFlags := 9, nameIndex := 47, descriptorIndex := 48, attributes := #[] }, { accessFlags := 10, nameIndex := 12, descriptorIndex := 13, attributes := #[] }, { accessFlags := 10, nameIndex := 32, descriptorIndex := 33, attributes := #[] }] 49 2 #[] #[])
  fields := #[]
  methods := #[k1m0, k1m1, k1m2, k1m3]
  instanceTypes := #[]
  staticTypes := #[]
  resolved := Array.replicate 52 none
  statics := none }

def pool2 : Array CpInfo := pool [(1, .class_ 2), (0, u "java/io/Serializable"), (0, .class_ 4), (0, u "java/lang/Object")] 2

/-- java/io/Serializable -/
def k2 : Class := { plain "java/io/Serializable" (some 0) with
  accessFlags := 1537
  interfaces := #[]
  cf := some (fileOf pool2 1 #[] #[] 1537 3 #[] #[])
  fields := #[]
  methods := #[]
  instanceTypes := #[]
  staticTypes := #[]
  resolved := Array.replicate 7 none
  statics := none }

def pool3 : Array CpInfo := pool [(1, .class_ 2), (0, u "java/lang/Comparable"), (0, .class_ 4), (0, u "java/lang/Object")] 7

/-- java/lang/Comparable -/
def k3 : Class := { plain "java/lang/Comparable" (some 0) with
  accessFlags := 1537
  interfaces := #[]
  cf := some (fileOf pool3 1 #[] #[] 1537 3 #[] #[])
  fields := #[]
  methods := #[]
  instanceTypes := #[]
  staticTypes := #[]
  resolved := Array.replicate 12 none
  statics := none }

def pool4 : Array CpInfo := pool [(2, .class_ 4), (1, u "java/lang/CharSequence"), (42, .class_ 48), (0, u "java/lang/CharSequence$1CodePointIterator"), (10, .class_ 60), (0, u "java/lang/CharSequence$1CharIterator"), (5, .class_ 67), (0, u "java/lang/Object")] 63

/-- java/lang/CharSequence -/
def k4 : Class := { plain "java/lang/CharSequence" (some 0) with
  accessFlags := 1537
  interfaces := #[]
  cf := some (fileOf pool4 2 #[.nestMembers #[47, 59]] #[] 1537 66 #[] #[])
  fields := #[]
  methods := #[]
  instanceTypes := #[]
  staticTypes := #[]
  resolved := Array.replicate 131 none
  statics := none }

def pool5 : Array CpInfo := pool [(1, .class_ 2), (0, u "java/lang/constant/Constable"), (0, .class_ 4), (0, u "java/lang/Object")] 6

/-- java/lang/constant/Constable -/
def k5 : Class := { plain "java/lang/constant/Constable" (some 0) with
  accessFlags := 1537
  interfaces := #[]
  cf := some (fileOf pool5 1 #[] #[] 1537 3 #[] #[])
  fields := #[]
  methods := #[]
  instanceTypes := #[]
  staticTypes := #[]
  resolved := Array.replicate 11 none
  statics := none }

def pool6 : Array CpInfo := pool [(1, .class_ 2), (0, u "java/lang/constant/ConstantDesc"), (0, .class_ 4), (0, u "java/lang/Object")] 32

/-- java/lang/constant/ConstantDesc -/
def k6 : Class := { plain "java/lang/constant/ConstantDesc" (some 0) with
  accessFlags := 1537
  interfaces := #[]
  cf := some (fileOf pool6 1 #[] #[] 1537 3 #[] #[])
  fields := #[]
  methods := #[]
  instanceTypes := #[]
  staticTypes := #[]
  resolved := Array.replicate 37 none
  statics := none }

def pool7 : Array CpInfo := pool [(1, .methodref 2 3), (0, .class_ 4), (0, .nameAndType 5 6), (0, u "java/lang/Object"), (0, u "<init>"), (0, u "()V"), (0, .string 8), (0, u ""), (0, .fieldref 10 11), (0, .class_ 12), (0, .nameAndType 13 14), (0, u "java/lang/String"), (0, u "value"), (0, u "[B"), (0, .fieldref 10 16), (0, .nameAndType 17 18), (0, u "coder"), (0, u "B"), (2, u "hash"), (0, u "I"), (2, u "hashIsZero"), (0, u "Z"), (0, .methodref 10 28), (0, .nameAndType 5 29), (0, u "([CIILjava/lang/Void;)V"), (8, .fieldref 10 39), (0, .nameAndType 40 26), (0, u "COMPACT_STRINGS"), (1, .class_ 44), (1, u "java/lang/StringUTF16"), (0, u "compress"), (1, .methodref 42 48), (0, .nameAndType 49 50), (0, u "coderFromArrayLen"), (0, u "([BI)B"), (2, u "toBytes"), (0, .methodref 55 56), (0, .class_ 57), (0, .nameAndType 58 59), (0, u "java/util/Arrays"), (0, u "copyOfRange"), (0, u "([BII)[B"), (47, .class_ 109), (1, u "java/lang/StringLatin1"), (32, u "()Z"), (34, .methodref 42 178), (0, .nameAndType 45 179), (0, u "([CII)[B"), (13, .class_ 195), (1, u "java/lang/System"), (13, .methodref 10 210), (0, .nameAndType 5 211), (0, u "([BB)V"), (0, .methodref 193 213), (0, .nameAndType 214 215), (0, u "arraycopy"), (0, u "(Ljava/lang/Object;ILjava/lang/Object;II)V"), (118, u "()I"), (0, .methodref 10 336), (0, .nameAndType 17 337), (0, u "()B"), (2, u "()[B"), (22, u "([BI)C"), (5, u "(C)Z"), (21, u "(II)V"), (35, u "(I)C"), (61, .methodref 10 490), (0, .nameAndType 5 491), (0, u "(Ljava/lang/AbstractStringBuilder;Ljava/lang/Void;)V"), (0, .methodref 10 493), (0, .nameAndType 494 142), (0, u "isLatin1"), (0, .methodref 107 496), (0, .nameAndType 497 363), (0, u "charAt"), (3, u "checkIndex"), (4, .nameAndType 507 334), (0, u "length"), (24, u "getBytes"), (16, .methodref 550 506), (0, .class_ 551), (0, u "java/lang/AbstractStringBuilder"), (0, .methodref 550 553), (0, .nameAndType 554 340), (0, u "getValue"), (20, .class_ 576), (0, u "java/lang/CharSequence"), (22, u "CASE_INSENSITIVE_ORDER"), (0, u "Ljava/util/Comparator;"), (181, u "valueOf"), (0, u "(C)Ljava/lang/String;"), (37, u "([BIB)V"), (188, u "([C)V"), (4, .methodref 107 1016), (0, .nameAndType 1017 369), (0, u "canEncode"), (0, .methodref 107 1019), (0, .nameAndType 53 1020), (0, u "(C)[B"), (26, .methodref 550 493), (5, .fieldref 1054 1055), (0, .class_ 1056), (0, .nameAndType 1057 1058), (0, u "jdk/internal/util/Preconditions"), (0, u "SIOOBE_FORMATTER"), (0, u "Ljava/util/function/BiFunction;"), (0, .methodref 1054 1060), (0, .nameAndType 501 1061), (0, u "(IILjava/util/function/BiFunction;)I"), (39, u "serialPersistentFields"), (0, u "[Ljava/io/ObjectStreamField;"), (0, .class_ 1104), (0, u "java/lang/String$CaseInsensitiveComparator"), (1, .class_ 1107), (0, u "java/io/Serializable"), (0, .class_ 1109), (0, u "java/lang/Comparable"), (0, .class_ 1111), (0, u "java/lang/constant/Constable"), (0, .class_ 1113), (0, u "java/lang/constant/ConstantDesc"), (2, u "serialVersionUID"), (0, u "J"), (3, u "REPL"), (0, u "C"), (2, u "LATIN1"), (1, u "UTF16"), (105, u "(Ljava/lang/StringBuilder;)V")] 217

def k7m0 : Method := { name := "<init>", desc := "()V", sig := { parameters := [], returnType := none }, accessFlags := 1, code := none }
def k7c1 : Code := { maxStack := 5, maxLocals := 2, code := jdk_42_method_3_code, exceptionTable := #[], attributes := #[] }
def k7m1 : Method := { name := "<init>", desc := "([C)V", sig := { parameters := [(.array .char)], returnType := none }, accessFlags := 1, code := some k7c1 }
def k7c2 : Code := { maxStack := 3, maxLocals := 2, code := jdk_42_method_53_code, exceptionTable := #[], attributes := #[] }
def k7m2 : Method := { name := "<init>", desc := "(Ljava/lang/StringBuilder;)V", sig := { parameters := [(.object "java/lang/StringBuilder")], returnType := none }, accessFlags := 1, code := some k7c2 }
def k7c3 : Code := { maxStack := 2, maxLocals := 1, code := jdk_42_method_54_code, exceptionTable := #[], attributes := #[] }
def k7m3 : Method := { name := "length", desc := "()I", sig := { parameters := [], returnType := some .int }, accessFlags := 1, code := some k7c3 }
def k7c4 : Code := { maxStack := 2, maxLocals := 2, code := jdk_42_method_56_code, exceptionTable := #[], attributes := #[] }
def k7m4 : Method := { name := "charAt", desc := "(I)C", sig := { parameters := [.int], returnType := some .char }, accessFlags := 1, code := some k7c4 }
def k7c5 : Code := { maxStack := 4, maxLocals := 1, code := jdk_42_method_139_code, exceptionTable := #[], attributes := #[] }
def k7m5 : Method := { name := "valueOf", desc := "(C)Ljava/lang/String;", sig := { parameters := [.char], returnType := some (.object "java/lang/String") }, accessFlags := 9, code := some k7c5 }
def k7c6 : Code := { maxStack := 5, maxLocals := 4, code := jdk_42_method_147_code, exceptionTable := #[], attributes := #[] }
def k7m6 : Method := { name := "getBytes", desc := "([BIB)V", sig := { parameters := [(.array .byte), .int, .byte], returnType := none }, accessFlags := 0, code := some k7c6 }
def k7c7 : Code := { maxStack := 4, maxLocals := 6, code := jdk_42_method_149_code, exceptionTable := #[], attributes := #[] }
def k7m7 : Method := { name := "<init>", desc := "([CIILjava/lang/Void;)V", sig := { parameters := [(.array .char), .int, .int, (.object "java/lang/Void")], returnType := none }, accessFlags := 2, code := some k7c7 }
def k7c8 : Code := { maxStack := 5, maxLocals := 5, code := jdk_42_method_150_code, exceptionTable := #[], attributes := #[] }
def k7m8 : Method := { name := "<init>", desc := "(Ljava/lang/AbstractStringBuilder;Ljava/lang/Void;)V", sig := { parameters := [(.object "java/lang/AbstractStringBuilder"), (.object "java/lang/Void")], returnType := none }, accessFlags := 0, code := some k7c8 }
def k7c9 : Code := { maxStack := 2, maxLocals := 3, code := jdk_42_method_151_code, exceptionTable := #[], attributes := #[] }
def k7m9 : Method := { name := "<init>", desc := "([BB)V", sig := { parameters := [(.array .byte), .byte], returnType := none }, accessFlags := 0, code := some k7c9 }
def k7c10 : Code := { maxStack := 1, maxLocals := 1, code := jdk_42_method_152_code, exceptionTable := #[], attributes := #[] }
def k7m10 : Method := { name := "coder", desc := "()B", sig := { parameters := [], returnType := some .byte }, accessFlags := 0, code := some k7c10 }
def k7c11 : Code := { maxStack := 1, maxLocals := 1, code := jdk_42_method_154_code, exceptionTable := #[], attributes := #[] }
def k7m11 : Method := { name := "isLatin1", desc := "()Z", sig := { parameters := [], returnType := some .boolean }, accessFlags := 0, code := some k7c11 }
def k7c12 : Code := { maxStack := 3, maxLocals := 2, code := jdk_42_method_155_code, exceptionTable := #[], attributes := #[] }
def k7m12 : Method := { name := "checkIndex", desc := "(II)V", sig := { parameters := [.int, .int], returnType := none }, accessFlags := 8, code := some k7c12 }
/-- java/lang/String -/
def k7 : Class := { plain "java/lang/String" (some 0) with
  accessFlags := 49
  interfaces := #[2, 3, 4, 5, 6]
  cf := some (fileOf pool7 10 #[.nestMembers #[1103]] #[{ accessFlags := 1, nameIndex := 5, descriptorIndex := 6, attributes := #[] }, { accessFlags := 1, nameIndex := 5, descriptorIndex := 1010, attributes := #[] }, { accessFlags := 1, nameIndex := 5, descriptorIndex := 1233, attributes := #[] }, { accessFlags := 1, nameIndex := 507, descriptorIndex := 334, attributes := #[] }, { accessFlags := 1, nameIndex := 497, descriptorIndex := 427, attributes := #[] }, { accessFlags := 9, nameIndex := 782, descriptorIndex := 783, attributes := #[] }, { accessFlags := 0, nameIndex := 532, descriptorIndex := 821, attributes := #[] }, { accessFlags := 2, nameIndex := 5, descriptorIndex := 29, attributes := #[] }, { accessFlags := 0, nameIndex := 5, descriptorIndex := 491, attributes := #[] }, { accessFlags := 0, nameIndex := 5, descriptorIndex := 211, attributes := #[] }, { accessFlags := 0, nameIndex := 17, descriptorIndex := 337, attributes := #[] }, { accessFlags := 0, nameIndex := 494, descriptorIndex := 142, attributes := #[] }, { accessFlags := 8, nameIndex := 501, descriptorIndex := 391, attributes := #[] }] 49 2 #[1106, 1108, 575, 1110, 1112] #[{ accessFlags := 18, nameIndex := 13, descriptorIndex := 14, attributes := #[] }, { accessFlags := 18, nameIndex := 17, descriptorIndex := 18, attributes := #[] }, { accessFlags := 2, nameIndex := 21, descriptorIndex := 22, attributes := #[] }, { accessFlags := 2, nameIndex := 25, descriptorIndex := 26, attributes := #[] }, { accessFlags := 26, nameIndex := 1116, descriptorIndex := 1117, attributes := #[] }, { accessFlags := 24, nameIndex := 40, descriptorIndex := 26, attributes := #[] }, { accessFlags := 26, nameIndex := 1101, descriptorIndex := 1102, attributes := #[] }, { accessFlags := 26, nameIndex := 1121, descriptorIndex := 1122, attributes := #[] }, { accessFlags := 25, nameIndex := 599, descriptorIndex := 600, attributes := #[] }, { accessFlags := 24, nameIndex := 1125, descriptorIndex := 18, attributes := #[] }, { accessFlags := 24, nameIndex := 1127, descriptorIndex := 18, attributes := #[] }])
  fields := #[{ name := "value", type := (.array .byte), accessFlags := 18, slot := 0, constantValue := 0 }, { name := "coder", type := .byte, accessFlags := 18, slot := 1, constantValue := 0 }, { name := "hash", type := .int, accessFlags := 2, slot := 2, constantValue := 0 }, { name := "hashIsZero", type := .boolean, accessFlags := 2, slot := 3, constantValue := 0 }, { name := "serialVersionUID", type := .long, accessFlags := 26, slot := 0, constantValue := 0 }, { name := "COMPACT_STRINGS", type := .boolean, accessFlags := 24, slot := 1, constantValue := 0 }, { name := "serialPersistentFields", type := (.array (.object "java/io/ObjectStreamField")), accessFlags := 26, slot := 2, constantValue := 0 }, { name := "REPL", type := .char, accessFlags := 26, slot := 3, constantValue := 0 }, { name := "CASE_INSENSITIVE_ORDER", type := (.object "java/util/Comparator"), accessFlags := 25, slot := 4, constantValue := 0 }, { name := "LATIN1", type := .byte, accessFlags := 24, slot := 5, constantValue := 0 }, { name := "UTF16", type := .byte, accessFlags := 24, slot := 6, constantValue := 0 }]
  methods := #[k7m0, k7m1, k7m2, k7m3, k7m4, k7m5, k7m6, k7m7, k7m8, k7m9, k7m10, k7m11, k7m12]
  instanceTypes := #[(.array .byte), .byte, .int, .boolean]
  staticTypes := #[.long, .boolean, (.array (.object "java/io/ObjectStreamField")), .char, (.object "java/util/Comparator"), .byte, .byte]
  resolved := Array.replicate 1451 none
  statics := some 0 }

def pool8 : Array CpInfo := pool [(1, .methodref 2 3), (0, .class_ 4), (0, .nameAndType 5 6), (0, u "java/lang/Object"), (0, u "<init>"), (0, u "()V"), (0, .fieldref 8 9), (0, .class_ 10), (0, .nameAndType 11 12), (0, u "java/lang/Throwable"), (0, u "cause"), (0, u "Ljava/lang/Throwable;"), (0, .fieldref 8 14), (0, .nameAndType 15 16), (0, u "UNASSIGNED_STACK"), (0, u "[Ljava/lang/StackTraceElement;"), (0, .fieldref 8 18), (0, .nameAndType 19 16), (0, u "stackTrace"), (0, .fieldref 8 21), (0, .nameAndType 22 23), (0, u "SUPPRESSED_SENTINEL"), (0, u "Ljava/util/List;"), (0, .fieldref 8 25), (0, .nameAndType 26 23), (0, u "suppressedExceptions"), (0, .methodref 8 28), (0, .nameAndType 29 30), (0, u "fillInStackTrace"), (0, u "()Ljava/lang/Throwable;"), (0, .fieldref 8 32), (0, .nameAndType 33 34), (0, u "detailMessage"), (0, u "Ljava/lang/String;"), (3, u "()Ljava/lang/String;"), (2, u "getMessage"), (51, .class_ 94), (0, u "java/lang/Throwable$WrappedPrintStream"), (6, .class_ 103), (1, u "java/lang/Throwable$PrintStreamOrWriter"), (61, u "$assertionsDisabled"), (0, u "Z"), (26, .class_ 194), (0, u "java/lang/Throwable$WrappedPrintWriter"), (3, .fieldref 8 199), (0, .nameAndType 200 201), (0, u "backtrace"), (0, u "Ljava/lang/Object;"), (0, .methodref 8 203), (0, .nameAndType 29 204), (0, u "(I)Ljava/lang/Throwable;"), (6, u "depth"), (0, u "I"), (10, u "(Ljava/lang/String;)V"), (45, .class_ 271), (1, u "java/lang/Throwable$SentinelHolder"), (32, u "EMPTY_THROWABLE_ARRAY"), (0, u "[Ljava/lang/Throwable;"), (12, .class_ 319), (0, u "java/io/Serializable"), (0, u "serialVersionUID"), (0, u "J"), (5, u "NULL_CAUSE_MESSAGE"), (0, u "SELF_SUPPRESSION_MESSAGE"), (0, u "CAUSE_CAPTION"), (0, u "SUPPRESSED_CAPTION")] 73

def k8c0 : Code := { maxStack := 2, maxLocals := 1, code := jdk_78_method_1_code, exceptionTable := #[], attributes := #[] }
def k8m0 : Method := { name := "<init>", desc := "()V", sig := { parameters := [], returnType := none }, accessFlags := 1, code := some k8c0 }
def k8c1 : Code := { maxStack := 2, maxLocals := 2, code := jdk_78_method_2_code, exceptionTable := #[], attributes := #[] }
def k8m1 : Method := { name := "<init>", desc := "(Ljava/lang/String;)V", sig := { parameters := [(.object "java/lang/String")], returnType := none }, accessFlags := 1, code := some k8c1 }
def k8c2 : Code := { maxStack := 1, maxLocals := 1, code := jdk_78_method_6_code, exceptionTable := #[], attributes := #[] }
def k8m2 : Method := { name := "getMessage", desc := "()Ljava/lang/String;", sig := { parameters := [], returnType := some (.object "java/lang/String") }, accessFlags := 1, code := some k8c2 }
def k8c3 : Code := { maxStack := 2, maxLocals := 1, code := ⟨#[0x2a, 0xb4, 0x00, 0x11, 0xc7, 0x00, 0x0a, 0x2a, 0xb4, 0x00, 0xc6, 0xc6, 0x00, 0x10, 0x2a, 0x03, 0xb6, 0x00, 0xca, 0x57, 0x2a, 0xb2, 0x00, 0x0d, 0xb5, 0x00, 0x11, 0x2a, 0xb0]⟩, exceptionTable := #[], attributes := #[] }
def k8m3 : Method := { name := "fillInStackTrace", desc := "()Ljava/lang/Throwable;", sig := { parameters := [], returnType := some (.object "java/lang/Throwable") }, accessFlags := 33, code := some k8c3 }
def k8m4 : Method := { name := "fillInStackTrace", desc := "(I)Ljava/lang/Throwable;", sig := { parameters := [.int], returnType := some (.object "java/lang/Throwable") }, accessFlags := 258, code := none }
/-- java/lang/Throwable -/
def k8 : Class := { plain "java/lang/Throwable" (some 0) with
  accessFlags := 33
  interfaces := #[2]
  cf := some (fileOf pool8 8 #[.nestMembers #[193, 93, 101, 269]] #[{ accessFlags := 1, nameIndex := 5, descriptorIndex := 6, attributes := #[] }, { accessFlags := 1, nameIndex := 5, descriptorIndex := 223, attributes := #[] }, { accessFlags := 1, nameIndex := 41, descriptorIndex := 38, attributes := #[] }, { accessFlags := 33, nameIndex := 29, descriptorIndex := 30, attributes := #[] }, { accessFlags := 258, nameIndex := 29, descriptorIndex := 204, attributes := #[] }] 33 2 #[318] #[{ accessFlags := 26, nameIndex := 320, descriptorIndex := 321, attributes := #[] }, { accessFlags := 130, nameIndex := 200, descriptorIndex := 201, attributes := #[] }, { accessFlags := 2, nameIndex := 33, descriptorIndex := 34, attributes := #[] }, { accessFlags := 26, nameIndex := 15, descriptorIndex := 16, attributes := #[] }, { accessFlags := 2, nameIndex := 11, descriptorIndex := 12, attributes := #[] }, { accessFlags := 2, nameIndex := 19, descriptorIndex := 16, attributes := #[] }, { accessFlags := 130, nameIndex := 211, descriptorIndex := 212, attributes := #[] }, { accessFlags := 26, nameIndex := 22, descriptorIndex := 23, attributes := #[] }, { accessFlags := 2, nameIndex := 26, descriptorIndex := 23, attributes := #[] }, { accessFlags := 26, nameIndex := 327, descriptorIndex := 34, attributes := #[] }, { accessFlags := 26, nameIndex := 328, descriptorIndex := 34, attributes := #[] }, { accessFlags := 26, nameIndex := 329, descriptorIndex := 34, attributes := #[] }, { accessFlags := 26, nameIndex := 330, descriptorIndex := 34, attributes := #[] }, { accessFlags := 26, nameIndex := 304, descriptorIndex := 305, attributes := #[] }, { accessFlags := 4120, nameIndex := 165, descriptorIndex := 166, attributes := #[] }])
  fields := #[{ name := "serialVersionUID", type := .long, accessFlags := 26, slot := 0, constantValue := 0 }, { name := "backtrace", type := (.object "java/lang/Object"), accessFlags := 130, slot := 0, constantValue := 0 }, { name := "detailMessage", type := (.object "java/lang/String"), accessFlags := 2, slot := 1, constantValue := 0 }, { name := "UNASSIGNED_STACK", type := (.array (.object "java/lang/StackTraceElement")), accessFlags := 26, slot := 1, constantValue := 0 }, { name := "cause", type := (.object "java/lang/Throwable"), accessFlags := 2, slot := 2, constantValue := 0 }, { name := "stackTrace", type := (.array (.object "java/lang/StackTraceElement")), accessFlags := 2, slot := 3, constantValue := 0 }, { name := "depth", type := .int, accessFlags := 130, slot := 4, constantValue := 0 }, { name := "SUPPRESSED_SENTINEL", type := (.object "java/util/List"), accessFlags := 26, slot := 2, constantValue := 0 }, { name := "suppressedExceptions", type := (.object "java/util/List"), accessFlags := 2, slot := 5, constantValue := 0 }, { name := "NULL_CAUSE_MESSAGE", type := (.object "java/lang/String"), accessFlags := 26, slot := 3, constantValue := 0 }, { name := "SELF_SUPPRESSION_MESSAGE", type := (.object "java/lang/String"), accessFlags := 26, slot := 4, constantValue := 0 }, { name := "CAUSE_CAPTION", type := (.object "java/lang/String"), accessFlags := 26, slot := 5, constantValue := 0 }, { name := "SUPPRESSED_CAPTION", type := (.object "java/lang/String"), accessFlags := 26, slot := 6, constantValue := 0 }, { name := "EMPTY_THROWABLE_ARRAY", type := (.array (.object "java/lang/Throwable")), accessFlags := 26, slot := 7, constantValue := 0 }, { name := "$assertionsDisabled", type := .boolean, accessFlags := 4120, slot := 8, constantValue := 0 }]
  methods := #[k8m0, k8m1, k8m2, k8m3, k8m4]
  instanceTypes := #[(.object "java/lang/Object"), (.object "java/lang/String"), (.object "java/lang/Throwable"), (.array (.object "java/lang/StackTraceElement")), .int, (.object "java/util/List")]
  staticTypes := #[.long, (.array (.object "java/lang/StackTraceElement")), (.object "java/util/List"), (.object "java/lang/String"), (.object "java/lang/String"), (.object "java/lang/String"), (.object "java/lang/String"), (.array (.object "java/lang/Throwable")), .boolean]
  resolved := Array.replicate 404 none
  statics := some 1 }

def pool9 : Array CpInfo := pool [(2, .class_ 4), (1, u "java/lang/Throwable"), (0, u "<init>"), (0, u "()V"), (0, .methodref 2 8), (0, .nameAndType 5 9), (0, u "(Ljava/lang/String;)V"), (9, .class_ 20), (0, u "java/lang/Exception"), (0, u "serialVersionUID"), (0, u "J")] 17

def k9m0 : Method := { name := "<init>", desc := "()V", sig := { parameters := [], returnType := none }, accessFlags := 1, code := none }
def k9c1 : Code := { maxStack := 2, maxLocals := 2, code := jdk_59_method_2_code, exceptionTable := #[], attributes := #[] }
def k9m1 : Method := { name := "<init>", desc := "(Ljava/lang/String;)V", sig := { parameters := [(.object "java/lang/String")], returnType := none }, accessFlags := 1, code := some k9c1 }
/-- java/lang/Exception -/
def k9 : Class := { plain "java/lang/Exception" (some 8) with
  accessFlags := 33
  interfaces := #[]
  cf := some (fileOf pool9 19 #[] #[{ accessFlags := 1, nameIndex := 5, descriptorIndex := 6, attributes := #[] }, { accessFlags := 1, nameIndex := 5, descriptorIndex := 9, attributes := #[] }] 33 2 #[] #[{ accessFlags := 24, nameIndex := 21, descriptorIndex := 22, attributes := #[] }])
  fields := #[{ name := "serialVersionUID", type := .long, accessFlags := 24, slot := 0, constantValue := 0 }]
  methods := #[k9m0, k9m1]
  instanceTypes := #[(.object "java/lang/Object"), (.object "java/lang/String"), (.object "java/lang/Throwable"), (.array (.object "java/lang/StackTraceElement")), .int, (.object "java/util/List")]
  staticTypes := #[.long]
  resolved := Array.replicate 40 none
  statics := none }

def pool10 : Array CpInfo := pool [(1, .methodref 2 3), (0, .class_ 4), (0, .nameAndType 5 6), (0, u "java/lang/Exception"), (0, u "<init>"), (0, u "(Ljava/lang/String;)V"), (0, .class_ 8), (0, u "com/example/slackline/slackline/TooLargeException"), (0, .class_ 10), (0, u "java/lang/StringBuilder"), (0, .methodref 9 12), (0, .nameAndType 5 13), (0, u "()V"), (0, .string 15), (0, u "network too large for "), (0, .methodref 9 17), (0, .nameAndType 18 19), (0, u "append"), (0, u "(Ljava/lang/String;)Ljava/lang/StringBuilder;"), (0, .string 21), (0, u ": "), (0, .methodref 9 23), (0, .nameAndType 24 25), (0, u "toString"), (0, u "()Ljava/lang/String;"), (0, .methodref 7 3), (22, u "serialVersionUID"), (0, u "J"), (3, u "MEBIBYTE"), (2, u "forMethod"), (0, u "(Ljava/lang/String;Ljava/lang/String;)Lcom/example/slackline/slackline/TooLargeException;")] 5

def k10c0 : Code := { maxStack := 2, maxLocals := 2, code := prog_52_method_1_code, exceptionTable := #[], attributes := #[] }
def k10m0 : Method := { name := "<init>", desc := "(Ljava/lang/String;)V", sig := { parameters := [(.object "java/lang/String")], returnType := none }, accessFlags := 0, code := some k10c0 }
def k10c1 : Code := { maxStack := 4, maxLocals := 2, code := prog_52_method_2_code, exceptionTable := #[], attributes := #[] }
def k10m1 : Method := { name := "forMethod", desc := "(Ljava/lang/String;Ljava/lang/String;)Lcom/example/slackline/slackline/TooLargeException;", sig := { parameters := [(.object "java/lang/String"), (.object "java/lang/String")], returnType := some (.object "com/example/slackline/slackline/TooLargeException") }, accessFlags := 8, code := some k10c1 }
/-- com/example/slackline/slackline/TooLargeException -/
def k10 : Class := { plain "com/example/slackline/slackline/TooLargeException" (some 9) with
  accessFlags := 48
  interfaces := #[]
  cf := some (fileOf pool10 7 #[] #[{ accessFlags := 0, nameIndex := 5, descriptorIndex := 6, attributes := #[] }, { accessFlags := 8, nameIndex := 57, descriptorIndex := 58, attributes := #[] }] 48 2 #[] #[{ accessFlags := 26, nameIndex := 49, descriptorIndex := 50, attributes := #[] }, { accessFlags := 26, nameIndex := 54, descriptorIndex := 50, attributes := #[] }])
  fields := #[{ name := "serialVersionUID", type := .long, accessFlags := 26, slot := 0, constantValue := 0 }, { name := "MEBIBYTE", type := .long, accessFlags := 26, slot := 1, constantValue := 0 }]
  methods := #[k10m0, k10m1]
  instanceTypes := #[(.object "java/lang/Object"), (.object "java/lang/String"), (.object "java/lang/Throwable"), (.array (.object "java/lang/StackTraceElement")), .int, (.object "java/util/List")]
  staticTypes := #[.long, .long]
  resolved := Array.replicate 64 none
  statics := none }

def pool11 : Array CpInfo := pool [(1, .class_ 2), (0, u "java/lang/Appendable"), (0, .class_ 4), (0, u "java/lang/Object")] 9

/-- java/lang/Appendable -/
def k11 : Class := { plain "java/lang/Appendable" (some 0) with
  accessFlags := 1537
  interfaces := #[]
  cf := some (fileOf pool11 1 #[] #[] 1537 3 #[] #[])
  fields := #[]
  methods := #[]
  instanceTypes := #[]
  staticTypes := #[]
  resolved := Array.replicate 14 none
  statics := none }

def pool12 : Array CpInfo := pool [(1, .class_ 2), (0, u "java/lang/String"), (0, .methodref 4 5), (0, .class_ 6), (0, .nameAndType 7 8), (0, u "java/lang/Object"), (0, u "<init>"), (0, u "()V"), (1, .class_ 12), (1, u "java/lang/AbstractStringBuilder"), (0, u "EMPTYVALUE"), (0, u "[B"), (0, .fieldref 10 16), (0, .nameAndType 17 14), (0, u "value"), (0, .fieldref 1 19), (0, .nameAndType 20 21), (0, u "COMPACT_STRINGS"), (0, u "Z"), (0, .fieldref 10 23), (0, .nameAndType 24 25), (0, u "coder"), (0, u "B"), (6, .methodref 1 33), (0, .nameAndType 34 35), (0, u "length"), (0, u "()I"), (3, .integer 2147483647), (0, .methodref 1 41), (0, .nameAndType 24 42), (0, u "()B"), (2, u "append"), (0, u "(Ljava/lang/String;)Ljava/lang/AbstractStringBuilder;"), (1, .class_ 49), (0, u "java/lang/CharSequence"), (19, u "(Ljava/lang/String;)V"), (5, u "maybeLatin1"), (3, .fieldref 10 80), (0, .nameAndType 81 82), (0, u "count"), (0, u "I"), (2, u "isLatin1"), (0, u "()Z"), (13, .methodref 10 101), (0, .nameAndType 102 103), (0, u "ensureCapacityInternal"), (0, u "(I)V"), (0, .methodref 10 105), (0, .nameAndType 106 107), (0, u "newCapacity"), (0, u "(I)I"), (0, .methodref 109 110), (0, .class_ 111), (0, .nameAndType 112 113), (0, u "java/util/Arrays"), (0, u "copyOf"), (0, u "([BI)[B"), (0, .methodref 115 116), (0, .class_ 117), (0, .nameAndType 118 119), (0, u "jdk/internal/util/ArraysSupport"), (0, u "newLength"), (0, u "(III)I"), (88, .methodref 10 209), (0, .nameAndType 210 211), (0, u "putStringAt"), (0, u "(ILjava/lang/String;)V"), (5, u "inflateIfNeededFor"), (2, .nameAndType 221 222), (0, u "getBytes"), (0, u "([BIB)V"), (174, .methodref 10 398), (0, .nameAndType 217 69), (0, .methodref 1 220), (3, u "()[B"), (40, .class_ 445), (0, u "java/lang/Appendable"), (106, u "getValue")] 56

def k12m0 : Method := { name := "<init>", desc := "()V", sig := { parameters := [], returnType := none }, accessFlags := 0, code := none }
def k12c1 : Code := { maxStack := 2, maxLocals := 2, code := jdk_68_method_2_code, exceptionTable := #[], attributes := #[] }
def k12m1 : Method := { name := "<init>", desc := "(I)V", sig := { parameters := [.int], returnType := none }, accessFlags := 0, code := some k12c1 }
def k12c2 : Code := { maxStack := 1, maxLocals := 1, code := jdk_68_method_6_code, exceptionTable := #[], attributes := #[] }
def k12m2 : Method := { name := "length", desc := "()I", sig := { parameters := [], returnType := some .int }, accessFlags := 1, code := some k12c2 }
def k12c3 : Code := { maxStack := 4, maxLocals := 3, code := jdk_68_method_9_code, exceptionTable := #[], attributes := #[] }
def k12m3 : Method := { name := "ensureCapacityInternal", desc := "(I)V", sig := { parameters := [.int], returnType := none }, accessFlags := 2, code := some k12c3 }
def k12c4 : Code := { maxStack := 5, maxLocals := 6, code := jdk_68_method_10_code, exceptionTable := #[], attributes := #[] }
def k12m4 : Method := { name := "newCapacity", desc := "(I)I", sig := { parameters := [.int], returnType := some .int }, accessFlags := 2, code := some k12c4 }
def k12c5 : Code := { maxStack := 3, maxLocals := 3, code := jdk_68_method_22_code, exceptionTable := #[], attributes := #[] }
def k12m5 : Method := { name := "append", desc := "(Ljava/lang/String;)Ljava/lang/AbstractStringBuilder;", sig := { parameters := [(.object "java/lang/String")], returnType := some (.object "java/lang/AbstractStringBuilder") }, accessFlags := 1, code := some k12c5 }
def k12c6 : Code := { maxStack := 1, maxLocals := 1, code := jdk_68_method_64_code, exceptionTable := #[], attributes := #[] }
def k12m6 : Method := { name := "getValue", desc := "()[B", sig := { parameters := [], returnType := some (.array .byte) }, accessFlags := 16, code := some k12c6 }
def k12c7 : Code := { maxStack := 1, maxLocals := 1, code := jdk_68_method_68_code, exceptionTable := #[], attributes := #[] }
def k12m7 : Method := { name := "isLatin1", desc := "()Z", sig := { parameters := [], returnType := some .boolean }, accessFlags := 16, code := some k12c7 }
def k12c8 : Code := { maxStack := 2, maxLocals := 2, code := jdk_68_method_71_code, exceptionTable := #[], attributes := #[] }
def k12m8 : Method := { name := "inflateIfNeededFor", desc := "(Ljava/lang/String;)V", sig := { parameters := [(.object "java/lang/String")], returnType := none }, accessFlags := 2, code := some k12c8 }
def k12c9 : Code := { maxStack := 4, maxLocals := 3, code := jdk_68_method_73_code, exceptionTable := #[], attributes := #[] }
def k12m9 : Method := { name := "putStringAt", desc := "(ILjava/lang/String;)V", sig := { parameters := [.int, (.object "java/lang/String")], returnType := none }, accessFlags := 2, code := some k12c9 }
/-- java/lang/AbstractStringBuilder -/
def k12 : Class := { plain "java/lang/AbstractStringBuilder" (some 0) with
  accessFlags := 1056
  interfaces := #[11, 4]
  cf := some (fileOf pool12 10 #[] #[{ accessFlags := 0, nameIndex := 7, descriptorIndex := 8, attributes := #[] }, { accessFlags := 0, nameIndex := 7, descriptorIndex := 103, attributes := #[] }, { accessFlags := 1, nameIndex := 34, descriptorIndex := 35, attributes := #[] }, { accessFlags := 2, nameIndex := 102, descriptorIndex := 103, attributes := #[] }, { accessFlags := 2, nameIndex := 106, descriptorIndex := 107, attributes := #[] }, { accessFlags := 1, nameIndex := 45, descriptorIndex := 46, attributes := #[] }, { accessFlags := 16, nameIndex := 552, descriptorIndex := 403, attributes := #[] }, { accessFlags := 16, nameIndex := 85, descriptorIndex := 86, attributes := #[] }, { accessFlags := 2, nameIndex := 217, descriptorIndex := 69, attributes := #[] }, { accessFlags := 2, nameIndex := 210, descriptorIndex := 211, attributes := #[] }] 1056 4 #[444, 48] #[{ accessFlags := 0, nameIndex := 17, descriptorIndex := 14, attributes := #[] }, { accessFlags := 0, nameIndex := 24, descriptorIndex := 25, attributes := #[] }, { accessFlags := 0, nameIndex := 75, descriptorIndex := 21, attributes := #[] }, { accessFlags := 0, nameIndex := 81, descriptorIndex := 82, attributes := #[] }, { accessFlags := 26, nameIndex := 13, descriptorIndex := 14, attributes := #[] }])
  fields := #[{ name := "value", type := (.array .byte), accessFlags := 0, slot := 0, constantValue := 0 }, { name := "coder", type := .byte, accessFlags := 0, slot := 1, constantValue := 0 }, { name := "maybeLatin1", type := .boolean, accessFlags := 0, slot := 2, constantValue := 0 }, { name := "count", type := .int, accessFlags := 0, slot := 3, constantValue := 0 }, { name := "EMPTYVALUE", type := (.array .byte), accessFlags := 26, slot := 0, constantValue := 0 }]
  methods := #[k12m0, k12m1, k12m2, k12m3, k12m4, k12m5, k12m6, k12m7, k12m8, k12m9]
  instanceTypes := #[(.array .byte), .byte, .boolean, .int]
  staticTypes := #[(.array .byte)]
  resolved := Array.replicate 609 none
  statics := none }

def pool13 : Array CpInfo := pool [(1, .methodref 2 3), (0, .class_ 4), (0, .nameAndType 5 6), (0, u "java/lang/AbstractStringBuilder"), (0, u "<init>"), (0, u "(I)V"), (11, .class_ 20), (1, u "java/lang/String"), (3, .class_ 26), (1, u "java/lang/StringBuilder"), (0, u "append"), (0, u "(Ljava/lang/String;)Ljava/lang/StringBuilder;"), (0, .methodref 2 30), (0, .nameAndType 27 31), (0, u "(Ljava/lang/String;)Ljava/lang/AbstractStringBuilder;"), (105, .methodref 18 138), (0, .nameAndType 5 139), (0, u "(Ljava/lang/StringBuilder;)V"), (5, u "()V"), (10, u "()I"), (186, .methodref 2 344), (0, .nameAndType 345 156), (0, u "length"), (3, .class_ 350), (0, u "java/lang/Appendable"), (0, .class_ 352), (0, u "java/io/Serializable"), (0, .class_ 354), (0, u "java/lang/Comparable"), (0, .class_ 356), (0, u "java/lang/CharSequence"), (0, u "serialVersionUID"), (0, u "J"), (40, u "toString"), (0, u "()Ljava/lang/String;")] 21

def k13c0 : Code := { maxStack := 2, maxLocals := 1, code := jdk_67_method_1_code, exceptionTable := #[], attributes := #[] }
def k13m0 : Method := { name := "<init>", desc := "()V", sig := { parameters := [], returnType := none }, accessFlags := 1, code := some k13c0 }
def k13c1 : Code := { maxStack := 2, maxLocals := 2, code := jdk_67_method_7_code, exceptionTable := #[], attributes := #[] }
def k13m1 : Method := { name := "append", desc := "(Ljava/lang/String;)Ljava/lang/StringBuilder;", sig := { parameters := [(.object "java/lang/String")], returnType := some (.object "java/lang/StringBuilder") }, accessFlags := 1, code := some k13c1 }
def k13c2 : Code := { maxStack := 3, maxLocals := 1, code := jdk_67_method_42_code, exceptionTable := #[], attributes := #[] }
def k13m2 : Method := { name := "toString", desc := "()Ljava/lang/String;", sig := { parameters := [], returnType := some (.object "java/lang/String") }, accessFlags := 1, code := some k13c2 }
def k13c3 : Code := { maxStack := 1, maxLocals := 1, code := jdk_67_method_93_code, exceptionTable := #[], attributes := #[] }
def k13m3 : Method := { name := "length", desc := "()I", sig := { parameters := [], returnType := some .int }, accessFlags := 4161, code := some k13c3 }
/-- java/lang/StringBuilder -/
def k13 : Class := { plain "java/lang/StringBuilder" (some 12) with
  accessFlags := 49
  interfaces := #[11, 2, 3, 4]
  cf := some (fileOf pool13 24 #[] #[{ accessFlags := 1, nameIndex := 5, descriptorIndex := 145, attributes := #[] }, { accessFlags := 1, nameIndex := 27, descriptorIndex := 28, attributes := #[] }, { accessFlags := 1, nameIndex := 399, descriptorIndex := 400, attributes := #[] }, { accessFlags := 4161, nameIndex := 345, descriptorIndex := 156, attributes := #[] }] 49 2 #[349, 351, 353, 355] #[{ accessFlags := 24, nameIndex := 357, descriptorIndex := 358, attributes := #[] }])
  fields := #[{ name := "serialVersionUID", type := .long, accessFlags := 24, slot := 0, constantValue := 0 }]
  methods := #[k13m0, k13m1, k13m2, k13m3]
  instanceTypes := #[(.array .byte), .byte, .boolean, .int]
  staticTypes := #[.long]
  resolved := Array.replicate 422 none
  statics := none }

def pool14 : Array CpInfo := pool [(9, u "<init>"), (6, .class_ 18), (1, u "java/lang/Object"), (0, u "()V"), (1, .class_ 23), (1, u "jdk/internal/util/ArraysSupport"), (0, u "LOG2_ARRAY_LONG_INDEX_SCALE"), (0, u "I"), (2, u "U"), (0, u "Ljdk/internal/misc/Unsafe;"), (8, u "BIG_ENDIAN"), (0, u "Z"), (8, u "LOG2_BYTE_BIT_SIZE"), (4, u "LOG2_ARRAY_INT_INDEX_SCALE"), (54, u "JLA"), (0, u "Ljdk/internal/access/JavaLangAccess;"), (11, u "LOG2_ARRAY_BOOLEAN_INDEX_SCALE"), (9, u "LOG2_ARRAY_BYTE_INDEX_SCALE"), (5, u "LOG2_ARRAY_CHAR_INDEX_SCALE"), (5, u "LOG2_ARRAY_SHORT_INDEX_SCALE"), (18, u "LOG2_ARRAY_FLOAT_INDEX_SCALE"), (24, u "LOG2_ARRAY_DOUBLE_INDEX_SCALE"), (6, .methodref 195 196), (0, .class_ 197), (0, .nameAndType 198 199), (0, u "java/lang/Math"), (0, u "max"), (0, u "(II)I"), (0, .integer 2147483639), (76, u "T_BOOLEAN"), (2, u "T_CHAR"), (1, u "T_FLOAT"), (1, u "T_DOUBLE"), (1, u "T_BYTE"), (1, u "T_SHORT"), (1, u "T_INT"), (1, u "T_LONG"), (1, u "SOFT_MAX_ARRAY_LENGTH"), (56, u "newLength"), (0, u "(III)I")] 25

def k14m0 : Method := { name := "<init>", desc := "()V", sig := { parameters := [], returnType := none }, accessFlags := 2, code := none }
def k14c1 : Code := { maxStack := 3, maxLocals := 4, code := jdk_48_method_27_code, exceptionTable := #[], attributes := #[] }
def k14m1 : Method := { name := "newLength", desc := "(III)I", sig := { parameters := [.int, .int, .int], returnType := some .int }, accessFlags := 9, code := some k14c1 }
/-- jdk/internal/util/ArraysSupport -/
def k14 : Class := { plain "jdk/internal/util/ArraysSupport" (some 0) with
  accessFlags := 33
  interfaces := #[]
  cf := some (fileOf pool14 21 #[] #[{ accessFlags := 2, nameIndex := 9, descriptorIndex := 19, attributes := #[] }, { accessFlags := 9, nameIndex := 351, descriptorIndex := 352, attributes := #[] }] 33 16 #[] #[{ accessFlags := 24, nameIndex := 28, descriptorIndex := 29, attributes := #[] }, { accessFlags := 26, nameIndex := 38, descriptorIndex := 39, attributes := #[] }, { accessFlags := 25, nameIndex := 121, descriptorIndex := 25, attributes := #[] }, { accessFlags := 25, nameIndex := 131, descriptorIndex := 25, attributes := #[] }, { accessFlags := 25, nameIndex := 137, descriptorIndex := 25, attributes := #[] }, { accessFlags := 25, nameIndex := 143, descriptorIndex := 25, attributes := #[] }, { accessFlags := 25, nameIndex := 53, descriptorIndex := 25, attributes := #[] }, { accessFlags := 25, nameIndex := 24, descriptorIndex := 25, attributes := #[] }, { accessFlags := 25, nameIndex := 162, descriptorIndex := 25, attributes := #[] }, { accessFlags := 25, nameIndex := 187, descriptorIndex := 25, attributes := #[] }, { accessFlags := 26, nameIndex := 48, descriptorIndex := 25, attributes := #[] }, { accessFlags := 25, nameIndex := 277, descriptorIndex := 25, attributes := #[] }, { accessFlags := 25, nameIndex := 280, descriptorIndex := 25, attributes := #[] }, { accessFlags := 25, nameIndex := 282, descriptorIndex := 25, attributes := #[] }, { accessFlags := 25, nameIndex := 284, descriptorIndex := 25, attributes := #[] }, { accessFlags := 25, nameIndex := 286, descriptorIndex := 25, attributes := #[] }, { accessFlags := 25, nameIndex := 288, descriptorIndex := 25, attributes := #[] }, { accessFlags := 25, nameIndex := 290, descriptorIndex := 25, attributes := #[] }, { accessFlags := 25, nameIndex := 292, descriptorIndex := 25, attributes := #[] }, { accessFlags := 26, nameIndex := 108, descriptorIndex := 109, attributes := #[] }, { accessFlags := 25, nameIndex := 294, descriptorIndex := 25, attributes := #[] }])
  fields := #[{ name := "U", type := (.object "jdk/internal/misc/Unsafe"), accessFlags := 24, slot := 0, constantValue := 0 }, { name := "BIG_ENDIAN", type := .boolean, accessFlags := 26, slot := 1, constantValue := 0 }, { name := "LOG2_ARRAY_BOOLEAN_INDEX_SCALE", type := .int, accessFlags := 25, slot := 2, constantValue := 0 }, { name := "LOG2_ARRAY_BYTE_INDEX_SCALE", type := .int, accessFlags := 25, slot := 3, constantValue := 0 }, { name := "LOG2_ARRAY_CHAR_INDEX_SCALE", type := .int, accessFlags := 25, slot := 4, constantValue := 0 }, { name := "LOG2_ARRAY_SHORT_INDEX_SCALE", type := .int, accessFlags := 25, slot := 5, constantValue := 0 }, { name := "LOG2_ARRAY_INT_INDEX_SCALE", type := .int, accessFlags := 25, slot := 6, constantValue := 0 }, { name := "LOG2_ARRAY_LONG_INDEX_SCALE", type := .int, accessFlags := 25, slot := 7, constantValue := 0 }, { name := "LOG2_ARRAY_FLOAT_INDEX_SCALE", type := .int, accessFlags := 25, slot := 8, constantValue := 0 }, { name := "LOG2_ARRAY_DOUBLE_INDEX_SCALE", type := .int, accessFlags := 25, slot := 9, constantValue := 0 }, { name := "LOG2_BYTE_BIT_SIZE", type := .int, accessFlags := 26, slot := 10, constantValue := 0 }, { name := "T_BOOLEAN", type := .int, accessFlags := 25, slot := 11, constantValue := 0 }, { name := "T_CHAR", type := .int, accessFlags := 25, slot := 12, constantValue := 0 }, { name := "T_FLOAT", type := .int, accessFlags := 25, slot := 13, constantValue := 0 }, { name := "T_DOUBLE", type := .int, accessFlags := 25, slot := 14, constantValue := 0 }, { name := "T_BYTE", type := .int, accessFlags := 25, slot := 15, constantValue := 0 }, { name := "T_SHORT", type := .int, accessFlags := 25, slot := 16, constantValue := 0 }, { name := "T_INT", type := .int, accessFlags := 25, slot := 17, constantValue := 0 }, { name := "T_LONG", type := .int, accessFlags := 25, slot := 18, constantValue := 0 }, { name := "JLA", type := (.object "jdk/internal/access/JavaLangAccess"), accessFlags := 26, slot := 19, constantValue := 0 }, { name := "SOFT_MAX_ARRAY_LENGTH", type := .int, accessFlags := 25, slot := 20, constantValue := 0 }]
  methods := #[k14m0, k14m1]
  instanceTypes := #[]
  staticTypes := #[(.object "jdk/internal/misc/Unsafe"), .boolean, .int, .int, .int, .int, .int, .int, .int, .int, .int, .int, .int, .int, .int, .int, .int, .int, .int, (.object "jdk/internal/access/JavaLangAccess"), .int]
  resolved := Array.replicate 378 none
  statics := none }

def pool15 : Array CpInfo := pool [(1, .class_ 2), (0, u "java/lang/Math"), (1, .class_ 6), (1, u "java/lang/Object"), (0, u "<init>"), (0, u "()V"), (89, .class_ 100), (1, u "java/lang/Math$RandomNumberGeneratorHolder"), (71, u "negativeZeroFloatBits"), (0, u "J"), (2, u "negativeZeroDoubleBits"), (21, u "max"), (2, u "min"), (43, u "$assertionsDisabled"), (0, u "Z"), (88, u "(II)I"), (2, u "twoToTheDoubleScaleDown"), (0, u "D"), (4, u "twoToTheDoubleScaleUp"), (9, u "E"), (3, u "PI"), (2, u "TAU"), (2, u "DEGREES_TO_RADIANS"), (0, u "RADIANS_TO_DEGREES")] 94

def k15m0 : Method := { name := "<init>", desc := "()V", sig := { parameters := [], returnType := none }, accessFlags := 2, code := none }
def k15c1 : Code := { maxStack := 2, maxLocals := 2, code := jdk_29_method_65_code, exceptionTable := #[], attributes := #[] }
def k15m1 : Method := { name := "max", desc := "(II)I", sig := { parameters := [.int, .int], returnType := some .int }, accessFlags := 9, code := some k15c1 }
def k15c2 : Code := { maxStack := 2, maxLocals := 2, code := jdk_29_method_69_code, exceptionTable := #[], attributes := #[] }
def k15m2 : Method := { name := "min", desc := "(II)I", sig := { parameters := [.int, .int], returnType := some .int }, accessFlags := 9, code := some k15c2 }
/-- java/lang/Math -/
def k15 : Class := { plain "java/lang/Math" (some 0) with
  accessFlags := 49
  interfaces := #[]
  cf := some (fileOf pool15 1 #[.nestMembers #[98]] #[{ accessFlags := 2, nameIndex := 7, descriptorIndex := 8, attributes := #[] }, { accessFlags := 9, nameIndex := 198, descriptorIndex := 335, attributes := #[] }, { accessFlags := 9, nameIndex := 201, descriptorIndex := 335, attributes := #[] }] 49 4 #[] #[{ accessFlags := 25, nameIndex := 354, descriptorIndex := 339, attributes := #[] }, { accessFlags := 25, nameIndex := 358, descriptorIndex := 339, attributes := #[] }, { accessFlags := 25, nameIndex := 361, descriptorIndex := 339, attributes := #[] }, { accessFlags := 26, nameIndex := 364, descriptorIndex := 339, attributes := #[] }, { accessFlags := 26, nameIndex := 365, descriptorIndex := 339, attributes := #[] }, { accessFlags := 26, nameIndex := 172, descriptorIndex := 173, attributes := #[] }, { accessFlags := 26, nameIndex := 176, descriptorIndex := 173, attributes := #[] }, { accessFlags := 8, nameIndex := 344, descriptorIndex := 339, attributes := #[] }, { accessFlags := 8, nameIndex := 338, descriptorIndex := 339, attributes := #[] }, { accessFlags := 4120, nameIndex := 245, descriptorIndex := 246, attributes := #[] }])
  fields := #[{ name := "E", type := .double, accessFlags := 25, slot := 0, constantValue := 0 }, { name := "PI", type := .double, accessFlags := 25, slot := 1, constantValue := 0 }, { name := "TAU", type := .double, accessFlags := 25, slot := 2, constantValue := 0 }, { name := "DEGREES_TO_RADIANS", type := .double, accessFlags := 26, slot := 3, constantValue := 0 }, { name := "RADIANS_TO_DEGREES", type := .double, accessFlags := 26, slot := 4, constantValue := 0 }, { name := "negativeZeroFloatBits", type := .long, accessFlags := 26, slot := 5, constantValue := 0 }, { name := "negativeZeroDoubleBits", type := .long, accessFlags := 26, slot := 6, constantValue := 0 }, { name := "twoToTheDoubleScaleUp", type := .double, accessFlags := 8, slot := 7, constantValue := 0 }, { name := "twoToTheDoubleScaleDown", type := .double, accessFlags := 8, slot := 8, constantValue := 0 }, { name := "$assertionsDisabled", type := .boolean, accessFlags := 4120, slot := 9, constantValue := 0 }]
  methods := #[k15m0, k15m1, k15m2]
  instanceTypes := #[]
  staticTypes := #[.double, .double, .double, .double, .double, .long, .long, .double, .double, .boolean]
  resolved := Array.replicate 460 none
  statics := none }

def pool16 : Array CpInfo := pool [(2, .class_ 4), (1, u "java/lang/Object"), (0, u "<init>"), (0, u "()V"), (7, .class_ 16), (1, u "java/util/Arrays"), (57, .class_ 76), (1, u "java/util/Arrays$NaturalOrder"), (36, .class_ 115), (1, u "java/util/Arrays$LegacyMergeSort"), (1, u "Z"), (21, u "copyOfRange"), (10, .methodref 151 152), (0, .class_ 153), (0, .nameAndType 154 155), (0, u "java/lang/System"), (0, u "arraycopy"), (0, u "(Ljava/lang/Object;ILjava/lang/Object;II)V"), (146, u "copyOf"), (1, .methodref 305 306), (0, .class_ 307), (0, .nameAndType 308 309), (0, u "java/lang/Math"), (0, u "min"), (0, u "(II)I"), (29, .methodref 14 340), (0, .nameAndType 341 342), (0, u "copyOfRangeByte"), (0, u "([BII)[B"), (0, .methodref 14 344), (0, .nameAndType 345 346), (0, u "checkLength"), (0, u "(II)V"), (28, .class_ 376), (0, u "java/util/Arrays$ArrayList"), (68, u "$assertionsDisabled"), (269, u "MIN_ARRAY_SORT_GRAN"), (0, u "I"), (2, u "INSERTIONSORT_THRESHOLD"), (149, u "([BI)[B"), (105, .class_ 976), (0, u "java/util/Arrays$ArrayItr")] 52

def k16m0 : Method := { name := "<init>", desc := "()V", sig := { parameters := [], returnType := none }, accessFlags := 2, code := none }
def k16c1 : Code := { maxStack := 6, maxLocals := 3, code := jdk_65_method_121_code, exceptionTable := #[], attributes := #[] }
def k16m1 : Method := { name := "copyOf", desc := "([BI)[B", sig := { parameters := [(.array .byte), .int], returnType := some (.array .byte) }, accessFlags := 9, code := some k16c1 }
def k16c2 : Code := { maxStack := 4, maxLocals := 2, code := jdk_65_method_131_code, exceptionTable := #[], attributes := #[] }
def k16m2 : Method := { name := "checkLength", desc := "(II)V", sig := { parameters := [.int, .int], returnType := none }, accessFlags := 10, code := some k16c2 }
def k16c3 : Code := { maxStack := 3, maxLocals := 3, code := jdk_65_method_132_code, exceptionTable := #[], attributes := #[] }
def k16m3 : Method := { name := "copyOfRange", desc := "([BII)[B", sig := { parameters := [(.array .byte), .int, .int], returnType := some (.array .byte) }, accessFlags := 9, code := some k16c3 }
def k16c4 : Code := { maxStack := 6, maxLocals := 5, code := jdk_65_method_133_code, exceptionTable := #[], attributes := #[] }
def k16m4 : Method := { name := "copyOfRangeByte", desc := "([BII)[B", sig := { parameters := [(.array .byte), .int, .int], returnType := some (.array .byte) }, accessFlags := 10, code := some k16c4 }
/-- java/util/Arrays -/
def k16 : Class := { plain "java/util/Arrays" (some 0) with
  accessFlags := 49
  interfaces := #[]
  cf := some (fileOf pool16 14 #[.nestMembers #[975, 375, 113, 74]] #[{ accessFlags := 2, nameIndex := 5, descriptorIndex := 6, attributes := #[] }, { accessFlags := 9, nameIndex := 302, descriptorIndex := 869, attributes := #[] }, { accessFlags := 10, nameIndex := 345, descriptorIndex := 346, attributes := #[] }, { accessFlags := 9, nameIndex := 139, descriptorIndex := 342, attributes := #[] }, { accessFlags := 10, nameIndex := 341, descriptorIndex := 342, attributes := #[] }] 49 2 #[] #[{ accessFlags := 26, nameIndex := 715, descriptorIndex := 716, attributes := #[] }, { accessFlags := 26, nameIndex := 719, descriptorIndex := 716, attributes := #[] }, { accessFlags := 4120, nameIndex := 445, descriptorIndex := 117, attributes := #[] }])
  fields := #[{ name := "MIN_ARRAY_SORT_GRAN", type := .int, accessFlags := 26, slot := 0, constantValue := 0 }, { name := "INSERTIONSORT_THRESHOLD", type := .int, accessFlags := 26, slot := 1, constantValue := 0 }, { name := "$assertionsDisabled", type := .boolean, accessFlags := 4120, slot := 2, constantValue := 0 }]
  methods := #[k16m0, k16m1, k16m2, k16m3, k16m4]
  instanceTypes := #[]
  staticTypes := #[.int, .int, .boolean]
  resolved := Array.replicate 1029 none
  statics := none }

def pool17 : Array CpInfo := pool [(2, .class_ 4), (1, u "java/lang/Object"), (0, u "<init>"), (0, u "()V"), (1, .class_ 10), (1, u "java/lang/System"), (0, u "allowSecurityManager"), (0, u "I"), (16, u "cons"), (0, u "Ljava/io/Console;"), (77, .class_ 110), (1, u "java/lang/System$CallersHolder"), (43, u "initialErrStream"), (0, u "Ljava/io/PrintStream;"), (19, u "security"), (0, u "Ljava/lang/SecurityManager;"), (31, .class_ 209), (0, u "java/lang/System$1"), (7, u "props"), (0, u "Ljava/util/Properties;"), (2, u "lineSeparator"), (0, u "Ljava/lang/String;"), (96, .class_ 321), (1, u "java/lang/System$LoggerFinder"), (5, .class_ 328), (0, u "java/lang/System$Logger"), (67, u "err"), (2, u "out"), (91, u "notSupportedJnuEncoding"), (15, u "in"), (17, u "initialIn"), (0, u "Ljava/io/InputStream;"), (35, u "bootLayer"), (0, u "Ljava/lang/ModuleLayer;"), (99, .class_ 664), (0, u "java/lang/System$2"), (9, u "NEVER"), (2, u "MAYBE"), (49, u "arraycopy"), (0, u "(Ljava/lang/Object;ILjava/lang/Object;II)V"), (72, .class_ 802), (0, u "java/lang/System$Logger$Level")] 31

def k17m0 : Method := { name := "<init>", desc := "()V", sig := { parameters := [], returnType := none }, accessFlags := 2, code := none }
def k17m1 : Method := { name := "arraycopy", desc := "(Ljava/lang/Object;ILjava/lang/Object;II)V", sig := { parameters := [(.object "java/lang/Object"), .int, (.object "java/lang/Object"), .int, .int], returnType := none }, accessFlags := 265, code := none }
/-- java/lang/System -/
def k17 : Class := { plain "java/lang/System" (some 0) with
  accessFlags := 49
  interfaces := #[]
  cf := some (fileOf pool17 8 #[.nestMembers #[319, 327, 801, 108, 663, 208]] #[{ accessFlags := 2, nameIndex := 5, descriptorIndex := 6, attributes := #[] }, { accessFlags := 265, nameIndex := 727, descriptorIndex := 728, attributes := #[] }] 49 2 #[] #[{ accessFlags := 25, nameIndex := 507, descriptorIndex := 526, attributes := #[] }, { accessFlags := 25, nameIndex := 399, descriptorIndex := 155, attributes := #[] }, { accessFlags := 25, nameIndex := 396, descriptorIndex := 155, attributes := #[] }, { accessFlags := 10, nameIndex := 525, descriptorIndex := 526, attributes := #[] }, { accessFlags := 26, nameIndex := 674, descriptorIndex := 12, attributes := #[] }, { accessFlags := 26, nameIndex := 677, descriptorIndex := 12, attributes := #[] }, { accessFlags := 10, nameIndex := 11, descriptorIndex := 12, attributes := #[] }, { accessFlags := 74, nameIndex := 175, descriptorIndex := 176, attributes := #[] }, { accessFlags := 10, nameIndex := 491, descriptorIndex := 222, attributes := #[] }, { accessFlags := 74, nameIndex := 29, descriptorIndex := 30, attributes := #[] }, { accessFlags := 74, nameIndex := 154, descriptorIndex := 155, attributes := #[] }, { accessFlags := 10, nameIndex := 217, descriptorIndex := 218, attributes := #[] }, { accessFlags := 10, nameIndex := 221, descriptorIndex := 222, attributes := #[] }, { accessFlags := 8, nameIndex := 562, descriptorIndex := 563, attributes := #[] }])
  fields := #[{ name := "in", type := (.object "java/io/InputStream"), accessFlags := 25, slot := 0, constantValue := 0 }, { name := "out", type := (.object "java/io/PrintStream"), accessFlags := 25, slot := 1, constantValue := 0 }, { name := "err", type := (.object "java/io/PrintStream"), accessFlags := 25, slot := 2, constantValue := 0 }, { name := "initialIn", type := (.object "java/io/InputStream"), accessFlags := 10, slot := 3, constantValue := 0 }, { name := "NEVER", type := .int, accessFlags := 26, slot := 4, constantValue := 0 }, { name := "MAYBE", type := .int, accessFlags := 26, slot := 5, constantValue := 0 }, { name := "allowSecurityManager", type := .int, accessFlags := 10, slot := 6, constantValue := 0 }, { name := "security", type := (.object "java/lang/SecurityManager"), accessFlags := 74, slot := 7, constantValue := 0 }, { name := "notSupportedJnuEncoding", type := (.object "java/lang/String"), accessFlags := 10, slot := 8, constantValue := 0 }, { name := "cons", type := (.object "java/io/Console"), accessFlags := 74, slot := 9, constantValue := 0 }, { name := "initialErrStream", type := (.object "java/io/PrintStream"), accessFlags := 74, slot := 10, constantValue := 0 }, { name := "props", type := (.object "java/util/Properties"), accessFlags := 10, slot := 11, constantValue := 0 }, { name := "lineSeparator", type := (.object "java/lang/String"), accessFlags := 10, slot := 12, constantValue := 0 }, { name := "bootLayer", type := (.object "java/lang/ModuleLayer"), accessFlags := 8, slot := 13, constantValue := 0 }]
  methods := #[k17m0, k17m1]
  instanceTypes := #[]
  staticTypes := #[(.object "java/io/InputStream"), (.object "java/io/PrintStream"), (.object "java/io/PrintStream"), (.object "java/io/InputStream"), .int, .int, .int, (.object "java/lang/SecurityManager"), (.object "java/lang/String"), (.object "java/io/Console"), (.object "java/io/PrintStream"), (.object "java/util/Properties"), (.object "java/lang/String"), (.object "java/lang/ModuleLayer")]
  resolved := Array.replicate 834 none
  statics := none }

def pool18 : Array CpInfo := pool [(1, .class_ 2), (0, u "java/lang/String"), (1, .class_ 6), (1, u "java/lang/Object"), (0, u "<init>"), (0, u "()V"), (0, .methodref 1 10), (0, .nameAndType 11 12), (0, u "checkIndex"), (0, u "(II)V"), (1, .class_ 16), (1, u "java/lang/StringLatin1"), (36, u "([BI)C"), (36, u "canEncode"), (14, u "(C)Z"), (15, u "$assertionsDisabled"), (0, u "Z"), (98, .class_ 223), (1, u "java/lang/StringLatin1$LinesSpliterator"), (28, u "charAt"), (127, u "toBytes"), (1, u "(C)[B"), (7, .class_ 391), (0, u "java/lang/StringLatin1$CharsSpliterator")] 3

def k18m0 : Method := { name := "<init>", desc := "()V", sig := { parameters := [], returnType := none }, accessFlags := 0, code := none }
def k18c1 : Code := { maxStack := 2, maxLocals := 2, code := jdk_43_method_2_code, exceptionTable := #[], attributes := #[] }
def k18m1 : Method := { name := "charAt", desc := "([BI)C", sig := { parameters := [(.array .byte), .int], returnType := some .char }, accessFlags := 9, code := some k18c1 }
def k18c2 : Code := { maxStack := 2, maxLocals := 1, code := jdk_43_method_3_code, exceptionTable := #[], attributes := #[] }
def k18m2 : Method := { name := "canEncode", desc := "(C)Z", sig := { parameters := [.char], returnType := some .boolean }, accessFlags := 9, code := some k18c2 }
def k18c3 : Code := { maxStack := 4, maxLocals := 1, code := jdk_43_method_46_code, exceptionTable := #[], attributes := #[] }
def k18m3 : Method := { name := "toBytes", desc := "(C)[B", sig := { parameters := [.char], returnType := some (.array .byte) }, accessFlags := 9, code := some k18c3 }
/-- java/lang/StringLatin1 -/
def k18 : Class := { plain "java/lang/StringLatin1" (some 0) with
  accessFlags := 48
  interfaces := #[]
  cf := some (fileOf pool18 14 #[.nestMembers #[390, 221]] #[{ accessFlags := 0, nameIndex := 7, descriptorIndex := 8, attributes := #[] }, { accessFlags := 9, nameIndex := 252, descriptorIndex := 53, attributes := #[] }, { accessFlags := 9, nameIndex := 90, descriptorIndex := 105, attributes := #[] }, { accessFlags := 9, nameIndex := 380, descriptorIndex := 382, attributes := #[] }] 48 4 #[] #[{ accessFlags := 4120, nameIndex := 121, descriptorIndex := 122, attributes := #[] }])
  fields := #[{ name := "$assertionsDisabled", type := .boolean, accessFlags := 4120, slot := 0, constantValue := 0 }]
  methods := #[k18m0, k18m1, k18m2, k18m3]
  instanceTypes := #[]
  staticTypes := #[.boolean]
  resolved := Array.replicate 395 none
  statics := none }

def pool19 : Array CpInfo := pool [(2, .class_ 4), (1, u "java/lang/Object"), (0, u "<init>"), (0, u "()V"), (17, .class_ 26), (1, u "jdk/internal/util/Preconditions"), (6, u "checkIndex"), (21, .class_ 56), (0, u "jdk/internal/util/Preconditions$4"), (57, .class_ 115), (0, u "jdk/internal/util/Preconditions$1"), (7, u "SIOOBE_FORMATTER"), (0, u "Ljava/util/function/BiFunction;"), (0, .class_ 126), (0, u "jdk/internal/util/Preconditions$2"), (3, u "AIOOBE_FORMATTER"), (0, .class_ 132), (0, u "jdk/internal/util/Preconditions$3"), (3, u "IOOBE_FORMATTER"), (41, u "(IILjava/util/function/BiFunction;)I")] 15

def k19m0 : Method := { name := "<init>", desc := "()V", sig := { parameters := [], returnType := none }, accessFlags := 1, code := none }
def k19c1 : Code := { maxStack := 3, maxLocals := 3, code := jdk_41_method_11_code, exceptionTable := #[], attributes := #[] }
def k19m1 : Method := { name := "checkIndex", desc := "(IILjava/util/function/BiFunction;)I", sig := { parameters := [.int, .int, (.object "java/util/function/BiFunction")], returnType := some .int }, accessFlags := 9, code := some k19c1 }
/-- jdk/internal/util/Preconditions -/
def k19 : Class := { plain "jdk/internal/util/Preconditions" (some 0) with
  accessFlags := 33
  interfaces := #[]
  cf := some (fileOf pool19 24 #[.nestMembers #[55, 131, 125, 114]] #[{ accessFlags := 1, nameIndex := 5, descriptorIndex := 6, attributes := #[] }, { accessFlags := 9, nameIndex := 33, descriptorIndex := 178, attributes := #[] }] 33 2 #[] #[{ accessFlags := 25, nameIndex := 123, descriptorIndex := 124, attributes := #[] }, { accessFlags := 25, nameIndex := 130, descriptorIndex := 124, attributes := #[] }, { accessFlags := 25, nameIndex := 136, descriptorIndex := 124, attributes := #[] }])
  fields := #[{ name := "SIOOBE_FORMATTER", type := (.object "java/util/function/BiFunction"), accessFlags := 25, slot := 0, constantValue := 0 }, { name := "AIOOBE_FORMATTER", type := (.object "java/util/function/BiFunction"), accessFlags := 25, slot := 1, constantValue := 0 }, { name := "IOOBE_FORMATTER", type := (.object "java/util/function/BiFunction"), accessFlags := 25, slot := 2, constantValue := 0 }]
  methods := #[k19m0, k19m1]
  instanceTypes := #[]
  staticTypes := #[(.object "java/util/function/BiFunction"), (.object "java/util/function/BiFunction"), (.object "java/util/function/BiFunction")]
  resolved := Array.replicate 194 none
  statics := some 2 }

def pool20 : Array CpInfo := pool [(6, .class_ 8), (1, u "java/lang/Object"), (0, u "<init>"), (0, u "()V"), (1, .class_ 14), (1, u "java/lang/StringUTF16"), (31, u "$assertionsDisabled"), (0, u "Z"), (13, u "HI_BYTE_SHIFT"), (0, u "I"), (2, u "LO_BYTE_SHIFT"), (49, .methodref 12 116), (0, .nameAndType 117 118), (0, u "compress"), (0, u "([CI[BII)I"), (3, u "([CII)[B"), (138, u "coderFromArrayLen"), (0, u "([BI)B"), (106, .class_ 371), (1, u "java/lang/StringUTF16$LinesSpliterator"), (58, u "MAX_LENGTH"), (196, .class_ 628), (0, u "java/lang/StringUTF16$CodePointsSpliterator"), (0, .class_ 630), (0, u "java/lang/StringUTF16$CharsSpliterator")] 4

def k20m0 : Method := { name := "<init>", desc := "()V", sig := { parameters := [], returnType := none }, accessFlags := 0, code := none }
def k20c1 : Code := { maxStack := 2, maxLocals := 2, code := jdk_52_method_15_code, exceptionTable := #[], attributes := #[] }
def k20m1 : Method := { name := "coderFromArrayLen", desc := "([BI)B", sig := { parameters := [(.array .byte), .int], returnType := some .byte }, accessFlags := 8, code := some k20c1 }
def k20c2 : Code := { maxStack := 5, maxLocals := 6, code := jdk_52_method_16_code, exceptionTable := #[], attributes := #[] }
def k20m2 : Method := { name := "compress", desc := "([CII)[B", sig := { parameters := [(.array .char), .int, .int], returnType := some (.array .byte) }, accessFlags := 9, code := some k20c2 }
def k20c3 : Code := { maxStack := 3, maxLocals := 7, code := jdk_52_method_21_code, exceptionTable := #[], attributes := #[] }
def k20m3 : Method := { name := "compress", desc := "([CI[BII)I", sig := { parameters := [(.array .char), .int, (.array .byte), .int, .int], returnType := some .int }, accessFlags := 9, code := some k20c3 }
/-- java/lang/StringUTF16 -/
def k20 : Class := { plain "java/lang/StringUTF16" (some 0) with
  accessFlags := 48
  interfaces := #[]
  cf := some (fileOf pool20 12 #[.nestMembers #[627, 629, 369]] #[{ accessFlags := 0, nameIndex := 9, descriptorIndex := 10, attributes := #[] }, { accessFlags := 8, nameIndex := 261, descriptorIndex := 262, attributes := #[] }, { accessFlags := 9, nameIndex := 117, descriptorIndex := 122, attributes := #[] }, { accessFlags := 9, nameIndex := 117, descriptorIndex := 118, attributes := #[] }] 48 6 #[] #[{ accessFlags := 26, nameIndex := 61, descriptorIndex := 62, attributes := #[] }, { accessFlags := 26, nameIndex := 65, descriptorIndex := 62, attributes := #[] }, { accessFlags := 24, nameIndex := 430, descriptorIndex := 62, attributes := #[] }, { accessFlags := 4120, nameIndex := 46, descriptorIndex := 47, attributes := #[] }])
  fields := #[{ name := "HI_BYTE_SHIFT", type := .int, accessFlags := 26, slot := 0, constantValue := 0 }, { name := "LO_BYTE_SHIFT", type := .int, accessFlags := 26, slot := 1, constantValue := 0 }, { name := "MAX_LENGTH", type := .int, accessFlags := 24, slot := 2, constantValue := 0 }, { name := "$assertionsDisabled", type := .boolean, accessFlags := 4120, slot := 3, constantValue := 0 }]
  methods := #[k20m0, k20m1, k20m2, k20m3]
  instanceTypes := #[]
  staticTypes := #[.int, .int, .int, .boolean]
  resolved := Array.replicate 635 none
  statics := none }

def pool21 : Array CpInfo := pool [(2, .class_ 4), (1, u "java/lang/Object"), (0, u "<init>"), (0, u "()V"), (12, .class_ 20), (0, u "java/util/Collections"), (63, u "r"), (0, u "Ljava/util/Random;"), (80, .class_ 167), (0, u "java/util/Collections$UnmodifiableCollection"), (6, .class_ 175), (0, u "java/util/Collections$UnmodifiableSequencedCollection"), (6, .class_ 183), (0, u "java/util/Collections$UnmodifiableSet"), (6, .class_ 191), (0, u "java/util/Collections$UnmodifiableSequencedSet"), (6, .class_ 199), (0, u "java/util/Collections$UnmodifiableSortedSet"), (6, .class_ 207), (0, u "java/util/Collections$UnmodifiableNavigableSet"), (4, .class_ 213), (0, u "java/util/Collections$UnmodifiableList"), (1, .class_ 216), (0, u "java/util/Collections$UnmodifiableRandomAccessList"), (6, .class_ 224), (0, u "java/util/Collections$UnmodifiableMap"), (6, .class_ 232), (0, u "java/util/Collections$UnmodifiableSequencedMap"), (4, .class_ 238), (0, u "java/util/Collections$UnmodifiableSortedMap"), (6, .class_ 246), (0, u "java/util/Collections$UnmodifiableNavigableMap"), (3, .class_ 251), (0, u "java/util/Collections$SynchronizedCollection"), (4, .class_ 257), (0, u "java/util/Collections$SynchronizedSet"), (4, .class_ 263), (0, u "java/util/Collections$SynchronizedSortedSet"), (1, .class_ 266), (0, u "java/util/Collections$SynchronizedNavigableSet"), (1, .class_ 269), (0, u "java/util/Collections$SynchronizedRandomAccessList"), (1, .class_ 272), (0, u "java/util/Collections$SynchronizedList"), (5, .class_ 279), (0, u "java/util/Collections$SynchronizedMap"), (1, .class_ 282), (0, u "java/util/Collections$SynchronizedSortedMap"), (1, .class_ 285), (0, u "java/util/Collections$SynchronizedNavigableMap"), (1, .class_ 288), (0, u "java/util/Collections$CheckedCollection"), (11, .class_ 301), (0, u "java/util/Collections$CheckedQueue"), (3, .class_ 306), (0, u "java/util/Collections$CheckedSet"), (3, .class_ 311), (0, u "java/util/Collections$CheckedSortedSet"), (3, .class_ 316), (0, u "java/util/Collections$CheckedNavigableSet"), (3, .class_ 321), (0, u "java/util/Collections$CheckedRandomAccessList"), (3, .class_ 326), (0, u "java/util/Collections$CheckedList"), (1, .class_ 329), (0, u "java/util/Collections$CheckedMap"), (3, .class_ 334), (0, u "java/util/Collections$CheckedSortedMap"), (3, .class_ 339), (0, u "java/util/Collections$CheckedNavigableMap"), (4, .class_ 346), (1, u "java/util/Collections$EmptyIterator"), (3, .class_ 352), (1, u "java/util/Collections$EmptyListIterator"), (2, .class_ 357), (1, u "java/util/Collections$EmptyEnumeration"), (4, u "EMPTY_SET"), (0, u "Ljava/util/Set;"), (6, u "EMPTY_LIST"), (0, u "Ljava/util/List;"), (2, u "EMPTY_MAP"), (0, u "Ljava/util/Map;"), (4, .class_ 381), (0, u "java/util/Collections$SingletonSet"), (2, .class_ 385), (0, u "java/util/Collections$1"), (1, .class_ 388), (0, u "java/util/Collections$2"), (1, .class_ 391), (0, u "java/util/Collections$SingletonList"), (1, .class_ 394), (0, u "java/util/Collections$SingletonMap"), (22, .class_ 418), (0, u "java/util/Collections$CopiesList"), (4, .class_ 425), (1, u "java/util/Collections$ReverseComparator"), (8, .class_ 435), (0, u "java/util/Collections$ReverseComparator2"), (6, .class_ 443), (0, u "java/util/Collections$3"), (25, .class_ 470), (0, u "java/util/Collections$SetFromMap"), (2, .class_ 474), (0, u "java/util/Collections$SequencedSetFromMap"), (3, .class_ 479), (0, u "java/util/Collections$AsLIFOQueue"), (11, .class_ 492), (0, u "java/util/Collections$EmptySet"), (1, .class_ 495), (0, u "java/util/Collections$EmptyList"), (1, .class_ 498), (0, u "java/util/Collections$EmptyMap"), (1, u "BINARYSEARCH_THRESHOLD"), (0, u "I"), (2, u "REVERSE_THRESHOLD"), (1, u "SHUFFLE_THRESHOLD"), (1, u "FILL_THRESHOLD"), (1, u "ROTATE_THRESHOLD"), (1, u "COPY_THRESHOLD"), (1, u "REPLACEALL_THRESHOLD"), (1, u "INDEXOFSUBLIST_THRESHOLD"), (333, .class_ 851), (0, u "java/util/Collections$CheckedMap$CheckedEntrySet"), (0, .class_ 853), (0, u "java/util/Collections$CheckedMap$CheckedEntrySet$CheckedEntry"), (0, .class_ 855), (0, u "java/util/Collections$CheckedMap$CheckedEntrySet$1"), (0, .class_ 857), (0, u "java/util/Collections$CheckedList$1"), (0, .class_ 859), (0, u "java/util/Collections$CheckedCollection$1"), (0, .class_ 861), (0, u "java/util/Collections$UnmodifiableNavigableMap$EmptyNavigableMap"), (0, .class_ 863), (0, u "java/util/Collections$UnmodifiableMap$UnmodifiableEntrySet"), (0, .class_ 865), (0, u "java/util/Collections$UnmodifiableMap$UnmodifiableEntrySet$UnmodifiableEntry"), (0, .class_ 867), (0, u "java/util/Collections$UnmodifiableMap$UnmodifiableEntrySet$UnmodifiableEntrySetSpliterator"), (0, .class_ 869), (0, u "java/util/Collections$UnmodifiableMap$UnmodifiableEntrySet$1"), (0, .class_ 871), (0, u "java/util/Collections$UnmodifiableList$1"), (0, .class_ 873), (0, u "java/util/Collections$UnmodifiableNavigableSet$EmptyNavigableSet"), (0, .class_ 875), (0, u "java/util/Collections$UnmodifiableCollection$1")] 57

def k21m0 : Method := { name := "<init>", desc := "()V", sig := { parameters := [], returnType := none }, accessFlags := 2, code := none }
/-- java/util/Collections -/
def k21 : Class := { plain "java/util/Collections" (some 0) with
  accessFlags := 33
  interfaces := #[]
  cf := some (fileOf pool21 19 #[.nestMembers #[478, 473, 469, 434, 423, 417, 393, 390, 380, 497, 494, 491, 355, 350, 344, 338, 333, 328, 850, 852, 854, 320, 325, 856, 315, 310, 305, 300, 287, 858, 284, 281, 278, 268, 271, 265, 262, 256, 250, 245, 860, 237, 231, 223, 862, 864, 866, 868, 215, 212, 870, 206, 872, 198, 190, 182, 174, 166, 874, 442, 387, 384]] #[{ accessFlags := 2, nameIndex := 5, descriptorIndex := 6, attributes := #[] }] 33 2 #[] #[{ accessFlags := 26, nameIndex := 500, descriptorIndex := 501, attributes := #[] }, { accessFlags := 26, nameIndex := 504, descriptorIndex := 501, attributes := #[] }, { accessFlags := 26, nameIndex := 506, descriptorIndex := 501, attributes := #[] }, { accessFlags := 26, nameIndex := 508, descriptorIndex := 501, attributes := #[] }, { accessFlags := 26, nameIndex := 510, descriptorIndex := 501, attributes := #[] }, { accessFlags := 26, nameIndex := 512, descriptorIndex := 501, attributes := #[] }, { accessFlags := 26, nameIndex := 514, descriptorIndex := 501, attributes := #[] }, { accessFlags := 26, nameIndex := 516, descriptorIndex := 501, attributes := #[] }, { accessFlags := 10, nameIndex := 84, descriptorIndex := 85, attributes := #[] }, { accessFlags := 25, nameIndex := 362, descriptorIndex := 363, attributes := #[] }, { accessFlags := 25, nameIndex := 370, descriptorIndex := 371, attributes := #[] }, { accessFlags := 25, nameIndex := 374, descriptorIndex := 375, attributes := #[] }])
  fields := #[{ name := "BINARYSEARCH_THRESHOLD", type := .int, accessFlags := 26, slot := 0, constantValue := 0 }, { name := "REVERSE_THRESHOLD", type := .int, accessFlags := 26, slot := 1, constantValue := 0 }, { name := "SHUFFLE_THRESHOLD", type := .int, accessFlags := 26, slot := 2, constantValue := 0 }, { name := "FILL_THRESHOLD", type := .int, accessFlags := 26, slot := 3, constantValue := 0 }, { name := "ROTATE_THRESHOLD", type := .int, accessFlags := 26, slot := 4, constantValue := 0 }, { name := "COPY_THRESHOLD", type := .int, accessFlags := 26, slot := 5, constantValue := 0 }, { name := "REPLACEALL_THRESHOLD", type := .int, accessFlags := 26, slot := 6, constantValue := 0 }, { name := "INDEXOFSUBLIST_THRESHOLD", type := .int, accessFlags := 26, slot := 7, constantValue := 0 }, { name := "r", type := (.object "java/util/Random"), accessFlags := 10, slot := 8, constantValue := 0 }, { name := "EMPTY_SET", type := (.object "java/util/Set"), accessFlags := 25, slot := 9, constantValue := 0 }, { name := "EMPTY_LIST", type := (.object "java/util/List"), accessFlags := 25, slot := 10, constantValue := 0 }, { name := "EMPTY_MAP", type := (.object "java/util/Map"), accessFlags := 25, slot := 11, constantValue := 0 }]
  methods := #[k21m0]
  instanceTypes := #[]
  staticTypes := #[.int, .int, .int, .int, .int, .int, .int, .int, (.object "java/util/Random"), (.object "java/util/Set"), (.object "java/util/List"), (.object "java/util/Map")]
  resolved := Array.replicate 933 none
  statics := some 3 }

def pool22 : Array CpInfo := pool [(8, .class_ 10), (1, u "java/lang/Iterable"), (24, .class_ 36), (0, u "java/lang/Object")] 25

/-- java/lang/Iterable -/
def k22 : Class := { plain "java/lang/Iterable" (some 0) with
  accessFlags := 1537
  interfaces := #[]
  cf := some (fileOf pool22 8 #[] #[] 1537 35 #[] #[])
  fields := #[]
  methods := #[]
  instanceTypes := #[]
  staticTypes := #[]
  resolved := Array.replicate 62 none
  statics := none }

def pool23 : Array CpInfo := pool [(10, .class_ 12), (1, u "java/util/Collection"), (47, .class_ 61), (0, u "java/lang/Object"), (0, .class_ 63), (0, u "java/lang/Iterable")] 51

/-- java/util/Collection -/
def k23 : Class := { plain "java/util/Collection" (some 0) with
  accessFlags := 1537
  interfaces := #[22]
  cf := some (fileOf pool23 10 #[] #[] 1537 60 #[62] #[])
  fields := #[]
  methods := #[]
  instanceTypes := #[]
  staticTypes := #[]
  resolved := Array.replicate 115 none
  statics := none }

def pool24 : Array CpInfo := pool [(2, .class_ 4), (1, u "java/lang/Object"), (0, u "<init>"), (0, u "()V"), (1, .class_ 10), (1, u "java/util/AbstractCollection"), (66, .class_ 78), (0, u "java/util/Collection")] 81

def k24m0 : Method := { name := "<init>", desc := "()V", sig := { parameters := [], returnType := none }, accessFlags := 4, code := none }
/-- java/util/AbstractCollection -/
def k24 : Class := { plain "java/util/AbstractCollection" (some 0) with
  accessFlags := 1057
  interfaces := #[23]
  cf := some (fileOf pool24 8 #[] #[{ accessFlags := 4, nameIndex := 5, descriptorIndex := 6, attributes := #[] }] 1057 2 #[77] #[])
  fields := #[]
  methods := #[k24m0]
  instanceTypes := #[]
  staticTypes := #[]
  resolved := Array.replicate 160 none
  statics := none }

def pool25 : Array CpInfo := pool [(8, .class_ 10), (1, u "java/util/SequencedCollection"), (15, .class_ 27), (0, u "java/lang/Object"), (0, .class_ 29), (0, u "java/util/Collection")] 27

/-- java/util/SequencedCollection -/
def k25 : Class := { plain "java/util/SequencedCollection" (some 0) with
  accessFlags := 1537
  interfaces := #[23]
  cf := some (fileOf pool25 8 #[] #[] 1537 26 #[28] #[])
  fields := #[]
  methods := #[]
  instanceTypes := #[]
  staticTypes := #[]
  resolved := Array.replicate 57 none
  statics := none }

def pool26 : Array CpInfo := pool [(8, .class_ 10), (1, u "java/util/List"), (92, .class_ 104), (0, u "java/lang/Object"), (15, .class_ 121), (0, u "java/util/SequencedCollection")] 129

/-- java/util/List -/
def k26 : Class := { plain "java/util/List" (some 0) with
  accessFlags := 1537
  interfaces := #[25]
  cf := some (fileOf pool26 8 #[] #[] 1537 103 #[120] #[])
  fields := #[]
  methods := #[]
  instanceTypes := #[]
  staticTypes := #[]
  resolved := Array.replicate 251 none
  statics := none }

def pool27 : Array CpInfo := pool [(2, .class_ 4), (1, u "java/util/AbstractCollection"), (0, u "<init>"), (0, u "()V"), (1, .class_ 10), (1, u "java/util/AbstractList"), (0, u "modCount"), (0, u "I"), (64, .class_ 78), (0, u "java/util/AbstractList$Itr"), (3, .class_ 83), (0, u "java/util/AbstractList$ListItr"), (9, .class_ 94), (0, u "java/util/AbstractList$RandomAccessSubList"), (3, .class_ 99), (0, u "java/util/AbstractList$SubList"), (33, .class_ 134), (0, u "java/util/List"), (73, .class_ 209), (0, u "java/util/AbstractList$SubList$1"), (0, .class_ 211), (0, u "java/util/AbstractList$RandomAccessSpliterator")] 6

def k27m0 : Method := { name := "<init>", desc := "()V", sig := { parameters := [], returnType := none }, accessFlags := 4, code := none }
/-- java/util/AbstractList -/
def k27 : Class := { plain "java/util/AbstractList" (some 24) with
  accessFlags := 1057
  interfaces := #[26]
  cf := some (fileOf pool27 8 #[.nestMembers #[93, 98, 208, 210, 82, 77]] #[{ accessFlags := 4, nameIndex := 5, descriptorIndex := 6, attributes := #[] }] 1057 2 #[133] #[{ accessFlags := 132, nameIndex := 11, descriptorIndex := 12, attributes := #[] }])
  fields := #[{ name := "modCount", type := .int, accessFlags := 132, slot := 0, constantValue := 0 }]
  methods := #[k27m0]
  instanceTypes := #[.int]
  staticTypes := #[]
  resolved := Array.replicate 218 none
  statics := none }

def pool28 : Array CpInfo := pool [(1, .class_ 2), (0, u "java/util/RandomAccess"), (0, .class_ 4), (0, u "java/lang/Object")] 2

/-- java/util/RandomAccess -/
def k28 : Class := { plain "java/util/RandomAccess" (some 0) with
  accessFlags := 1537
  interfaces := #[]
  cf := some (fileOf pool28 1 #[] #[] 1537 3 #[] #[])
  fields := #[]
  methods := #[]
  instanceTypes := #[]
  staticTypes := #[]
  resolved := Array.replicate 7 none
  statics := none }

def pool29 : Array CpInfo := pool [(2, .class_ 4), (1, u "java/util/AbstractList"), (0, u "<init>"), (0, u "()V"), (1, .class_ 10), (1, u "java/util/Collections"), (54, .class_ 66), (0, u "java/util/Collections$EmptyList"), (0, .class_ 68), (0, u "java/util/RandomAccess"), (0, .class_ 70), (0, u "java/io/Serializable"), (0, u "serialVersionUID"), (0, u "J")] 77

def k29m0 : Method := { name := "<init>", desc := "()V", sig := { parameters := [], returnType := none }, accessFlags := 2, code := none }
/-- java/util/Collections$EmptyList -/
def k29 : Class := { plain "java/util/Collections$EmptyList" (some 27) with
  accessFlags := 32
  interfaces := #[28, 2]
  cf := some (fileOf pool29 65 #[.nestHost 8] #[{ accessFlags := 2, nameIndex := 5, descriptorIndex := 6, attributes := #[] }] 32 2 #[67, 69] #[{ accessFlags := 26, nameIndex := 71, descriptorIndex := 72, attributes := #[] }])
  fields := #[{ name := "serialVersionUID", type := .long, accessFlags := 26, slot := 0, constantValue := 0 }]
  methods := #[k29m0]
  instanceTypes := #[.int]
  staticTypes := #[.long]
  resolved := Array.replicate 150 none
  statics := none }

def pool30 : Array CpInfo := pool [(2, .class_ 4), (1, u "java/lang/StackTraceElement"), (0, u "<init>"), (2, .class_ 10), (1, u "java/lang/Object"), (0, u "()V"), (2, u "format"), (0, u "B"), (2, u "classLoaderName"), (0, u "Ljava/lang/String;"), (2, u "moduleName"), (2, u "moduleVersion"), (12, u "declaringClass"), (4, u "methodName"), (2, u "fileName"), (2, u "lineNumber"), (0, u "I"), (65, u "declaringClassObject"), (0, u "Ljava/lang/Class;"), (33, .class_ 153), (1, u "java/lang/StackTraceElement$HashedModules"), (17, .class_ 172), (0, u "java/io/Serializable"), (0, u "NATIVE_METHOD"), (1, u "UNKNOWN_SOURCE"), (2, u "BUILTIN_CLASS_LOADER"), (1, u "JDK_NON_UPGRADEABLE_MODULE"), (1, u "serialVersionUID"), (0, u "J")] 51

def k30m0 : Method := { name := "<init>", desc := "()V", sig := { parameters := [], returnType := none }, accessFlags := 2, code := none }
/-- java/lang/StackTraceElement -/
def k30 : Class := { plain "java/lang/StackTraceElement" (some 0) with
  accessFlags := 49
  interfaces := #[2]
  cf := some (fileOf pool30 2 #[.nestMembers #[151]] #[{ accessFlags := 2, nameIndex := 5, descriptorIndex := 11, attributes := #[] }] 49 8 #[171] #[{ accessFlags := 26, nameIndex := 173, descriptorIndex := 19, attributes := #[] }, { accessFlags := 26, nameIndex := 175, descriptorIndex := 19, attributes := #[] }, { accessFlags := 130, nameIndex := 116, descriptorIndex := 117, attributes := #[] }, { accessFlags := 2, nameIndex := 18, descriptorIndex := 19, attributes := #[] }, { accessFlags := 2, nameIndex := 22, descriptorIndex := 19, attributes := #[] }, { accessFlags := 2, nameIndex := 25, descriptorIndex := 19, attributes := #[] }, { accessFlags := 2, nameIndex := 38, descriptorIndex := 19, attributes := #[] }, { accessFlags := 2, nameIndex := 43, descriptorIndex := 19, attributes := #[] }, { accessFlags := 2, nameIndex := 46, descriptorIndex := 19, attributes := #[] }, { accessFlags := 2, nameIndex := 49, descriptorIndex := 50, attributes := #[] }, { accessFlags := 2, nameIndex := 14, descriptorIndex := 15, attributes := #[] }, { accessFlags := 26, nameIndex := 178, descriptorIndex := 15, attributes := #[] }, { accessFlags := 26, nameIndex := 180, descriptorIndex := 15, attributes := #[] }, { accessFlags := 26, nameIndex := 182, descriptorIndex := 183, attributes := #[] }])
  fields := #[{ name := "NATIVE_METHOD", type := (.object "java/lang/String"), accessFlags := 26, slot := 0, constantValue := 0 }, { name := "UNKNOWN_SOURCE", type := (.object "java/lang/String"), accessFlags := 26, slot := 1, constantValue := 0 }, { name := "declaringClassObject", type := (.object "java/lang/Class"), accessFlags := 130, slot := 0, constantValue := 0 }, { name := "classLoaderName", type := (.object "java/lang/String"), accessFlags := 2, slot := 1, constantValue := 0 }, { name := "moduleName", type := (.object "java/lang/String"), accessFlags := 2, slot := 2, constantValue := 0 }, { name := "moduleVersion", type := (.object "java/lang/String"), accessFlags := 2, slot := 3, constantValue := 0 }, { name := "declaringClass", type := (.object "java/lang/String"), accessFlags := 2, slot := 4, constantValue := 0 }, { name := "methodName", type := (.object "java/lang/String"), accessFlags := 2, slot := 5, constantValue := 0 }, { name := "fileName", type := (.object "java/lang/String"), accessFlags := 2, slot := 6, constantValue := 0 }, { name := "lineNumber", type := .int, accessFlags := 2, slot := 7, constantValue := 0 }, { name := "format", type := .byte, accessFlags := 2, slot := 8, constantValue := 0 }, { name := "BUILTIN_CLASS_LOADER", type := .byte, accessFlags := 26, slot := 2, constantValue := 0 }, { name := "JDK_NON_UPGRADEABLE_MODULE", type := .byte, accessFlags := 26, slot := 3, constantValue := 0 }, { name := "serialVersionUID", type := .long, accessFlags := 26, slot := 4, constantValue := 0 }]
  methods := #[k30m0]
  instanceTypes := #[(.object "java/lang/Class"), (.object "java/lang/String"), (.object "java/lang/String"), (.object "java/lang/String"), (.object "java/lang/String"), (.object "java/lang/String"), (.object "java/lang/String"), .int, .byte]
  staticTypes := #[(.object "java/lang/String"), (.object "java/lang/String"), .byte, .byte, .long]
  resolved := Array.replicate 235 none
  statics := none }

def pool31 : Array CpInfo := pool [(1, u "java/lang/Cloneable"), (0, .class_ 1), (0, u "java/lang/Object"), (0, .class_ 3)] 3

/-- java/lang/Cloneable -/
def k31 : Class := { plain "java/lang/Cloneable" (some 0) with
  accessFlags := 1537
  interfaces := #[]
  cf := some (fileOf pool31 2 #[] #[] 1537 4 #[] #[])
  fields := #[]
  methods := #[]
  instanceTypes := #[]
  staticTypes := #[]
  resolved := Array.replicate 8 none
  statics := none }

/-- the primitive byte -/
def k32 : Class := { plain "byte" none with kind := .primitive 'B', accessFlags := 0x411 }
/-- [B -/
def k33 : Class := { plain "[B" (some 0) with kind := .array 32 .byte, interfaces := #[31, 2], accessFlags := 1041 }

/-- the primitive char -/
def k34 : Class := { plain "char" none with kind := .primitive 'C', accessFlags := 0x411 }
/-- [C -/
def k35 : Class := { plain "[C" (some 0) with kind := .array 34 .char, interfaces := #[31, 2], accessFlags := 1041 }

/-- the primitive int -/
def k36 : Class := { plain "int" none with kind := .primitive 'I', accessFlags := 0x411 }
/-- [I -/
def k37 : Class := { plain "[I" (some 0) with kind := .array 36 .int, interfaces := #[31, 2], accessFlags := 1041 }

/-- [Ljava/lang/Object; -/
def k38 : Class := { plain "[Ljava/lang/Object;" (some 0) with kind := .array 0 (.object "java/lang/Object"), interfaces := #[31, 2], accessFlags := 1041 }

/-- [Ljava/lang/StackTraceElement; -/
def k39 : Class := { plain "[Ljava/lang/StackTraceElement;" (some 0) with kind := .array 30 (.object "java/lang/StackTraceElement"), interfaces := #[31, 2], accessFlags := 1041 }

/-- [Ljava/lang/Throwable; -/
def k40 : Class := { plain "[Ljava/lang/Throwable;" (some 0) with kind := .array 8 (.object "java/lang/Throwable"), interfaces := #[31, 2], accessFlags := 1041 }

def heap : Heap := #[{ cls := 7, slots := #[.long 0, .int 1, .null, .int 0, .null, .int 0, .int 0], vm := .statics 7 },
  { cls := 8, slots := #[.long 0, .ref 4, .ref 5, .null, .null, .null, .null, .ref 6, .int 1], vm := .statics 8 },
  { cls := 19, slots := #[.null, .null, .null], vm := .statics 19 },
  { cls := 21, slots := #[.int 0, .int 0, .int 0, .int 0, .int 0, .int 0, .int 0, .int 0, .null, .null, .ref 5, .null], vm := .statics 21 },
  { cls := 39, slots := #[], vm := .none },
  { cls := 29, slots := #[.int 0], vm := .none },
  { cls := 40, slots := #[], vm := .none }]
def classes : Array Class := #[k0, k1, k2, k3, k4, k5, k6, k7, k8, k9, k10, k11, k12, k13, k14, k15, k16, k17, k18, k19, k20, k21, k22, k23, k24, k25, k26, k27, k28, k29, k30, k31, k32, k33, k34, k35, k36, k37, k38, k39, k40]
def interned : List (Array UInt16 × Addr) := []
def slotsUsed : Nat := 32
def theMethod : MethodId := ⟨1, 1⟩
def args0 : Array Value := #[.int 65, .int 66, .int 67, .int 2, .int 3]
def aboutOver (below : List Frame) : State where
  vm := { classes := classes, interned := interned.toArray }
  heap := heap
  slotsUsed := slotsUsed
  threads := #[{ frames := .invoking theMethod args0 :: below }]
def below0 : List Frame := [.native { method := ⟨0, 0⟩, args := #[] }]
def about1 : State := aboutOver below0
def p0 : Program := .bare "" "" ""
def e0 : Env := launch0.env 0 0 0
theorem w_frames : about1.frames = Frame.invoking theMethod args0 :: below0 := rfl
set_option maxRecDepth 65536 in
theorem w_args : argsFit about1.vm theMethod args0 = true := by decide +kernel
set_option maxRecDepth 65536 in
theorem w_heap : heapFits about1 = true := by decide +kernel
set_option maxRecDepth 65536 in
theorem w_runnable : about1.curStatus? = some .runnable := by decide +kernel
set_option maxRecDepth 65536 in
theorem w_alone : about1.alone = true := by decide +kernel
set_option maxRecDepth 65536 in
theorem w_named : about1.methodNamed? x = some theMethod := by decide +kernel
set_option maxRecDepth 65536 in
theorem w_hears : about1.hears theMethod below0 = true := by decide +kernel
set_option maxRecDepth 65536 in
theorem w_ripe : about1.ripe theMethod args0 below0 = true := by decide +kernel
theorem w_running : about1.status = .running := rfl
set_option maxRecDepth 65536 in
theorem w_room : about1.hasRoom e0.platform room_1 = true :=
  launch0.hasRoom_least _ room_1 (by decide +kernel) (by decide +kernel) (by decide +kernel) (by decide +kernel) (by decide +kernel) (by decide +kernel)
theorem allAtoms_all (ts : List Jvm.Cond) (a : Array Jvm.Value) (st : Jvm.State) : (allAtoms ts).before a st = ts.all (fun c => c.before a st) := by
  induction ts with
  | nil => rfl
  | cons c t ih =>
    show (Jvm.Cond.and c (allAtoms t)).before a st = _
    rw [Jvm.Cond.before_and, ih, List.all_cons]
def words1 : List Jvm.Cond := Jvm.Cond.code x code maxLocals ret :: tables_1
/-- a 'code' word, met by the world's own term for the bytes: nothing is compared byte by byte -/
theorem code_word {y : MethodName} {bytes : ByteArray} {mx : Nat} {rt : Option FieldType} {a : Array Value} {s : State} {m : MethodId} {meth : Method} {c : Code} (h1 : s.methodNamed? y = some m) (h2 : s.vm.method? m = some meth) (h3 : meth.code = some c) (h4 : c.code = bytes)
    (h5 : (c.maxLocals == mx && c.exceptionTable.isEmpty && decide (c.maxStack ≤ mostOperands) && decide (meth.sig.returnType = rt) && !meth.locks && decide (parseMethodDescriptor y.desc = some meth.sig)) = true) : (Jvm.Cond.code y bytes mx rt).before a s = true := by
  simp only [Bool.and_eq_true, beq_iff_eq, Bool.not_eq_true', decide_eq_true_eq] at h5
  obtain ⟨⟨⟨⟨⟨g1, g2⟩, g3⟩, g4⟩, g5⟩, g6⟩ := h5
  simp [Cond.before, Cond.holds, Cond.value, h1, h2, h3, h4, g1, g2, g3, g4, g5, g6]
def isCode : Jvm.Cond → Bool
  | .code _ _ _ _ => true
  | _ => false
theorem all_split {L : List Jvm.Cond} {P : Jvm.Cond → Bool} (h1 : L.all (fun c => isCode c || P c) = true) (h2 : ∀ c ∈ L.filter isCode, P c = true) : L.all P = true := by
  refine List.all_eq_true.mpr fun c hc => ?_
  have h := List.all_eq_true.mp h1 c hc
  rcases Bool.eq_false_or_eq_true (isCode c) with hi | hi
  · exact h2 c (List.mem_filter.mpr ⟨hc, hi⟩)
  · simpa [hi] using h
set_option maxRecDepth 65536 in
theorem w_c0 : (Jvm.Cond.code x code maxLocals ret).before args0 about1 = true := code_word (m := ⟨1, 1⟩) (meth := k1m1) (c := k1c1) (by decide +kernel) rfl rfl rfl (by decide +kernel)
set_option maxRecDepth 65536 in
theorem w_c1 : (Jvm.Cond.code ({ cls := "com/example/slackline/slackline/TooLargeExceptionForMethodPinLaw", name := "mk", desc := "(ICC)Ljava/lang/String;" } : Jvm.MethodName) method_3_code (3 : Nat) (Option.some (Jvm.ClassFile.FieldType.object "java/lang/String"))).before args0 about1 = true := code_word (m := ⟨1, 2⟩) (meth := k1m2) (c := k1c2) (by decide +kernel) rfl rfl rfl (by decide +kernel)
set_option maxRecDepth 65536 in
theorem w_c2 : (Jvm.Cond.code ({ cls := "java/lang/String", name := "<init>", desc := "([C)V" } : Jvm.MethodName) jdk_42_method_3_code (2 : Nat) (Option.none : Option Jvm.ClassFile.FieldType)).before args0 about1 = true := code_word (m := ⟨7, 1⟩) (meth := k7m1) (c := k7c1) (by decide +kernel) rfl rfl rfl (by decide +kernel)
set_option maxRecDepth 65536 in
theorem w_c3 : (Jvm.Cond.code ({ cls := "java/lang/String", name := "<init>", desc := "([CIILjava/lang/Void;)V" } : Jvm.MethodName) jdk_42_method_149_code (6 : Nat) (Option.none : Option Jvm.ClassFile.FieldType)).before args0 about1 = true := code_word (m := ⟨7, 7⟩) (meth := k7m7) (c := k7c7) (by decide +kernel) rfl rfl rfl (by decide +kernel)
set_option maxRecDepth 65536 in
theorem w_c4 : (Jvm.Cond.code ({ cls := "java/lang/Object", name := "<init>", desc := "()V" } : Jvm.MethodName) object_method_1_code (1 : Nat) (Option.none : Option Jvm.ClassFile.FieldType)).before args0 about1 = true := code_word (m := ⟨0, 0⟩) (meth := k0m0) (c := k0c0) (by decide +kernel) rfl rfl rfl (by decide +kernel)
set_option maxRecDepth 65536 in
theorem w_c5 : (Jvm.Cond.code ({ cls := "com/example/slackline/slackline/TooLargeException", name := "forMethod", desc := "(Ljava/lang/String;Ljava/lang/String;)Lcom/example/slackline/slackline/TooLargeException;" } : Jvm.MethodName) prog_52_method_2_code (2 : Nat) (Option.some (Jvm.ClassFile.FieldType.object "com/example/slackline/slackline/TooLargeException"))).before args0 about1 = true := code_word (m := ⟨10, 1⟩) (meth := k10m1) (c := k10c1) (by decide +kernel) rfl rfl rfl (by decide +kernel)
set_option maxRecDepth 65536 in
theorem w_c6 : (Jvm.Cond.code ({ cls := "java/lang/StringBuilder", name := "<init>", desc := "()V" } : Jvm.MethodName) jdk_67_method_1_code (1 : Nat) (Option.none : Option Jvm.ClassFile.FieldType)).before args0 about1 = true := code_word (m := ⟨13, 0⟩) (meth := k13m0) (c := k13c0) (by decide +kernel) rfl rfl rfl (by decide +kernel)
set_option maxRecDepth 65536 in
theorem w_c7 : (Jvm.Cond.code ({ cls := "java/lang/AbstractStringBuilder", name := "<init>", desc := "(I)V" } : Jvm.MethodName) jdk_68_method_2_code (2 : Nat) (Option.none : Option Jvm.ClassFile.FieldType)).before args0 about1 = true := code_word (m := ⟨12, 1⟩) (meth := k12m1) (c := k12c1) (by decide +kernel) rfl rfl rfl (by decide +kernel)
set_option maxRecDepth 65536 in
theorem w_c8 : (Jvm.Cond.code ({ cls := "java/lang/StringBuilder", name := "append", desc := "(Ljava/lang/String;)Ljava/lang/StringBuilder;" } : Jvm.MethodName) jdk_67_method_7_code (2 : Nat) (Option.some (Jvm.ClassFile.FieldType.object "java/lang/StringBuilder"))).before args0 about1 = true := code_word (m := ⟨13, 1⟩) (meth := k13m1) (c := k13c1) (by decide +kernel) rfl rfl rfl (by decide +kernel)
set_option maxRecDepth 65536 in
theorem w_c9 : (Jvm.Cond.code ({ cls := "java/lang/AbstractStringBuilder", name := "append", desc := "(Ljava/lang/String;)Ljava/lang/AbstractStringBuilder;" } : Jvm.MethodName) jdk_68_method_22_code (3 : Nat) (Option.some (Jvm.ClassFile.FieldType.object "java/lang/AbstractStringBuilder"))).before args0 about1 = true := code_word (m := ⟨12, 5⟩) (meth := k12m5) (c := k12c5) (by decide +kernel) rfl rfl rfl (by decide +kernel)
set_option maxRecDepth 65536 in
theorem w_c10 : (Jvm.Cond.code ({ cls := "java/lang/String", name := "length", desc := "()I" } : Jvm.MethodName) jdk_42_method_54_code (1 : Nat) (Option.some Jvm.ClassFile.FieldType.int)).before args0 about1 = true := code_word (m := ⟨7, 3⟩) (meth := k7m3) (c := k7c3) (by decide +kernel) rfl rfl rfl (by decide +kernel)
set_option maxRecDepth 65536 in
theorem w_c11 : (Jvm.Cond.code ({ cls := "java/lang/String", name := "coder", desc := "()B" } : Jvm.MethodName) jdk_42_method_152_code (1 : Nat) (Option.some Jvm.ClassFile.FieldType.byte)).before args0 about1 = true := code_word (m := ⟨7, 10⟩) (meth := k7m10) (c := k7c10) (by decide +kernel) rfl rfl rfl (by decide +kernel)
set_option maxRecDepth 65536 in
theorem w_c12 : (Jvm.Cond.code ({ cls := "java/lang/AbstractStringBuilder", name := "ensureCapacityInternal", desc := "(I)V" } : Jvm.MethodName) jdk_68_method_9_code (3 : Nat) (Option.none : Option Jvm.ClassFile.FieldType)).before args0 about1 = true := code_word (m := ⟨12, 3⟩) (meth := k12m3) (c := k12c3) (by decide +kernel) rfl rfl rfl (by decide +kernel)
set_option maxRecDepth 65536 in
theorem w_c13 : (Jvm.Cond.code ({ cls := "java/lang/AbstractStringBuilder", name := "newCapacity", desc := "(I)I" } : Jvm.MethodName) jdk_68_method_10_code (6 : Nat) (Option.some Jvm.ClassFile.FieldType.int)).before args0 about1 = true := code_word (m := ⟨12, 4⟩) (meth := k12m4) (c := k12c4) (by decide +kernel) rfl rfl rfl (by decide +kernel)
set_option maxRecDepth 65536 in
theorem w_c14 : (Jvm.Cond.code ({ cls := "jdk/internal/util/ArraysSupport", name := "newLength", desc := "(III)I" } : Jvm.MethodName) jdk_48_method_27_code (4 : Nat) (Option.some Jvm.ClassFile.FieldType.int)).before args0 about1 = true := code_word (m := ⟨14, 1⟩) (meth := k14m1) (c := k14c1) (by decide +kernel) rfl rfl rfl (by decide +kernel)
set_option maxRecDepth 65536 in
theorem w_c15 : (Jvm.Cond.code ({ cls := "java/lang/Math", name := "max", desc := "(II)I" } : Jvm.MethodName) jdk_29_method_65_code (2 : Nat) (Option.some Jvm.ClassFile.FieldType.int)).before args0 about1 = true := code_word (m := ⟨15, 1⟩) (meth := k15m1) (c := k15c1) (by decide +kernel) rfl rfl rfl (by decide +kernel)
set_option maxRecDepth 65536 in
theorem w_c16 : (Jvm.Cond.code ({ cls := "java/util/Arrays", name := "copyOf", desc := "([BI)[B" } : Jvm.MethodName) jdk_65_method_121_code (3 : Nat) (Option.some (Jvm.ClassFile.FieldType.array Jvm.ClassFile.FieldType.byte))).before args0 about1 = true := code_word (m := ⟨16, 1⟩) (meth := k16m1) (c := k16c1) (by decide +kernel) rfl rfl rfl (by decide +kernel)
set_option maxRecDepth 65536 in
theorem w_c17 : (Jvm.Cond.code ({ cls := "java/lang/Math", name := "min", desc := "(II)I" } : Jvm.MethodName) jdk_29_method_69_code (2 : Nat) (Option.some Jvm.ClassFile.FieldType.int)).before args0 about1 = true := code_word (m := ⟨15, 2⟩) (meth := k15m2) (c := k15c2) (by decide +kernel) rfl rfl rfl (by decide +kernel)
set_option maxRecDepth 65536 in
theorem w_c18 : (Jvm.Cond.code ({ cls := "java/lang/AbstractStringBuilder", name := "putStringAt", desc := "(ILjava/lang/String;)V" } : Jvm.MethodName) jdk_68_method_73_code (3 : Nat) (Option.none : Option Jvm.ClassFile.FieldType)).before args0 about1 = true := code_word (m := ⟨12, 9⟩) (meth := k12m9) (c := k12c9) (by decide +kernel) rfl rfl rfl (by decide +kernel)
set_option maxRecDepth 65536 in
theorem w_c19 : (Jvm.Cond.code ({ cls := "java/lang/AbstractStringBuilder", name := "inflateIfNeededFor", desc := "(Ljava/lang/String;)V" } : Jvm.MethodName) jdk_68_method_71_code (2 : Nat) (Option.none : Option Jvm.ClassFile.FieldType)).before args0 about1 = true := code_word (m := ⟨12, 8⟩) (meth := k12m8) (c := k12c8) (by decide +kernel) rfl rfl rfl (by decide +kernel)
set_option maxRecDepth 65536 in
theorem w_c20 : (Jvm.Cond.code ({ cls := "java/lang/String", name := "getBytes", desc := "([BIB)V" } : Jvm.MethodName) jdk_42_method_147_code (4 : Nat) (Option.none : Option Jvm.ClassFile.FieldType)).before args0 about1 = true := code_word (m := ⟨7, 6⟩) (meth := k7m6) (c := k7c6) (by decide +kernel) rfl rfl rfl (by decide +kernel)
set_option maxRecDepth 65536 in
theorem w_c21 : (Jvm.Cond.code ({ cls := "java/lang/StringBuilder", name := "toString", desc := "()Ljava/lang/String;" } : Jvm.MethodName) jdk_67_method_42_code (1 : Nat) (Option.some (Jvm.ClassFile.FieldType.object "java/lang/String"))).before args0 about1 = true := code_word (m := ⟨13, 2⟩) (meth := k13m2) (c := k13c2) (by decide +kernel) rfl rfl rfl (by decide +kernel)
set_option maxRecDepth 65536 in
theorem w_c22 : (Jvm.Cond.code ({ cls := "java/lang/String", name := "<init>", desc := "(Ljava/lang/StringBuilder;)V" } : Jvm.MethodName) jdk_42_method_53_code (2 : Nat) (Option.none : Option Jvm.ClassFile.FieldType)).before args0 about1 = true := code_word (m := ⟨7, 2⟩) (meth := k7m2) (c := k7c2) (by decide +kernel) rfl rfl rfl (by decide +kernel)
set_option maxRecDepth 65536 in
theorem w_c23 : (Jvm.Cond.code ({ cls := "java/lang/String", name := "<init>", desc := "(Ljava/lang/AbstractStringBuilder;Ljava/lang/Void;)V" } : Jvm.MethodName) jdk_42_method_150_code (5 : Nat) (Option.none : Option Jvm.ClassFile.FieldType)).before args0 about1 = true := code_word (m := ⟨7, 8⟩) (meth := k7m8) (c := k7c8) (by decide +kernel) rfl rfl rfl (by decide +kernel)
set_option maxRecDepth 65536 in
theorem w_c24 : (Jvm.Cond.code ({ cls := "java/lang/AbstractStringBuilder", name := "getValue", desc := "()[B" } : Jvm.MethodName) jdk_68_method_64_code (1 : Nat) (Option.some (Jvm.ClassFile.FieldType.array Jvm.ClassFile.FieldType.byte))).before args0 about1 = true := code_word (m := ⟨12, 6⟩) (meth := k12m6) (c := k12c6) (by decide +kernel) rfl rfl rfl (by decide +kernel)
set_option maxRecDepth 65536 in
theorem w_c25 : (Jvm.Cond.code ({ cls := "java/lang/StringBuilder", name := "length", desc := "()I" } : Jvm.MethodName) jdk_67_method_93_code (1 : Nat) (Option.some Jvm.ClassFile.FieldType.int)).before args0 about1 = true := code_word (m := ⟨13, 3⟩) (meth := k13m3) (c := k13c3) (by decide +kernel) rfl rfl rfl (by decide +kernel)
set_option maxRecDepth 65536 in
theorem w_c26 : (Jvm.Cond.code ({ cls := "java/lang/AbstractStringBuilder", name := "length", desc := "()I" } : Jvm.MethodName) jdk_68_method_6_code (1 : Nat) (Option.some Jvm.ClassFile.FieldType.int)).before args0 about1 = true := code_word (m := ⟨12, 2⟩) (meth := k12m2) (c := k12c2) (by decide +kernel) rfl rfl rfl (by decide +kernel)
set_option maxRecDepth 65536 in
theorem w_c27 : (Jvm.Cond.code ({ cls := "java/lang/AbstractStringBuilder", name := "isLatin1", desc := "()Z" } : Jvm.MethodName) jdk_68_method_68_code (1 : Nat) (Option.some Jvm.ClassFile.FieldType.boolean)).before args0 about1 = true := code_word (m := ⟨12, 7⟩) (meth := k12m7) (c := k12c7) (by decide +kernel) rfl rfl rfl (by decide +kernel)
set_option maxRecDepth 65536 in
theorem w_c28 : (Jvm.Cond.code ({ cls := "java/util/Arrays", name := "copyOfRange", desc := "([BII)[B" } : Jvm.MethodName) jdk_65_method_132_code (3 : Nat) (Option.some (Jvm.ClassFile.FieldType.array Jvm.ClassFile.FieldType.byte))).before args0 about1 = true := code_word (m := ⟨16, 3⟩) (meth := k16m3) (c := k16c3) (by decide +kernel) rfl rfl rfl (by decide +kernel)
set_option maxRecDepth 65536 in
theorem w_c29 : (Jvm.Cond.code ({ cls := "java/util/Arrays", name := "copyOfRangeByte", desc := "([BII)[B" } : Jvm.MethodName) jdk_65_method_133_code (5 : Nat) (Option.some (Jvm.ClassFile.FieldType.array Jvm.ClassFile.FieldType.byte))).before args0 about1 = true := code_word (m := ⟨16, 4⟩) (meth := k16m4) (c := k16c4) (by decide +kernel) rfl rfl rfl (by decide +kernel)
set_option maxRecDepth 65536 in
theorem w_c30 : (Jvm.Cond.code ({ cls := "java/util/Arrays", name := "checkLength", desc := "(II)V" } : Jvm.MethodName) jdk_65_method_131_code (2 : Nat) (Option.none : Option Jvm.ClassFile.FieldType)).before args0 about1 = true := code_word (m := ⟨16, 2⟩) (meth := k16m2) (c := k16c2) (by decide +kernel) rfl rfl rfl (by decide +kernel)
set_option maxRecDepth 65536 in
theorem w_c31 : (Jvm.Cond.code ({ cls := "com/example/slackline/slackline/TooLargeException", name := "<init>", desc := "(Ljava/lang/String;)V" } : Jvm.MethodName) prog_52_method_1_code (2 : Nat) (Option.none : Option Jvm.ClassFile.FieldType)).before args0 about1 = true := code_word (m := ⟨10, 0⟩) (meth := k10m0) (c := k10c0) (by decide +kernel) rfl rfl rfl (by decide +kernel)
set_option maxRecDepth 65536 in
theorem w_c32 : (Jvm.Cond.code ({ cls := "java/lang/Exception", name := "<init>", desc := "(Ljava/lang/String;)V" } : Jvm.MethodName) jdk_59_method_2_code (2 : Nat) (Option.none : Option Jvm.ClassFile.FieldType)).before args0 about1 = true := code_word (m := ⟨9, 1⟩) (meth := k9m1) (c := k9c1) (by decide +kernel) rfl rfl rfl (by decide +kernel)
set_option maxRecDepth 65536 in
theorem w_c33 : (Jvm.Cond.code ({ cls := "java/lang/Throwable", name := "<init>", desc := "(Ljava/lang/String;)V" } : Jvm.MethodName) jdk_78_method_2_code (2 : Nat) (Option.none : Option Jvm.ClassFile.FieldType)).before args0 about1 = true := code_word (m := ⟨8, 1⟩) (meth := k8m1) (c := k8c1) (by decide +kernel) rfl rfl rfl (by decide +kernel)
set_option maxRecDepth 65536 in
theorem w_c34 : (Jvm.Cond.code ({ cls := "java/lang/Throwable", name := "<init>", desc := "()V" } : Jvm.MethodName) jdk_78_method_1_code (1 : Nat) (Option.none : Option Jvm.ClassFile.FieldType)).before args0 about1 = true := code_word (m := ⟨8, 0⟩) (meth := k8m0) (c := k8c0) (by decide +kernel) rfl rfl rfl (by decide +kernel)
set_option maxRecDepth 65536 in
theorem w_c35 : (Jvm.Cond.code ({ cls := "java/lang/Throwable", name := "getMessage", desc := "()Ljava/lang/String;" } : Jvm.MethodName) jdk_78_method_6_code (1 : Nat) (Option.some (Jvm.ClassFile.FieldType.object "java/lang/String"))).before args0 about1 = true := code_word (m := ⟨8, 2⟩) (meth := k8m2) (c := k8c2) (by decide +kernel) rfl rfl rfl (by decide +kernel)
set_option maxRecDepth 65536 in
theorem w_c36 : (Jvm.Cond.code ({ cls := "com/example/slackline/slackline/TooLargeExceptionForMethodPinLaw", name := "prefixOk", desc := "(Ljava/lang/String;)Z" } : Jvm.MethodName) method_4_code (1 : Nat) (Option.some Jvm.ClassFile.FieldType.boolean)).before args0 about1 = true := code_word (m := ⟨1, 3⟩) (meth := k1m3) (c := k1c3) (by decide +kernel) rfl rfl rfl (by decide +kernel)
set_option maxRecDepth 65536 in
theorem w_c37 : (Jvm.Cond.code ({ cls := "java/lang/String", name := "charAt", desc := "(I)C" } : Jvm.MethodName) jdk_42_method_56_code (2 : Nat) (Option.some Jvm.ClassFile.FieldType.char)).before args0 about1 = true := code_word (m := ⟨7, 4⟩) (meth := k7m4) (c := k7c4) (by decide +kernel) rfl rfl rfl (by decide +kernel)
set_option maxRecDepth 65536 in
theorem w_c38 : (Jvm.Cond.code ({ cls := "java/lang/String", name := "isLatin1", desc := "()Z" } : Jvm.MethodName) jdk_42_method_154_code (1 : Nat) (Option.some Jvm.ClassFile.FieldType.boolean)).before args0 about1 = true := code_word (m := ⟨7, 11⟩) (meth := k7m11) (c := k7c11) (by decide +kernel) rfl rfl rfl (by decide +kernel)
set_option maxRecDepth 65536 in
theorem w_c39 : (Jvm.Cond.code ({ cls := "java/lang/StringLatin1", name := "charAt", desc := "([BI)C" } : Jvm.MethodName) jdk_43_method_2_code (2 : Nat) (Option.some Jvm.ClassFile.FieldType.char)).before args0 about1 = true := code_word (m := ⟨18, 1⟩) (meth := k18m1) (c := k18c1) (by decide +kernel) rfl rfl rfl (by decide +kernel)
set_option maxRecDepth 65536 in
theorem w_c40 : (Jvm.Cond.code ({ cls := "java/lang/String", name := "checkIndex", desc := "(II)V" } : Jvm.MethodName) jdk_42_method_155_code (2 : Nat) (Option.none : Option Jvm.ClassFile.FieldType)).before args0 about1 = true := code_word (m := ⟨7, 12⟩) (meth := k7m12) (c := k7c12) (by decide +kernel) rfl rfl rfl (by decide +kernel)
set_option maxRecDepth 65536 in
theorem w_c41 : (Jvm.Cond.code ({ cls := "jdk/internal/util/Preconditions", name := "checkIndex", desc := "(IILjava/util/function/BiFunction;)I" } : Jvm.MethodName) jdk_41_method_11_code (3 : Nat) (Option.some Jvm.ClassFile.FieldType.int)).before args0 about1 = true := code_word (m := ⟨19, 1⟩) (meth := k19m1) (c := k19c1) (by decide +kernel) rfl rfl rfl (by decide +kernel)
set_option maxRecDepth 65536 in
theorem w_c42 : (Jvm.Cond.code ({ cls := "java/lang/StringUTF16", name := "compress", desc := "([CII)[B" } : Jvm.MethodName) jdk_52_method_16_code (6 : Nat) (Option.some (Jvm.ClassFile.FieldType.array Jvm.ClassFile.FieldType.byte))).before args0 about1 = true := code_word (m := ⟨20, 2⟩) (meth := k20m2) (c := k20c2) (by decide +kernel) rfl rfl rfl (by decide +kernel)
set_option maxRecDepth 65536 in
theorem w_c43 : (Jvm.Cond.code ({ cls := "java/lang/StringUTF16", name := "compress", desc := "([CI[BII)I" } : Jvm.MethodName) jdk_52_method_21_code (7 : Nat) (Option.some Jvm.ClassFile.FieldType.int)).before args0 about1 = true := code_word (m := ⟨20, 3⟩) (meth := k20m3) (c := k20c3) (by decide +kernel) rfl rfl rfl (by decide +kernel)
set_option maxRecDepth 65536 in
theorem w_c44 : (Jvm.Cond.code ({ cls := "java/lang/StringUTF16", name := "coderFromArrayLen", desc := "([BI)B" } : Jvm.MethodName) jdk_52_method_15_code (2 : Nat) (Option.some Jvm.ClassFile.FieldType.byte)).before args0 about1 = true := code_word (m := ⟨20, 1⟩) (meth := k20m1) (c := k20c1) (by decide +kernel) rfl rfl rfl (by decide +kernel)
set_option maxRecDepth 65536 in
theorem w_c45 : (Jvm.Cond.code ({ cls := "java/lang/String", name := "valueOf", desc := "(C)Ljava/lang/String;" } : Jvm.MethodName) jdk_42_method_139_code (1 : Nat) (Option.some (Jvm.ClassFile.FieldType.object "java/lang/String"))).before args0 about1 = true := code_word (m := ⟨7, 5⟩) (meth := k7m5) (c := k7c5) (by decide +kernel) rfl rfl rfl (by decide +kernel)
set_option maxRecDepth 65536 in
theorem w_c46 : (Jvm.Cond.code ({ cls := "java/lang/StringLatin1", name := "canEncode", desc := "(C)Z" } : Jvm.MethodName) jdk_43_method_3_code (1 : Nat) (Option.some Jvm.ClassFile.FieldType.boolean)).before args0 about1 = true := code_word (m := ⟨18, 2⟩) (meth := k18m2) (c := k18c2) (by decide +kernel) rfl rfl rfl (by decide +kernel)
set_option maxRecDepth 65536 in
theorem w_c47 : (Jvm.Cond.code ({ cls := "java/lang/StringLatin1", name := "toBytes", desc := "(C)[B" } : Jvm.MethodName) jdk_43_method_46_code (1 : Nat) (Option.some (Jvm.ClassFile.FieldType.array Jvm.ClassFile.FieldType.byte))).before args0 about1 = true := code_word (m := ⟨18, 3⟩) (meth := k18m3) (c := k18c3) (by decide +kernel) rfl rfl rfl (by decide +kernel)
set_option maxRecDepth 65536 in
theorem w_c48 : (Jvm.Cond.code ({ cls := "java/lang/String", name := "<init>", desc := "([BB)V" } : Jvm.MethodName) jdk_42_method_151_code (3 : Nat) (Option.none : Option Jvm.ClassFile.FieldType)).before args0 about1 = true := code_word (m := ⟨7, 9⟩) (meth := k7m9) (c := k7c9) (by decide +kernel) rfl rfl rfl (by decide +kernel)
def codes1 : List Jvm.Cond := [Jvm.Cond.code x code maxLocals ret, Jvm.Cond.code ({ cls := "com/example/slackline/slackline/TooLargeExceptionForMethodPinLaw", name := "mk", desc := "(ICC)Ljava/lang/String;" } : Jvm.MethodName) method_3_code (3 : Nat) (Option.some (Jvm.ClassFile.FieldType.object "java/lang/String")), Jvm.Cond.code ({ cls := "java/lang/String", name := "<init>", desc := "([C)V" } : Jvm.MethodName) jdk_42_method_3_code (2 : Nat) (Option.none : Option Jvm.ClassFile.FieldType), Jvm.Cond.code ({ cls := "java/lang/String", name := "<init>", desc := "([CIILjava/lang/Void;)V" } : Jvm.MethodName) jdk_42_method_149_code (6 : Nat) (Option.none : Option Jvm.ClassFile.FieldType), Jvm.Cond.code ({ cls := "java/lang/Object", name := "<init>", desc := "()V" } : Jvm.MethodName) object_method_1_code (1 : Nat) (Option.none : Option Jvm.ClassFile.FieldType), Jvm.Cond.code ({ cls := "com/example/slackline/slackline/TooLargeException", name := "forMethod", desc := "(Ljava/lang/String;Ljava/lang/String;)Lcom/example/slackline/slackline/TooLargeException;" } : Jvm.MethodName) prog_52_method_2_code (2 : Nat) (Option.some (Jvm.ClassFile.FieldType.object "com/example/slackline/slackline/TooLargeException")), Jvm.Cond.code ({ cls := "java/lang/StringBuilder", name := "<init>", desc := "()V" } : Jvm.MethodName) jdk_67_method_1_code (1 : Nat) (Option.none : Option Jvm.ClassFile.FieldType), Jvm.Cond.code ({ cls := "java/lang/AbstractStringBuilder", name := "<init>", desc := "(I)V" } : Jvm.MethodName) jdk_68_method_2_code (2 : Nat) (Option.none : Option Jvm.ClassFile.FieldType), Jvm.Cond.code ({ cls := "java/lang/StringBuilder", name := "append", desc := "(Ljava/lang/String;)Ljava/lang/StringBuilder;" } : Jvm.MethodName) jdk_67_method_7_code (2 : Nat) (Option.some (Jvm.ClassFile.FieldType.object "java/lang/StringBuilder")), Jvm.Cond.code ({ cls := "java/lang/AbstractStringBuilder", name := "append", desc := "(Ljava/lang/String;)Ljava/lang/AbstractStringBuilder;" } : Jvm.MethodName) jdk_68_method_22_code (3 : Nat) (Option.some (Jvm.ClassFile.FieldType.object "java/lang/AbstractStringBuilder")), Jvm.Cond.code ({ cls := "java/lang/String", name := "length", desc := "()I" } : Jvm.MethodName) jdk_42_method_54_code (1 : Nat) (Option.some Jvm.ClassFile.FieldType.int), Jvm.Cond.code ({ cls := "java/lang/String", name := "coder", desc := "()B" } : Jvm.MethodName) jdk_42_method_152_code (1 : Nat) (Option.some Jvm.ClassFile.FieldType.byte), Jvm.Cond.code ({ cls := "java/lang/AbstractStringBuilder", name := "ensureCapacityInternal", desc := "(I)V" } : Jvm.MethodName) jdk_68_method_9_code (3 : Nat) (Option.none : Option Jvm.ClassFile.FieldType), Jvm.Cond.code ({ cls := "java/lang/AbstractStringBuilder", name := "newCapacity", desc := "(I)I" } : Jvm.MethodName) jdk_68_method_10_code (6 : Nat) (Option.some Jvm.ClassFile.FieldType.int), Jvm.Cond.code ({ cls := "jdk/internal/util/ArraysSupport", name := "newLength", desc := "(III)I" } : Jvm.MethodName) jdk_48_method_27_code (4 : Nat) (Option.some Jvm.ClassFile.FieldType.int), Jvm.Cond.code ({ cls := "java/lang/Math", name := "max", desc := "(II)I" } : Jvm.MethodName) jdk_29_method_65_code (2 : Nat) (Option.some Jvm.ClassFile.FieldType.int), Jvm.Cond.code ({ cls := "java/util/Arrays", name := "copyOf", desc := "([BI)[B" } : Jvm.MethodName) jdk_65_method_121_code (3 : Nat) (Option.some (Jvm.ClassFile.FieldType.array Jvm.ClassFile.FieldType.byte)), Jvm.Cond.code ({ cls := "java/lang/Math", name := "min", desc := "(II)I" } : Jvm.MethodName) jdk_29_method_69_code (2 : Nat) (Option.some Jvm.ClassFile.FieldType.int), Jvm.Cond.code ({ cls := "java/lang/AbstractStringBuilder", name := "putStringAt", desc := "(ILjava/lang/String;)V" } : Jvm.MethodName) jdk_68_method_73_code (3 : Nat) (Option.none : Option Jvm.ClassFile.FieldType), Jvm.Cond.code ({ cls := "java/lang/AbstractStringBuilder", name := "inflateIfNeededFor", desc := "(Ljava/lang/String;)V" } : Jvm.MethodName) jdk_68_method_71_code (2 : Nat) (Option.none : Option Jvm.ClassFile.FieldType), Jvm.Cond.code ({ cls := "java/lang/String", name := "getBytes", desc := "([BIB)V" } : Jvm.MethodName) jdk_42_method_147_code (4 : Nat) (Option.none : Option Jvm.ClassFile.FieldType), Jvm.Cond.code ({ cls := "java/lang/StringBuilder", name := "toString", desc := "()Ljava/lang/String;" } : Jvm.MethodName) jdk_67_method_42_code (1 : Nat) (Option.some (Jvm.ClassFile.FieldType.object "java/lang/String")), Jvm.Cond.code ({ cls := "java/lang/String", name := "<init>", desc := "(Ljava/lang/StringBuilder;)V" } : Jvm.MethodName) jdk_42_method_53_code (2 : Nat) (Option.none : Option Jvm.ClassFile.FieldType), Jvm.Cond.code ({ cls := "java/lang/String", name := "<init>", desc := "(Ljava/lang/AbstractStringBuilder;Ljava/lang/Void;)V" } : Jvm.MethodName) jdk_42_method_150_code (5 : Nat) (Option.none : Option Jvm.ClassFile.FieldType), Jvm.Cond.code ({ cls := "java/lang/AbstractStringBuilder", name := "getValue", desc := "()[B" } : Jvm.MethodName) jdk_68_method_64_code (1 : Nat) (Option.some (Jvm.ClassFile.FieldType.array Jvm.ClassFile.FieldType.byte)), Jvm.Cond.code ({ cls := "java/lang/StringBuilder", name := "length", desc := "()I" } : Jvm.MethodName) jdk_67_method_93_code (1 : Nat) (Option.some Jvm.ClassFile.FieldType.int), Jvm.Cond.code ({ cls := "java/lang/AbstractStringBuilder", name := "length", desc := "()I" } : Jvm.MethodName) jdk_68_method_6_code (1 : Nat) (Option.some Jvm.ClassFile.FieldType.int), Jvm.Cond.code ({ cls := "java/lang/AbstractStringBuilder", name := "isLatin1", desc := "()Z" } : Jvm.MethodName) jdk_68_method_68_code (1 : Nat) (Option.some Jvm.ClassFile.FieldType.boolean), Jvm.Cond.code ({ cls := "java/util/Arrays", name := "copyOfRange", desc := "([BII)[B" } : Jvm.MethodName) jdk_65_method_132_code (3 : Nat) (Option.some (Jvm.ClassFile.FieldType.array Jvm.ClassFile.FieldType.byte)), Jvm.Cond.code ({ cls := "java/util/Arrays", name := "copyOfRangeByte", desc := "([BII)[B" } : Jvm.MethodName) jdk_65_method_133_code (5 : Nat) (Option.some (Jvm.ClassFile.FieldType.array Jvm.ClassFile.FieldType.byte)), Jvm.Cond.code ({ cls := "java/util/Arrays", name := "checkLength", desc := "(II)V" } : Jvm.MethodName) jdk_65_method_131_code (2 : Nat) (Option.none : Option Jvm.ClassFile.FieldType), Jvm.Cond.code ({ cls := "com/example/slackline/slackline/TooLargeException", name := "<init>", desc := "(Ljava/lang/String;)V" } : Jvm.MethodName) prog_52_method_1_code (2 : Nat) (Option.none : Option Jvm.ClassFile.FieldType), Jvm.Cond.code ({ cls := "java/lang/Exception", name := "<init>", desc := "(Ljava/lang/String;)V" } : Jvm.MethodName) jdk_59_method_2_code (2 : Nat) (Option.none : Option Jvm.ClassFile.FieldType), Jvm.Cond.code ({ cls := "java/lang/Throwable", name := "<init>", desc := "(Ljava/lang/String;)V" } : Jvm.MethodName) jdk_78_method_2_code (2 : Nat) (Option.none : Option Jvm.ClassFile.FieldType), Jvm.Cond.code ({ cls := "java/lang/Throwable", name := "<init>", desc := "()V" } : Jvm.MethodName) jdk_78_method_1_code (1 : Nat) (Option.none : Option Jvm.ClassFile.FieldType), Jvm.Cond.code ({ cls := "java/lang/Throwable", name := "getMessage", desc := "()Ljava/lang/String;" } : Jvm.MethodName) jdk_78_method_6_code (1 : Nat) (Option.some (Jvm.ClassFile.FieldType.object "java/lang/String")), Jvm.Cond.code ({ cls := "com/example/slackline/slackline/TooLargeExceptionForMethodPinLaw", name := "prefixOk", desc := "(Ljava/lang/String;)Z" } : Jvm.MethodName) method_4_code (1 : Nat) (Option.some Jvm.ClassFile.FieldType.boolean), Jvm.Cond.code ({ cls := "java/lang/String", name := "charAt", desc := "(I)C" } : Jvm.MethodName) jdk_42_method_56_code (2 : Nat) (Option.some Jvm.ClassFile.FieldType.char), Jvm.Cond.code ({ cls := "java/lang/String", name := "isLatin1", desc := "()Z" } : Jvm.MethodName) jdk_42_method_154_code (1 : Nat) (Option.some Jvm.ClassFile.FieldType.boolean), Jvm.Cond.code ({ cls := "java/lang/StringLatin1", name := "charAt", desc := "([BI)C" } : Jvm.MethodName) jdk_43_method_2_code (2 : Nat) (Option.some Jvm.ClassFile.FieldType.char), Jvm.Cond.code ({ cls := "java/lang/String", name := "checkIndex", desc := "(II)V" } : Jvm.MethodName) jdk_42_method_155_code (2 : Nat) (Option.none : Option Jvm.ClassFile.FieldType), Jvm.Cond.code ({ cls := "jdk/internal/util/Preconditions", name := "checkIndex", desc := "(IILjava/util/function/BiFunction;)I" } : Jvm.MethodName) jdk_41_method_11_code (3 : Nat) (Option.some Jvm.ClassFile.FieldType.int), Jvm.Cond.code ({ cls := "java/lang/StringUTF16", name := "compress", desc := "([CII)[B" } : Jvm.MethodName) jdk_52_method_16_code (6 : Nat) (Option.some (Jvm.ClassFile.FieldType.array Jvm.ClassFile.FieldType.byte)), Jvm.Cond.code ({ cls := "java/lang/StringUTF16", name := "compress", desc := "([CI[BII)I" } : Jvm.MethodName) jdk_52_method_21_code (7 : Nat) (Option.some Jvm.ClassFile.FieldType.int), Jvm.Cond.code ({ cls := "java/lang/StringUTF16", name := "coderFromArrayLen", desc := "([BI)B" } : Jvm.MethodName) jdk_52_method_15_code (2 : Nat) (Option.some Jvm.ClassFile.FieldType.byte), Jvm.Cond.code ({ cls := "java/lang/String", name := "valueOf", desc := "(C)Ljava/lang/String;" } : Jvm.MethodName) jdk_42_method_139_code (1 : Nat) (Option.some (Jvm.ClassFile.FieldType.object "java/lang/String")), Jvm.Cond.code ({ cls := "java/lang/StringLatin1", name := "canEncode", desc := "(C)Z" } : Jvm.MethodName) jdk_43_method_3_code (1 : Nat) (Option.some Jvm.ClassFile.FieldType.boolean), Jvm.Cond.code ({ cls := "java/lang/StringLatin1", name := "toBytes", desc := "(C)[B" } : Jvm.MethodName) jdk_43_method_46_code (1 : Nat) (Option.some (Jvm.ClassFile.FieldType.array Jvm.ClassFile.FieldType.byte)), Jvm.Cond.code ({ cls := "java/lang/String", name := "<init>", desc := "([BB)V" } : Jvm.MethodName) jdk_42_method_151_code (3 : Nat) (Option.none : Option Jvm.ClassFile.FieldType)]
set_option maxRecDepth 65536 in
theorem codes_eq : words1.filter isCode = codes1 := rfl
theorem w_codes : ∀ c ∈ words1.filter isCode, c.before args0 about1 = true := by
  rw [codes_eq]
  intro c hc
  simp only [codes1, List.mem_cons, List.not_mem_nil, or_false] at hc
  rcases hc with rfl | rfl | rfl | rfl | rfl | rfl | rfl | rfl | rfl | rfl | rfl | rfl | rfl | rfl | rfl | rfl | rfl | rfl | rfl | rfl | rfl | rfl | rfl | rfl | rfl | rfl | rfl | rfl | rfl | rfl | rfl | rfl | rfl | rfl | rfl | rfl | rfl | rfl | rfl | rfl | rfl | rfl | rfl | rfl | rfl | rfl | rfl | rfl | rfl
  · exact w_c0
  · exact w_c1
  · exact w_c2
  · exact w_c3
  · exact w_c4
  · exact w_c5
  · exact w_c6
  · exact w_c7
  · exact w_c8
  · exact w_c9
  · exact w_c10
  · exact w_c11
  · exact w_c12
  · exact w_c13
  · exact w_c14
  · exact w_c15
  · exact w_c16
  · exact w_c17
  · exact w_c18
  · exact w_c19
  · exact w_c20
  · exact w_c21
  · exact w_c22
  · exact w_c23
  · exact w_c24
  · exact w_c25
  · exact w_c26
  · exact w_c27
  · exact w_c28
  · exact w_c29
  · exact w_c30
  · exact w_c31
  · exact w_c32
  · exact w_c33
  · exact w_c34
  · exact w_c35
  · exact w_c36
  · exact w_c37
  · exact w_c38
  · exact w_c39
  · exact w_c40
  · exact w_c41
  · exact w_c42
  · exact w_c43
  · exact w_c44
  · exact w_c45
  · exact w_c46
  · exact w_c47
  · exact w_c48
set_option maxRecDepth 65536 in
theorem w_t1 : (words1.take 24).all (fun c => isCode c || c.before args0 about1) = true := by decide +kernel
set_option maxRecDepth 65536 in
theorem w_t2 : ((words1.drop 24).take 24).all (fun c => isCode c || c.before args0 about1) = true := by decide +kernel
set_option maxRecDepth 65536 in
theorem w_t3 : (((words1.drop 24).drop 24).take 24).all (fun c => isCode c || c.before args0 about1) = true := by decide +kernel
set_option maxRecDepth 65536 in
theorem w_t4 : ((((words1.drop 24).drop 24).drop 24).take 24).all (fun c => isCode c || c.before args0 about1) = true := by decide +kernel
set_option maxRecDepth 65536 in
theorem w_t5 : (((((words1.drop 24).drop 24).drop 24).drop 24).take 24).all (fun c => isCode c || c.before args0 about1) = true := by decide +kernel
set_option maxRecDepth 65536 in
theorem w_t6 : ((((((words1.drop 24).drop 24).drop 24).drop 24).drop 24).take 24).all (fun c => isCode c || c.before args0 about1) = true := by decide +kernel
set_option maxRecDepth 65536 in
theorem w_t7 : (((((((words1.drop 24).drop 24).drop 24).drop 24).drop 24).drop 24).take 24).all (fun c => isCode c || c.before args0 about1) = true := by decide +kernel
set_option maxRecDepth 65536 in
theorem w_t8 : ((((((((words1.drop 24).drop 24).drop 24).drop 24).drop 24).drop 24).drop 24).take 24).all (fun c => isCode c || c.before args0 about1) = true := by decide +kernel
set_option maxRecDepth 65536 in
theorem w_t9 : (((((((((words1.drop 24).drop 24).drop 24).drop 24).drop 24).drop 24).drop 24).drop 24).take 24).all (fun c => isCode c || c.before args0 about1) = true := by decide +kernel
set_option maxRecDepth 65536 in
theorem w_t10 : ((((((((((words1.drop 24).drop 24).drop 24).drop 24).drop 24).drop 24).drop 24).drop 24).drop 24).take 24).all (fun c => isCode c || c.before args0 about1) = true := by decide +kernel
set_option maxRecDepth 65536 in
theorem w_t11 : (((((((((((words1.drop 24).drop 24).drop 24).drop 24).drop 24).drop 24).drop 24).drop 24).drop 24).drop 24).take 24).all (fun c => isCode c || c.before args0 about1) = true := by decide +kernel
set_option maxRecDepth 65536 in
theorem w_t12 : (((((((((((words1.drop 24).drop 24).drop 24).drop 24).drop 24).drop 24).drop 24).drop 24).drop 24).drop 24).drop 24).all (fun c => isCode c || c.before args0 about1) = true := by decide +kernel
theorem w_tables : (allAtoms (Jvm.Cond.code x code maxLocals ret :: tables_1)).before args0 about1 = true := by
  rw [allAtoms_all]
  show words1.all (fun c => c.before args0 about1) = true
  refine all_split ?_ w_codes
  rw [← List.take_append_drop 24 words1, List.all_append, w_t1, ← List.take_append_drop 24 (words1.drop 24), List.all_append, w_t2, ← List.take_append_drop 24 ((words1.drop 24).drop 24), List.all_append, w_t3, ← List.take_append_drop 24 (((words1.drop 24).drop 24).drop 24), List.all_append, w_t4, ← List.take_append_drop 24 ((((words1.drop 24).drop 24).drop 24).drop 24), List.all_append, w_t5, ← List.take_append_drop 24 (((((words1.drop 24).drop 24).drop 24).drop 24).drop 24), List.all_append, w_t6, ← List.take_append_drop 24 ((((((words1.drop 24).drop 24).drop 24).drop 24).drop 24).drop 24), List.all_append, w_t7, ← List.take_append_drop 24 (((((((words1.drop 24).drop 24).drop 24).drop 24).drop 24).drop 24).drop 24), List.all_append, w_t8, ← List.take_append_drop 24 ((((((((words1.drop 24).drop 24).drop 24).drop 24).drop 24).drop 24).drop 24).drop 24), List.all_append, w_t9, ← List.take_append_drop 24 (((((((((words1.drop 24).drop 24).drop 24).drop 24).drop 24).drop 24).drop 24).drop 24).drop 24), List.all_append, w_t10, ← List.take_append_drop 24 ((((((((((words1.drop 24).drop 24).drop 24).drop 24).drop 24).drop 24).drop 24).drop 24).drop 24).drop 24), List.all_append, w_t11, w_t12]
  rfl
set_option maxRecDepth 65536 in
theorem w_rest : rest_1_c.before args0 about1 = true := by decide +kernel
set_option maxRecDepth 65536 in
theorem w_case : (Jvm.Cond.and given_1 narrow_1).before args0 about1 = true := by decide +kernel
set_option maxRecDepth 65536 in
theorem w_consts : constsHeld consts_1 about1 := Jvm.Lit.constsHeldB_iff.mp (by decide +kernel)
theorem w_applies : (headSpec (Jvm.Cond.code x code maxLocals ret :: tables_1) room_1).applies x e0.platform about1 = true :=
  (Spec.applies_iff w_frames).mpr ⟨w_running, w_runnable, w_alone, w_named, w_hears, w_ripe, w_room, w_tables⟩
theorem atStart : AtStart classFile x code maxLocals ret World_1 tables_1 room_1 Calls_1 rest_1 Pre_1 launch0 p0 e0 about1 theMethod args0 below0 :=
  ⟨lists_1, trivial, launch0.admits_env _ _ _, launch0.least_env, fairChoices_fair.cas, fairChoices_fair.clock, w_frames, w_args, w_heap, w_applies, ⟨(by decide +kernel : framesKnown about1 = true), ⟨(by decide +kernel : tablesKnown about1 = true), ⟨w_consts, trivial⟩⟩⟩, w_rest, w_case⟩
end start1
theorem witness_1 : WitnessClaimed_1 := ⟨start1.p0, start1.e0, start1.about1, start1.theMethod, start1.args0, start1.below0, start1.atStart⟩
end Jvm.Pilot.@@N@@
