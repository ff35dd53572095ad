import JvmDerived
import JvmDerived.Pilot.@@N@@Statement
import JvmDerived.Pilot.@@N@@Code
set_option linter.unusedVariables false
set_option linter.unusedSimpArgs false
namespace Jvm.OwnK
open Jvm Sem ClassFile Op Lib Jvm.Free Jvm.Stand Jvm.LawKit Jvm.RoadKit Bundle
/-! OwnK: a body's walk as a judgement. 'Go .. SF h k n pc Ls st': from the place pc, with the locals Ls and the operands st, over the heap h (SF: what this walk may write; k cells and n slots made so far), the body ends, and Q holds of what it returns and of the heap. One rule a step; a callee by 'Met'. -/
def Own (Z : State) (EL : List (String × Nat)) (n0 : Nat) (h0 : Heap) (WS : List Addr) (vm : Vm) (h : Heap) (SF : List Addr) : Prop := ∀ x ∈ SF, (n0 ≤ x ∧ x < h.size ∧ (x ∈ WS ∨ h0.size ≤ x)) ∧ Safe Z EL vm h x
def Cor (Z : State) (EL : List (String × Nat)) (n0 : Nat) (nr : Bool) (h0 : Heap) (WS SF : List Addr) (h : Heap) (s : State) (vm0 : Vm) (k0 : Nat) (locs : List Loc) : Prop :=
  Z.Warmed39 vm0 ∧ (s.Since vm0 k0 ∧ k0 ≤ h.size) ∧ Fr n0 locs ∧ CHr Z EL s.vm h0 vm0 h ∧ Own Z EL n0 h0 WS vm0 h SF ∧ (nr = true → s.WarmedH vm0) ∧ (Z.heap.size = n0 ∧ Ext Z.heap h) ∧ Keep h0 h WS ∧ s.heap = h0 ∧ ∃ a0, EW Z a0 EL
def Pst (Z : State) (EL : List (String × Nat)) (n0 : Nat) (nr : Bool) (R : Room) (h0 : Heap) (WS : List Addr) (Q : Option Value → Heap → List Addr → Prop) (s : State) (o : Outcome) (t : State) : Prop :=
  ∃ v L SN, o = .returned v ∧ Q v t.heap SN ∧ Fr n0 L ∧ Keep h0 t.heap WS ∧ (∀ x ∈ SN, (h0.size ≤ x ∧ x < t.heap.size) ∧ Safe Z EL t.vm t.heap x) ∧ CHr Z EL s.vm h0 t.vm t.heap ∧ (nr = true → s.WarmedH t.vm) ∧ ReturnedEndW s o t L R.cells R.slots
def Run (l : Launch) (Z : State) (EL : List (String × Nat)) (n0 : Nat) (nr kn : Bool) (y : MethodName) (bytes : ByteArray) (mL : Nat) (ret : Option FieldType) (R : Room) (h0 : Heap) (WS SF : List Addr) (h : Heap) (k n : Nat)
    (p : Program) (e : Env) (s : State) (m : MethodId) (args : Array Value) (below : List Frame) (meth : Method) (c : Code) (T : State) : Prop :=
  (p.tables.exec = Jvm.exec ∧ c.code = bytes ∧ c.maxLocals = mL ∧ s.vm.findClass y.cls = some m.cls ∧ meth.name = y.name ∧ meth.sig.returnType = ret ∧ meth.locks = false ∧ (kn = true → s.vm.MethodsKnown ∧ s.vm.FramesKnown below)) ∧
  ∃ vm0 k0 locs, Stand p l e R (s.setVm vm0) m args below meth c T locs k n ∧ T.heap = h ∧ Cor Z EL n0 nr h0 WS SF h s vm0 k0 locs
def Go (l : Launch) (Z : State) (EL : List (String × Nat)) (n0 : Nat) (nr kn : Bool) (y : MethodName) (bytes : ByteArray) (mL : Nat) (ret : Option FieldType) (R : Room) (h0 : Heap) (WS : List Addr) (Q : Option Value → Heap → List Addr → Prop)
    (SF : List Addr) (h : Heap) (k n : Nat) (pc : Nat) (Ls : Array Slot) (st : List Value) : Prop :=
  ∀ (p : Program) (e : Env) (s : State) (m : MethodId) (args : Array Value) (below : List Frame) (meth : Method) (c : Code) (T : State), Run l Z EL n0 nr kn y bytes mL ret R h0 WS SF h k n p e s m args below meth c T →
    ∃ t o, Steps p.tables e below (T.setTop (mkF m pc Ls st)) t ∧ t.status = .running ∧ Ended t below o ∧ Pst Z EL n0 nr R h0 WS Q s o t
def Met (l : Launch) (Z : State) (EL : List (String × Nat)) (n0 : Nat) (nr kn : Bool) (y : MethodName) (bytes : ByteArray) (mL : Nat) (ret : Option FieldType) (R : Room) (WS : List Addr) (as' : Array Value) (h : Heap) (Q : Option Value → Heap → List Addr → Prop) : Prop :=
  ∀ ws : List Jvm.Cond, MetFree l y (head1 (Jvm.Cond.code y bytes mL ret :: ws) R)
    (fun a U => a = as' ∧ Z.Warmed39 U.vm ∧ U.heap = h ∧ CHv Z EL U.vm h ∧ (∀ x ∈ WS, (n0 ≤ x ∧ x < h.size) ∧ Safe Z EL U.vm h x) ∧ (Z.heap.size = n0 ∧ Ext Z.heap h) ∧ ∃ a0, EW Z a0 EL)
    (fun _ _ bl s _ => kn = true → s.vm.MethodsKnown ∧ s.vm.FramesKnown bl) (fun _ U o U' => Pst Z EL n0 nr R h WS Q U o U')
def Pays (l : Launch) (Z : State) (EL : List (String × Nat)) (n0 : Nat) (nr kn : Bool) (R : Room) (len : Nat) (z : MethodName) (W ck cn : Nat) (ws : List Addr) (as' : Array Value) (h : Heap) (Q : Option Value → Heap → List Addr → Prop) : Prop :=
  ∀ (p : Program) (e : Env) (below : List Frame) (s : State) (args : Array Value) (vm0 : Vm), p.tables.exec = Jvm.exec → Z.Warmed39 vm0 → CHv Z EL vm0 h → (∀ x ∈ ws, (n0 ≤ x ∧ x < h.size) ∧ Safe Z EL vm0 h x) → (Z.heap.size = n0 ∧ Ext Z.heap h) → (∃ a0, EW Z a0 EL) →
    (kn = true → vm0.MethodsKnown ∧ vm0.FramesKnown below) →
    BackS l R p e below (s.setVm vm0) args z len W (fun A a => a = as' ∧ A.U.heap = h ∧ A.cells + ck ≤ R.cells ∧ A.slots + cn ≤ R.slots)
      (fun A _ v B => ∃ L SN, Q v B.U.heap SN ∧ Fr n0 L ∧ Keep h B.U.heap ws ∧ (∀ x ∈ SN, (h.size ≤ x ∧ x < B.U.heap.size) ∧ Safe Z EL B.U.vm B.U.heap x) ∧ CHr Z EL vm0 h B.U.vm B.U.heap ∧ (nr = true → (s.setVm vm0).WarmedH B.U.vm) ∧ B.locs = A.locs ++ L ∧ B.cells = A.cells + ck ∧ B.slots = A.slots + cn)
def Mr (Z : State) (CC : String) (m : Addr) : Prop := ∃ (c : ClassId) (k : Class), Z.vm.findClass CC = some c ∧ Z.vm.classes[c]? = some k ∧ k.mirror = some m
section Rules
variable {l : Launch} {Z : State} {EL : List (String × Nat)} {n0 : Nat} {nr kn : Bool} {y : MethodName} {bytes : ByteArray} {mL : Nat} {ret : Option FieldType} {R : Room} {h0 : Heap} {WS : List Addr} {Q : Option Value → Heap → List Addr → Prop} {SF : List Addr} {h h' : Heap} {k n : Nat} {pc pc' : Nat} {Ls Ls' : Array Slot} {st rest : List Value} {a0 : Array Value} {s : State} {vm0 vm1 : Vm} {k0 : Nat} {locs : List Loc}
theorem Cor.ext (C : Cor Z EL n0 nr h0 WS SF h s vm0 k0 locs) (E : Ext h h') : Cor Z EL n0 nr h0 WS SF h' s vm0 k0 locs := by
  obtain ⟨c1, ⟨c2, c2'⟩, c3, c4, c5, c6, ⟨c7, c7'⟩, c8, c9, c10⟩ := C
  exact ⟨c1, ⟨c2, Nat.le_trans c2' E.1⟩, c3, c4.trans (CHr.ext E c4.1), fun x hx => ⟨⟨(c5 x hx).1.1, Nat.lt_of_lt_of_le (c5 x hx).1.2.1 E.1, (c5 x hx).1.2.2⟩, Safe.ext E c4.1 (c5 x hx).2⟩, c6, ⟨c7, Nat.le_trans c7'.1 E.1, fun a c q => E.2 a c (c7'.2 a c q)⟩, c8.ext E, c9, c10⟩
theorem Cor.push (C : Cor Z EL n0 nr h0 WS SF h s vm0 k0 locs) (E : Ext h h') (hlt : h.size < h'.size) : Cor Z EL n0 nr h0 WS (h.size :: SF) h' s vm0 k0 locs := by
  have D := C.ext E
  obtain ⟨c1, c2, c3, c4, c5, c6, ⟨c7, c7'⟩, c8, c9, c10⟩ := C
  obtain ⟨d1, d2, d3, d4, d5, d6, d7, d8, d9, d10⟩ := D
  refine ⟨d1, d2, d3, d4, fun x hx => ?_, d6, d7, d8, d9, d10⟩
  rcases List.mem_cons.mp hx with rfl | hx
  · exact ⟨⟨c7 ▸ c7'.1, hlt, Or.inr c8.1⟩, Safe.ext E c4.1 (Safe.new (Nat.le_refl _))⟩
  · exact d5 x hx
theorem Cor.wr {a : Addr} {sl : Nat} {v : Value} (C : Cor Z EL n0 nr h0 WS SF h s vm0 k0 locs) (W : Wr h h' a sl v) (ha : a ∈ SF) : Cor Z EL n0 nr h0 WS SF h' s vm0 k0 (locs ++ [⟨a, sl⟩]) := by
  obtain ⟨c1, ⟨c2, c2'⟩, c3, c4, c5, c6, ⟨c7, c7'⟩, c8, c9, c10⟩ := C
  have S := (c5 a ha).2
  have O : Old Z n0 h := ⟨c7, c7'⟩
  refine ⟨c1, ⟨c2, by rw [W.size]; exact c2'⟩, c3.app fun z hz => by cases List.mem_singleton.mp hz; exact (c5 a ha).1.1, c4.trans (CHr.wr W S c4.1), fun x hx => ⟨⟨(c5 x hx).1.1, by rw [W.size]; exact (c5 x hx).1.2.1, (c5 x hx).1.2.2⟩, Safe.wr W S c4.1 (c5 x hx).2⟩, c6, O.wr W (c5 a ha).1.1, c8.wr W (c5 a ha).1.2.2, c9, c10⟩
theorem Cor.keep {ws SN : List Addr} {L : List Loc} {k1 : Nat} (C : Cor Z EL n0 nr h0 WS SF h s vm0 k0 locs) (K : Keep h h' ws) (hws : ∀ x ∈ ws, x ∈ SF) (hL : Fr n0 L) (hC : CHr Z EL vm0 h vm1 h') (hZ : Z.Warmed39 vm1) (hS : s.Since vm1 k1) (hk : k1 ≤ h'.size) (hN : nr = true → s.WarmedH vm1)
    (hSN : ∀ x ∈ SN, (h.size ≤ x ∧ x < h'.size) ∧ Safe Z EL vm1 h' x) : Cor Z EL n0 nr h0 WS (SN ++ SF) h' s vm1 k1 (locs ++ L) := by
  obtain ⟨c1, ⟨c2, c2'⟩, c3, c4, c5, c6, ⟨c7, c7'⟩, c8, c9, c10⟩ := C
  have O : Old Z n0 h := ⟨c7, c7'⟩
  refine ⟨hZ, ⟨hS, hk⟩, c3.app hL, c4.trans hC, fun x hx => ?_, hN, O.keep K fun x hx => (c5 x (hws x hx)).1.1, c8.trans K fun x hx => (c5 x (hws x hx)).1.2.2, c9, c10⟩
  rcases List.mem_append.mp hx with hx | hx
  · obtain ⟨⟨q1, q2⟩, q3⟩ := hSN x hx
    exact ⟨⟨Nat.le_trans (c7 ▸ c7'.1) q1, q2, Or.inr (Nat.le_trans c8.1 q1)⟩, q3⟩
  · exact ⟨⟨(c5 x hx).1.1, Nat.lt_of_lt_of_le (c5 x hx).1.2.1 K.1, (c5 x hx).1.2.2⟩, hC.safe (c5 x hx).1.2.1 (c5 x hx).2⟩
theorem Go.inv (K : (Z.heap.size = n0 ∧ Ext Z.heap h) → Keep h0 h WS → (∀ x ∈ SF, n0 ≤ x ∧ x < h.size ∧ (x ∈ WS ∨ h0.size ≤ x)) → Go l Z EL n0 nr kn y bytes mL ret R h0 WS Q SF h k n pc Ls st) : Go l Z EL n0 nr kn y bytes mL ret R h0 WS Q SF h k n pc Ls st := by
  intro p e s m args below meth c T hR
  obtain ⟨hA, vm0, k0, locs, X, e0, C⟩ := hR
  exact K C.2.2.2.2.2.2.1 C.2.2.2.2.2.2.2.1 (fun x hx => (C.2.2.2.2.1 x hx).1) p e s m args below meth c T ⟨hA, vm0, k0, locs, X, e0, C⟩
theorem Go.more {k' n' : Nat} (hk : k ≤ k') (hn : n ≤ n') (K : Go l Z EL n0 nr kn y bytes mL ret R h0 WS Q SF h k' n' pc Ls st) : Go l Z EL n0 nr kn y bytes mL ret R h0 WS Q SF h k n pc Ls st := by
  intro p e s m args below meth c T hR
  obtain ⟨hA, vm0, k0, locs, X, e0, C⟩ := hR
  exact K p e s m args below meth c T ⟨hA, vm0, k0, locs, X.more hk hn, e0, C⟩
theorem Go.fewer {SF' : List Addr} (hs : ∀ x ∈ SF', x ∈ SF) (K : Go l Z EL n0 nr kn y bytes mL ret R h0 WS Q SF' h k n pc Ls st) : Go l Z EL n0 nr kn y bytes mL ret R h0 WS Q SF h k n pc Ls st := by
  intro p e s m args below meth c T hR
  obtain ⟨hA, vm0, k0, locs, X, e0, c1, c2, c3, c4, c5, r⟩ := hR
  exact K p e s m args below meth c T ⟨hA, vm0, k0, locs, X, e0, c1, c2, c3, c4, fun x hx => c5 x (hs x hx), r⟩
theorem Go.plain {st' : List Value} (H : ∀ (p : Program) (e : Env) (below : List Frame) (T : State) (m : MethodId) (c : Code) (target : State), At T m c below → p.tables.exec = Jvm.exec → c.code = bytes → Steps p.tables e below (T.setTop (mkF m pc' Ls' st')) target → Steps p.tables e below (T.setTop (mkF m pc Ls st)) target)
    (K : Go l Z EL n0 nr kn y bytes mL ret R h0 WS Q SF h k n pc' Ls' st') : Go l Z EL n0 nr kn y bytes mL ret R h0 WS Q SF h k n pc Ls st := by
  intro p e s m args below meth c T hR
  obtain ⟨t, o, hs, r⟩ := K p e s m args below meth c T hR
  obtain ⟨⟨hx, hb, -⟩, vm0, k0, locs, X, -⟩ := hR
  exact ⟨t, o, H p e below T m c t X.here hx hb hs, r⟩

theorem Go.aload_n {i : Fin 4} {v : Value} (hd : decode bytes pc = .ok (.aload_n i, 1)) (hq : pc + 1 = pc') (hl : Ls[i.val]? = some (.val v)) (hv : v.isRef = true) (K : Go l Z EL n0 nr kn y bytes mL ret R h0 WS Q SF h k n pc' Ls (v :: st)) : Go l Z EL n0 nr kn y bytes mL ret R h0 WS Q SF h k n pc Ls st :=
  Go.plain (fun p e below T m c target hA hx hb hk => XS.aloadN hA hx rfl (hb ▸ hd) hl hv (by subst hq; exact hk)) K
theorem Go.aload {i : Nat} {v : Value} (hd : decode bytes pc = .ok (.aload i, 2)) (hq : pc + 2 = pc') (hl : Ls[i]? = some (.val v)) (hv : v.isRef = true) (K : Go l Z EL n0 nr kn y bytes mL ret R h0 WS Q SF h k n pc' Ls (v :: st)) : Go l Z EL n0 nr kn y bytes mL ret R h0 WS Q SF h k n pc Ls st :=
  Go.plain (fun p e below T m c target hA hx hb hk => XS.aload hA hx rfl (hb ▸ hd) hl hv (by subst hq; exact hk)) K
theorem Go.iload_n {i : Fin 4} {v : Int32} (hd : decode bytes pc = .ok (.iload_n i, 1)) (hq : pc + 1 = pc') (hl : Ls[i.val]? = some (.val (.int v))) (K : Go l Z EL n0 nr kn y bytes mL ret R h0 WS Q SF h k n pc' Ls (.int v :: st)) : Go l Z EL n0 nr kn y bytes mL ret R h0 WS Q SF h k n pc Ls st :=
  Go.plain (fun p e below T m c target hA hx hb hk => XS.iloadN hA hx rfl (hb ▸ hd) hl (by subst hq; exact hk)) K
theorem Go.iload {i : Nat} {v : Int32} (hd : decode bytes pc = .ok (.iload i, 2)) (hq : pc + 2 = pc') (hl : Ls[i]? = some (.val (.int v))) (K : Go l Z EL n0 nr kn y bytes mL ret R h0 WS Q SF h k n pc' Ls (.int v :: st)) : Go l Z EL n0 nr kn y bytes mL ret R h0 WS Q SF h k n pc Ls st :=
  Go.plain (fun p e below T m c target hA hx hb hk => XS.iload hA hx rfl (hb ▸ hd) hl (by subst hq; exact hk)) K
theorem Go.lload_n {i : Fin 4} {v : Int64} (hd : decode bytes pc = .ok (.lload_n i, 1)) (hq : pc + 1 = pc') (hl : Ls[i.val]? = some (.val (.long v))) (K : Go l Z EL n0 nr kn y bytes mL ret R h0 WS Q SF h k n pc' Ls (.long v :: st)) : Go l Z EL n0 nr kn y bytes mL ret R h0 WS Q SF h k n pc Ls st :=
  Go.plain (fun p e below T m c target hA hx hb hk => XS.lloadN hA hx rfl (hb ▸ hd) hl (by subst hq; exact hk)) K
theorem Go.iconst {i : Int} {v : Int32} (hd : decode bytes pc = .ok (.iconst i, 1)) (hq : pc + 1 = pc') (hv : Int32.ofInt i = v) (K : Go l Z EL n0 nr kn y bytes mL ret R h0 WS Q SF h k n pc' Ls (.int v :: st)) : Go l Z EL n0 nr kn y bytes mL ret R h0 WS Q SF h k n pc Ls st :=
  Go.plain (fun p e below T m c target hA hx hb hk => XS.iconst hA hx rfl (hb ▸ hd) (by subst hq; subst hv; exact hk)) K
theorem Go.bipush {i : Int} {v : Int32} (hd : decode bytes pc = .ok (.bipush i, 2)) (hq : pc + 2 = pc') (hv : (Int8.ofInt i).toInt32 = v) (K : Go l Z EL n0 nr kn y bytes mL ret R h0 WS Q SF h k n pc' Ls (.int v :: st)) : Go l Z EL n0 nr kn y bytes mL ret R h0 WS Q SF h k n pc Ls st :=
  Go.plain (fun p e below T m c target hA hx hb hk => XS.bipush hA hx rfl (hb ▸ hd) (by subst hq; subst hv; exact hk)) K
theorem Go.sipush {i : Int} {v : Int32} (hd : decode bytes pc = .ok (.sipush i, 3)) (hq : pc + 3 = pc') (hv : (Int16.ofInt i).toInt32 = v) (K : Go l Z EL n0 nr kn y bytes mL ret R h0 WS Q SF h k n pc' Ls (.int v :: st)) : Go l Z EL n0 nr kn y bytes mL ret R h0 WS Q SF h k n pc Ls st :=
  Go.plain (fun p e below T m c target hA hx hb hk => XS.sipush hA hx rfl (hb ▸ hd) (by subst hq; subst hv; exact hk)) K
theorem Go.aconst_null (hd : decode bytes pc = .ok (.aconst_null, 1)) (hq : pc + 1 = pc') (K : Go l Z EL n0 nr kn y bytes mL ret R h0 WS Q SF h k n pc' Ls (.null :: st)) : Go l Z EL n0 nr kn y bytes mL ret R h0 WS Q SF h k n pc Ls st :=
  Go.plain (fun p e below T m c target hA hx hb hk => XS.aconstNull hA hx rfl (hb ▸ hd) (by subst hq; exact hk)) K
theorem Go.iadd {x z : Int32} (hd : decode bytes pc = .ok (.iadd, 1)) (hq : pc + 1 = pc') (K : Go l Z EL n0 nr kn y bytes mL ret R h0 WS Q SF h k n pc' Ls (.int (x + z) :: st)) : Go l Z EL n0 nr kn y bytes mL ret R h0 WS Q SF h k n pc Ls (.int z :: .int x :: st) :=
  Go.plain (fun p e below T m c target hA hx hb hk => XS.iadd hA hx rfl (hb ▸ hd) rfl (by subst hq; exact hk)) K
theorem Go.isub {x z : Int32} (hd : decode bytes pc = .ok (.isub, 1)) (hq : pc + 1 = pc') (K : Go l Z EL n0 nr kn y bytes mL ret R h0 WS Q SF h k n pc' Ls (.int (x - z) :: st)) : Go l Z EL n0 nr kn y bytes mL ret R h0 WS Q SF h k n pc Ls (.int z :: .int x :: st) :=
  Go.plain (fun p e below T m c target hA hx hb hk => XS.isub hA hx rfl (hb ▸ hd) rfl (by subst hq; exact hk)) K
theorem Go.iand {x z : Int32} (hd : decode bytes pc = .ok (.iand, 1)) (hq : pc + 1 = pc') (K : Go l Z EL n0 nr kn y bytes mL ret R h0 WS Q SF h k n pc' Ls (.int (x &&& z) :: st)) : Go l Z EL n0 nr kn y bytes mL ret R h0 WS Q SF h k n pc Ls (.int z :: .int x :: st) :=
  Go.plain (fun p e below T m c target hA hx hb hk => XS.iand hA hx rfl (hb ▸ hd) rfl (by subst hq; exact hk)) K
theorem Go.imul {x z : Int32} (hd : decode bytes pc = .ok (.imul, 1)) (hq : pc + 1 = pc') (K : Go l Z EL n0 nr kn y bytes mL ret R h0 WS Q SF h k n pc' Ls (.int (x * z) :: st)) : Go l Z EL n0 nr kn y bytes mL ret R h0 WS Q SF h k n pc Ls (.int z :: .int x :: st) :=
  Go.plain (fun p e below T m c target hA hx hb hk => XS.imul hA hx rfl (hb ▸ hd) rfl (by subst hq; exact hk)) K
theorem Go.ior {x z : Int32} (hd : decode bytes pc = .ok (.ior, 1)) (hq : pc + 1 = pc') (K : Go l Z EL n0 nr kn y bytes mL ret R h0 WS Q SF h k n pc' Ls (.int (x ||| z) :: st)) : Go l Z EL n0 nr kn y bytes mL ret R h0 WS Q SF h k n pc Ls (.int z :: .int x :: st) :=
  Go.plain (fun p e below T m c target hA hx hb hk => XS.ior hA hx rfl (hb ▸ hd) rfl (by subst hq; exact hk)) K
theorem Go.ixor {x z : Int32} (hd : decode bytes pc = .ok (.ixor, 1)) (hq : pc + 1 = pc') (K : Go l Z EL n0 nr kn y bytes mL ret R h0 WS Q SF h k n pc' Ls (.int (x ^^^ z) :: st)) : Go l Z EL n0 nr kn y bytes mL ret R h0 WS Q SF h k n pc Ls (.int z :: .int x :: st) :=
  Go.plain (fun p e below T m c target hA hx hb hk => XS.ixor hA hx rfl (hb ▸ hd) rfl (by subst hq; exact hk)) K
theorem Go.ishl {x z : Int32} (hd : decode bytes pc = .ok (.ishl, 1)) (hq : pc + 1 = pc') (K : Go l Z EL n0 nr kn y bytes mL ret R h0 WS Q SF h k n pc' Ls (.int (x <<< (z &&& 31)) :: st)) : Go l Z EL n0 nr kn y bytes mL ret R h0 WS Q SF h k n pc Ls (.int z :: .int x :: st) :=
  Go.plain (fun p e below T m c target hA hx hb hk => XS.ishl hA hx rfl (hb ▸ hd) rfl (by subst hq; exact hk)) K
theorem Go.ishr {x z : Int32} (hd : decode bytes pc = .ok (.ishr, 1)) (hq : pc + 1 = pc') (K : Go l Z EL n0 nr kn y bytes mL ret R h0 WS Q SF h k n pc' Ls (.int (x >>> (z &&& 31)) :: st)) : Go l Z EL n0 nr kn y bytes mL ret R h0 WS Q SF h k n pc Ls (.int z :: .int x :: st) :=
  Go.plain (fun p e below T m c target hA hx hb hk => XS.ishr hA hx rfl (hb ▸ hd) rfl (by subst hq; exact hk)) K
theorem Go.iushr {x z : Int32} (hd : decode bytes pc = .ok (.iushr, 1)) (hq : pc + 1 = pc') (K : Go l Z EL n0 nr kn y bytes mL ret R h0 WS Q SF h k n pc' Ls (.int ((x.toUInt32 >>> (z &&& 31).toUInt32).toInt32) :: st)) : Go l Z EL n0 nr kn y bytes mL ret R h0 WS Q SF h k n pc Ls (.int z :: .int x :: st) :=
  Go.plain (fun p e below T m c target hA hx hb hk => XS.iushr hA hx rfl (hb ▸ hd) rfl (by subst hq; exact hk)) K
theorem Go.ineg {x : Int32} (hd : decode bytes pc = .ok (.ineg, 1)) (hq : pc + 1 = pc') (K : Go l Z EL n0 nr kn y bytes mL ret R h0 WS Q SF h k n pc' Ls (.int (-x) :: st)) : Go l Z EL n0 nr kn y bytes mL ret R h0 WS Q SF h k n pc Ls (.int x :: st) :=
  Go.plain (fun p e below T m c target hA hx hb hk => XS.ineg hA hx rfl (hb ▸ hd) rfl (by subst hq; exact hk)) K
theorem Go.i2b {x : Int32} (hd : decode bytes pc = .ok (.i2b, 1)) (hq : pc + 1 = pc') (K : Go l Z EL n0 nr kn y bytes mL ret R h0 WS Q SF h k n pc' Ls (.int x.toInt8.toInt32 :: st)) : Go l Z EL n0 nr kn y bytes mL ret R h0 WS Q SF h k n pc Ls (.int x :: st) :=
  Go.plain (fun p e below T m c target hA hx hb hk => XS.i2b hA hx rfl (hb ▸ hd) rfl (by subst hq; exact hk)) K
theorem Go.i2c {x : Int32} (hd : decode bytes pc = .ok (.i2c, 1)) (hq : pc + 1 = pc') (K : Go l Z EL n0 nr kn y bytes mL ret R h0 WS Q SF h k n pc' Ls (.int x.toUInt32.toUInt16.toUInt32.toInt32 :: st)) : Go l Z EL n0 nr kn y bytes mL ret R h0 WS Q SF h k n pc Ls (.int x :: st) :=
  Go.plain (fun p e below T m c target hA hx hb hk => XS.i2c hA hx rfl (hb ▸ hd) rfl (by subst hq; exact hk)) K
theorem Go.i2l {x : Int32} (hd : decode bytes pc = .ok (.i2l, 1)) (hq : pc + 1 = pc') (K : Go l Z EL n0 nr kn y bytes mL ret R h0 WS Q SF h k n pc' Ls (.long x.toInt64 :: st)) : Go l Z EL n0 nr kn y bytes mL ret R h0 WS Q SF h k n pc Ls (.int x :: st) :=
  Go.plain (fun p e below T m c target hA hx hb hk => XS.i2l hA hx rfl (hb ▸ hd) rfl (by subst hq; exact hk)) K
theorem Go.l2i {x : Int64} (hd : decode bytes pc = .ok (.l2i, 1)) (hq : pc + 1 = pc') (K : Go l Z EL n0 nr kn y bytes mL ret R h0 WS Q SF h k n pc' Ls (.int x.toInt32 :: st)) : Go l Z EL n0 nr kn y bytes mL ret R h0 WS Q SF h k n pc Ls (.long x :: st) :=
  Go.plain (fun p e below T m c target hA hx hb hk => XS.l2i hA hx rfl (hb ▸ hd) rfl (by subst hq; exact hk)) K
theorem Go.ladd {x z : Int64} (hd : decode bytes pc = .ok (.ladd, 1)) (hq : pc + 1 = pc') (K : Go l Z EL n0 nr kn y bytes mL ret R h0 WS Q SF h k n pc' Ls (.long (x + z) :: st)) : Go l Z EL n0 nr kn y bytes mL ret R h0 WS Q SF h k n pc Ls (.long z :: .long x :: st) :=
  Go.plain (fun p e below T m c target hA hx hb hk => XS.ladd hA hx rfl (hb ▸ hd) rfl (by subst hq; exact hk)) K
theorem Go.lsub {x z : Int64} (hd : decode bytes pc = .ok (.lsub, 1)) (hq : pc + 1 = pc') (K : Go l Z EL n0 nr kn y bytes mL ret R h0 WS Q SF h k n pc' Ls (.long (x - z) :: st)) : Go l Z EL n0 nr kn y bytes mL ret R h0 WS Q SF h k n pc Ls (.long z :: .long x :: st) :=
  Go.plain (fun p e below T m c target hA hx hb hk => XS.lsub hA hx rfl (hb ▸ hd) rfl (by subst hq; exact hk)) K
theorem Go.lmul {x z : Int64} (hd : decode bytes pc = .ok (.lmul, 1)) (hq : pc + 1 = pc') (K : Go l Z EL n0 nr kn y bytes mL ret R h0 WS Q SF h k n pc' Ls (.long (x * z) :: st)) : Go l Z EL n0 nr kn y bytes mL ret R h0 WS Q SF h k n pc Ls (.long z :: .long x :: st) :=
  Go.plain (fun p e below T m c target hA hx hb hk => XS.lmul hA hx rfl (hb ▸ hd) rfl (by subst hq; exact hk)) K
theorem Go.lcmp {x z : Int64} (hd : decode bytes pc = .ok (.lcmp, 1)) (hq : pc + 1 = pc') (K : Go l Z EL n0 nr kn y bytes mL ret R h0 WS Q SF h k n pc' Ls (.int (lcmpW x z) :: st)) : Go l Z EL n0 nr kn y bytes mL ret R h0 WS Q SF h k n pc Ls (.long z :: .long x :: st) :=
  Go.plain (fun p e below T m c target hA hx hb hk => XS.lcmp hA hx rfl (hb ▸ hd) rfl (by subst hq; exact hk)) K
theorem Go.dup {v : Value} (hd : decode bytes pc = .ok (.dup, 1)) (hq : pc + 1 = pc') (hc : v.category = 1) (K : Go l Z EL n0 nr kn y bytes mL ret R h0 WS Q SF h k n pc' Ls (v :: v :: st)) : Go l Z EL n0 nr kn y bytes mL ret R h0 WS Q SF h k n pc Ls (v :: st) :=
  Go.plain (fun p e below T m c target hA hx hb hk => XS.dup hA hx rfl (hb ▸ hd) rfl hc (by subst hq; exact hk)) K
theorem Go.pop {v : Value} (hd : decode bytes pc = .ok (.pop, 1)) (hq : pc + 1 = pc') (hc : v.category = 1) (K : Go l Z EL n0 nr kn y bytes mL ret R h0 WS Q SF h k n pc' Ls st) : Go l Z EL n0 nr kn y bytes mL ret R h0 WS Q SF h k n pc Ls (v :: st) :=
  Go.plain (fun p e below T m c target hA hx hb hk => XS.pop hA hx rfl (hb ▸ hd) rfl hc (by subst hq; exact hk)) K
theorem Go.dup_x1 {v u : Value} (hd : decode bytes pc = .ok (.dup_x1, 1)) (hq : pc + 1 = pc') (hc : v.category = 1) (hc' : u.category = 1) (K : Go l Z EL n0 nr kn y bytes mL ret R h0 WS Q SF h k n pc' Ls (v :: u :: v :: st)) : Go l Z EL n0 nr kn y bytes mL ret R h0 WS Q SF h k n pc Ls (v :: u :: st) :=
  Go.plain (fun p e below T m c target hA hx hb hk => XS.dupX1 hA hx rfl (hb ▸ hd) rfl hc hc' (by subst hq; exact hk)) K
theorem Go.istore_n {i : Fin 4} {x : Int32} (hd : decode bytes pc = .ok (.istore_n i, 1)) (hq : pc + 1 = pc') (hl : storeLocals Ls i.val (.int x) = some Ls') (K : Go l Z EL n0 nr kn y bytes mL ret R h0 WS Q SF h k n pc' Ls' st) : Go l Z EL n0 nr kn y bytes mL ret R h0 WS Q SF h k n pc Ls (.int x :: st) :=
  Go.plain (fun p e below T m c target hA hx hb hk => XS.istoreN hA hx rfl (hb ▸ hd) rfl hl (by subst hq; exact hk)) K
theorem Go.istore {i : Nat} {x : Int32} (hd : decode bytes pc = .ok (.istore i, 2)) (hq : pc + 2 = pc') (hl : storeLocals Ls i (.int x) = some Ls') (K : Go l Z EL n0 nr kn y bytes mL ret R h0 WS Q SF h k n pc' Ls' st) : Go l Z EL n0 nr kn y bytes mL ret R h0 WS Q SF h k n pc Ls (.int x :: st) :=
  Go.plain (fun p e below T m c target hA hx hb hk => XS.istore hA hx rfl (hb ▸ hd) rfl hl (by subst hq; exact hk)) K
theorem Go.istoreS {i : Nat} {x : Int32} {o : Slot} (hd : decode bytes pc = .ok (.istore i, 2)) (hq : pc + 2 = pc') (hold : Ls[i]? = some o) (ho : One o) (hl : Ls.setIfInBounds i (.val (.int x)) = Ls') (K : Go l Z EL n0 nr kn y bytes mL ret R h0 WS Q SF h k n pc' Ls' st) : Go l Z EL n0 nr kn y bytes mL ret R h0 WS Q SF h k n pc Ls (.int x :: st) :=
  Go.plain (fun p e below T m c target hA hx hb hk => XS.istoreS hA hx rfl (hb ▸ hd) rfl hold ho (by subst hq; subst hl; exact hk)) K
theorem Go.lstore_n {i : Fin 4} {x : Int64} (hd : decode bytes pc = .ok (.lstore_n i, 1)) (hq : pc + 1 = pc') (hl : storeLocals Ls i.val (.long x) = some Ls') (K : Go l Z EL n0 nr kn y bytes mL ret R h0 WS Q SF h k n pc' Ls' st) : Go l Z EL n0 nr kn y bytes mL ret R h0 WS Q SF h k n pc Ls (.long x :: st) :=
  Go.plain (fun p e below T m c target hA hx hb hk => XS.lstoreN hA hx rfl (hb ▸ hd) rfl hl (by subst hq; exact hk)) K
theorem Go.astore_n {i : Fin 4} {v : Value} (hd : decode bytes pc = .ok (.astore_n i, 1)) (hq : pc + 1 = pc') (hv : v.isRef = true) (hl : storeLocals Ls i.val v = some Ls') (K : Go l Z EL n0 nr kn y bytes mL ret R h0 WS Q SF h k n pc' Ls' st) : Go l Z EL n0 nr kn y bytes mL ret R h0 WS Q SF h k n pc Ls (v :: st) :=
  Go.plain (fun p e below T m c target hA hx hb hk => XS.astoreN hA hx rfl (hb ▸ hd) rfl hv hl (by subst hq; exact hk)) K
theorem Go.astore {i : Nat} {v : Value} (hd : decode bytes pc = .ok (.astore i, 2)) (hq : pc + 2 = pc') (hv : v.isRef = true) (hl : storeLocals Ls i v = some Ls') (K : Go l Z EL n0 nr kn y bytes mL ret R h0 WS Q SF h k n pc' Ls' st) : Go l Z EL n0 nr kn y bytes mL ret R h0 WS Q SF h k n pc Ls (v :: st) :=
  Go.plain (fun p e below T m c target hA hx hb hk => XS.astore hA hx rfl (hb ▸ hd) rfl hv hl (by subst hq; exact hk)) K
theorem Go.iinc {i : Nat} {cst : Int} {x cv : Int32} (hd : decode bytes pc = .ok (.iinc i cst, 3)) (hq : pc + 3 = pc') (hv : Int32.ofInt cst = cv) (hl : Ls[i]? = some (.val (.int x))) (hl' : storeLocals Ls i (.int (x + cv)) = some Ls') (K : Go l Z EL n0 nr kn y bytes mL ret R h0 WS Q SF h k n pc' Ls' st) : Go l Z EL n0 nr kn y bytes mL ret R h0 WS Q SF h k n pc Ls st :=
  Go.plain (fun p e below T m c target hA hx hb hk => XS.iinc hA hx rfl (hb ▸ hd) hl (by subst hv; exact hl') (by subst hq; exact hk)) K
theorem Go.irem {x z : Int32} (hd : decode bytes pc = .ok (.irem, 1)) (hq : pc + 1 = pc') (hz : z ≠ 0) (K : Go l Z EL n0 nr kn y bytes mL ret R h0 WS Q SF h k n pc' Ls (.int (x % z) :: st)) : Go l Z EL n0 nr kn y bytes mL ret R h0 WS Q SF h k n pc Ls (.int z :: .int x :: st) :=
  Go.plain (fun p e below T m c target hA hx hb hk => XS.irem hA hx rfl (hb ▸ hd) rfl hz (by rw [show x - x / z * z = x % z from irem_eq_mod x z]; subst hq; exact hk)) K
theorem Go.idiv {x z : Int32} (hd : decode bytes pc = .ok (.idiv, 1)) (hq : pc + 1 = pc') (hz : z ≠ 0) (K : Go l Z EL n0 nr kn y bytes mL ret R h0 WS Q SF h k n pc' Ls (.int (x / z) :: st)) : Go l Z EL n0 nr kn y bytes mL ret R h0 WS Q SF h k n pc Ls (.int z :: .int x :: st) :=
  Go.plain (fun p e below T m c target hA hx hb hk => XS.idiv hA hx rfl (hb ▸ hd) rfl hz (by subst hq; exact hk)) K
theorem Go.goto {o : Int} (hd : decode bytes pc = .ok (.goto o, 3)) (ho : 0 ≤ (pc : Int) + o) (hq : ((pc : Int) + o).toNat = pc') (K : Go l Z EL n0 nr kn y bytes mL ret R h0 WS Q SF h k n pc' Ls st) : Go l Z EL n0 nr kn y bytes mL ret R h0 WS Q SF h k n pc Ls st :=
  Go.plain (fun p e below T m c target hA hx hb hk => XS.goto hA hx rfl (pc0 := pc) (pc' := pc') rfl (hb ▸ hd) ho hq hk) K
theorem Go.ifY {cd : ClassFile.Cond} {x : Int32} {o : Int} (hd : decode bytes pc = .ok (.ifCond cd o, 3)) (ho : 0 ≤ (pc : Int) + o) (hq : ((pc : Int) + o).toNat = pc') (hc : ifCond.holds cd x = true) (K : Go l Z EL n0 nr kn y bytes mL ret R h0 WS Q SF h k n pc' Ls st) : Go l Z EL n0 nr kn y bytes mL ret R h0 WS Q SF h k n pc Ls (.int x :: st) :=
  Go.plain (fun p e below T m c target hA hx hb hk => XS.ifYes hA hx rfl (pc0 := pc) (pc' := pc') rfl (hb ▸ hd) rfl hc ho hq hk) K
theorem Go.icmpY {cd : ClassFile.Cond} {x z : Int32} {o : Int} (hd : decode bytes pc = .ok (.if_icmp cd o, 3)) (ho : 0 ≤ (pc : Int) + o) (hq : ((pc : Int) + o).toNat = pc') (hc : if_icmp.holds cd x z = true) (K : Go l Z EL n0 nr kn y bytes mL ret R h0 WS Q SF h k n pc' Ls st) : Go l Z EL n0 nr kn y bytes mL ret R h0 WS Q SF h k n pc Ls (.int z :: .int x :: st) :=
  Go.plain (fun p e below T m c target hA hx hb hk => XS.icmpYes hA hx rfl (pc0 := pc) (pc' := pc') rfl (hb ▸ hd) rfl hc ho hq hk) K
theorem Go.ifnullY {o : Int} (hd : decode bytes pc = .ok (.ifnull o, 3)) (ho : 0 ≤ (pc : Int) + o) (hq : ((pc : Int) + o).toNat = pc') (K : Go l Z EL n0 nr kn y bytes mL ret R h0 WS Q SF h k n pc' Ls st) : Go l Z EL n0 nr kn y bytes mL ret R h0 WS Q SF h k n pc Ls (.null :: st) :=
  Go.plain (fun p e below T m c target hA hx hb hk => XS.ifnullYes hA hx rfl (pc0 := pc) (pc' := pc') rfl (hb ▸ hd) rfl ho hq hk) K
theorem Go.ifnonnullY {b : Addr} {o : Int} (hd : decode bytes pc = .ok (.ifnonnull o, 3)) (ho : 0 ≤ (pc : Int) + o) (hq : ((pc : Int) + o).toNat = pc') (K : Go l Z EL n0 nr kn y bytes mL ret R h0 WS Q SF h k n pc' Ls st) : Go l Z EL n0 nr kn y bytes mL ret R h0 WS Q SF h k n pc Ls (.ref b :: st) :=
  Go.plain (fun p e below T m c target hA hx hb hk => XS.ifnonnullYes hA hx rfl (pc0 := pc) (pc' := pc') rfl (hb ▸ hd) rfl ho hq hk) K
theorem Go.ifN {cd : ClassFile.Cond} {o : Int} {x : Int32} (hd : decode bytes pc = .ok (.ifCond cd o, 3)) (hq : pc + 3 = pc') (hc : ifCond.holds cd x = false) (K : Go l Z EL n0 nr kn y bytes mL ret R h0 WS Q SF h k n pc' Ls st) : Go l Z EL n0 nr kn y bytes mL ret R h0 WS Q SF h k n pc Ls (.int x :: st) :=
  Go.plain (fun p e below T m c target hA hx hb hk => XS.ifNo hA hx rfl (hb ▸ hd) rfl hc (by subst hq; exact hk)) K
theorem Go.icmpN {cd : ClassFile.Cond} {o : Int} {x z : Int32} (hd : decode bytes pc = .ok (.if_icmp cd o, 3)) (hq : pc + 3 = pc') (hc : if_icmp.holds cd x z = false) (K : Go l Z EL n0 nr kn y bytes mL ret R h0 WS Q SF h k n pc' Ls st) : Go l Z EL n0 nr kn y bytes mL ret R h0 WS Q SF h k n pc Ls (.int z :: .int x :: st) :=
  Go.plain (fun p e below T m c target hA hx hb hk => XS.icmpNo hA hx rfl (hb ▸ hd) rfl hc (by subst hq; exact hk)) K
theorem Go.ifnullN {o : Int} {b : Addr} (hd : decode bytes pc = .ok (.ifnull o, 3)) (hq : pc + 3 = pc') (K : Go l Z EL n0 nr kn y bytes mL ret R h0 WS Q SF h k n pc' Ls st) : Go l Z EL n0 nr kn y bytes mL ret R h0 WS Q SF h k n pc Ls (.ref b :: st) :=
  Go.plain (fun p e below T m c target hA hx hb hk => XS.ifnullNo hA hx rfl (hb ▸ hd) rfl (by subst hq; exact hk)) K
theorem Go.ifnonnullN {o : Int} (hd : decode bytes pc = .ok (.ifnonnull o, 3)) (hq : pc + 3 = pc') (K : Go l Z EL n0 nr kn y bytes mL ret R h0 WS Q SF h k n pc' Ls st) : Go l Z EL n0 nr kn y bytes mL ret R h0 WS Q SF h k n pc Ls (.null :: st) :=
  Go.plain (fun p e below T m c target hA hx hb hk => XS.ifnonnullNo hA hx rfl (hb ▸ hd) rfl (by subst hq; exact hk)) K
theorem Go.acmp {cd : ACond} {v u : Value} {o : Int} {same : Bool} (hd : decode bytes pc = .ok (.if_acmp cd o, 3)) (hv : v.isRef = true) (hu : u.isRef = true) (hs : decide (v = u) = same) (ho : 0 ≤ (pc : Int) + o) (hq : pc' = if acV cd same = true then ((pc : Int) + o).toNat else pc + 3) (K : Go l Z EL n0 nr kn y bytes mL ret R h0 WS Q SF h k n pc' Ls st) : Go l Z EL n0 nr kn y bytes mL ret R h0 WS Q SF h k n pc Ls (u :: v :: st) := by
  intro p e s m args below meth c T hR
  obtain ⟨t, o, hs', r⟩ := K p e s m args below meth c T hR
  obtain ⟨⟨hx, hb, -⟩, vm0, k0, locs, X, -⟩ := hR
  exact ⟨t, o, Jvm.RoadKit.acmp (g := mkF m pc Ls (u :: v :: st)) X hx rfl hv hu (pc0 := pc) (pc' := pc') (same := same) rfl (hb ▸ hd) rfl hs ho hq hs', r⟩
theorem Go.getF {R0 O nf d host : String} {index : Nat} {a : Addr} {v : Value} (hd : decode bytes pc = .ok (.getfield index, 3)) (hq : pc + 3 = pc') (w : (Jvm.Cond.fieldLink y.cls index R0 nf d).before a0 Z = true ∨ (Jvm.Cond.fieldLinkNest y.cls index R0 nf d host).before a0 Z = true) (via : Via Z R0 O nf d) (F : Fld Z h a O nf d v) (K : Go l Z EL n0 nr kn y bytes mL ret R h0 WS Q SF h k n pc' Ls (v :: st)) : Go l Z EL n0 nr kn y bytes mL ret R h0 WS Q SF h k n pc Ls (.ref a :: st) := by
  intro p e s m args below meth c T hR
  obtain ⟨⟨hx, hby, hml, hown, hnm, hret, hlk, hkn⟩, vm0, k0, locs, X, e0, C⟩ := hR
  have hZ : Z.Warmed39 (s.setVm vm0).vm := C.1
  have hown' : (s.setVm vm0).vm.findClass y.cls = some m.cls := by rw [show (s.setVm vm0).vm = vm0 from rfl, C.2.1.1.1.alike.findClass]; exact hown
  obtain ⟨T', X', e', st'⟩ := Jvm.RoadKit.getF X hx hZ hown' w via e0 F (g := mkF m pc Ls (.ref a :: st)) rfl rfl (hb hby hd)
  obtain ⟨t, o, hs, r⟩ := K p e s m args below meth c T' ⟨⟨hx, hby, hml, hown, hnm, hret, hlk, hkn⟩, vm0, k0, locs, X', e', C⟩
  exact ⟨t, o, st' _ (by subst hq; exact hs), r⟩
theorem Go.getS {R0 O nf d host : String} {index : Nat} {v : Value} (hd : decode bytes pc = .ok (.getstatic index, 3)) (hq : pc + 3 = pc') (w : (Jvm.Cond.fieldLink y.cls index R0 nf d).before a0 Z = true ∨ (Jvm.Cond.fieldLinkNest y.cls index R0 nf d host).before a0 Z = true) (via : Via Z R0 O nf d) (F : Sta Z Z.heap O nf d v) (K : Go l Z EL n0 nr kn y bytes mL ret R h0 WS Q SF h k n pc' Ls (v :: st)) : Go l Z EL n0 nr kn y bytes mL ret R h0 WS Q SF h k n pc Ls st := by
  intro p e s m args below meth c T hR
  obtain ⟨⟨hx, hby, hml, hown, hnm, hret, hlk, hkn⟩, vm0, k0, locs, X, e0, C⟩ := hR
  have hZ : Z.Warmed39 (s.setVm vm0).vm := C.1
  have hown' : (s.setVm vm0).vm.findClass y.cls = some m.cls := by rw [show (s.setVm vm0).vm = vm0 from rfl, C.2.1.1.1.alike.findClass]; exact hown
  obtain ⟨T', X', e', st'⟩ := Jvm.RoadKit.getS2 X hx hZ hown' w via e0 (F.ext C.2.2.2.2.2.2.1.2) (g := mkF m pc Ls st) rfl (hb hby hd)
  obtain ⟨t, o, hs, r⟩ := K p e s m args below meth c T' ⟨⟨hx, hby, hml, hown, hnm, hret, hlk, hkn⟩, vm0, k0, locs, X', e', C⟩
  exact ⟨t, o, st' _ (by subst hq; exact hs), r⟩
theorem Go.castY {D : String} {index : Nat} {a : Addr} (hd : decode bytes pc = .ok (.checkcast index, 3)) (hq : pc + 3 = pc') (w : (Jvm.Cond.classLink y.cls index D).before a0 Z = true) (F : Ins Z h a D true) (K : Go l Z EL n0 nr kn y bytes mL ret R h0 WS Q SF h k n pc' Ls (.ref a :: st)) : Go l Z EL n0 nr kn y bytes mL ret R h0 WS Q SF h k n pc Ls (.ref a :: st) := by
  intro p e s m args below meth c T hR
  obtain ⟨⟨hx, hby, hml, hown, hnm, hret, hlk, hkn⟩, vm0, k0, locs, X, e0, C⟩ := hR
  have hZ : Z.Warmed39 (s.setVm vm0).vm := C.1
  have hown' : (s.setVm vm0).vm.findClass y.cls = some m.cls := by rw [show (s.setVm vm0).vm = vm0 from rfl, C.2.1.1.1.alike.findClass]; exact hown
  obtain ⟨T', X', e', st'⟩ := Jvm.RoadKit.castY X hx hZ hown' w e0 F (g := mkF m pc Ls (.ref a :: st)) rfl rfl (hb hby hd)
  obtain ⟨t, o, hs, r⟩ := K p e s m args below meth c T' ⟨⟨hx, hby, hml, hown, hnm, hret, hlk, hkn⟩, vm0, k0, locs, X', e', C⟩
  exact ⟨t, o, st' _ (by subst hq; exact hs), r⟩
theorem Go.instY {D : String} {index : Nat} {a : Addr} (hd : decode bytes pc = .ok (.instanceof index, 3)) (hq : pc + 3 = pc') (w : (Jvm.Cond.classLink y.cls index D).before a0 Z = true) (F : Ins Z h a D true) (K : Go l Z EL n0 nr kn y bytes mL ret R h0 WS Q SF h k n pc' Ls (.int 1 :: st)) : Go l Z EL n0 nr kn y bytes mL ret R h0 WS Q SF h k n pc Ls (.ref a :: st) := by
  intro p e s m args below meth c T hR
  obtain ⟨⟨hx, hby, hml, hown, hnm, hret, hlk, hkn⟩, vm0, k0, locs, X, e0, C⟩ := hR
  have hZ : Z.Warmed39 (s.setVm vm0).vm := C.1
  have hown' : (s.setVm vm0).vm.findClass y.cls = some m.cls := by rw [show (s.setVm vm0).vm = vm0 from rfl, C.2.1.1.1.alike.findClass]; exact hown
  obtain ⟨T', X', e', st'⟩ := Jvm.RoadKit.instY X hx hZ hown' w e0 F (g := mkF m pc Ls (.ref a :: st)) rfl rfl (hb hby hd)
  obtain ⟨t, o, hs, r⟩ := K p e s m args below meth c T' ⟨⟨hx, hby, hml, hown, hnm, hret, hlk, hkn⟩, vm0, k0, locs, X', e', C⟩
  exact ⟨t, o, st' _ (by subst hq; exact hs), r⟩
theorem Go.instNo {D CC : String} {index : Nat} {a : Addr} (hd : decode bytes pc = .ok (.instanceof index, 3)) (hq : pc + 3 = pc') (w : (Jvm.Cond.classLink y.cls index D).before a0 Z = true) (E : Exa Z h a CC) (F : ∃ c t, Z.vm.findClass CC = some c ∧ Z.vm.findClass D = some t ∧ Z.vm.assignable c t = false) (K : Go l Z EL n0 nr kn y bytes mL ret R h0 WS Q SF h k n pc' Ls (.int 0 :: st)) : Go l Z EL n0 nr kn y bytes mL ret R h0 WS Q SF h k n pc Ls (.ref a :: st) := by
  intro p e s m args below meth c T hR
  obtain ⟨⟨hx, hby, hml, hown, hnm, hret, hlk, hkn⟩, vm0, k0, locs, X, e0, C⟩ := hR
  have hZ : Z.Warmed39 (s.setVm vm0).vm := C.1
  have hown' : (s.setVm vm0).vm.findClass y.cls = some m.cls := by rw [show (s.setVm vm0).vm = vm0 from rfl, C.2.1.1.1.alike.findClass]; exact hown
  obtain ⟨T', X', e', st'⟩ := Jvm.RoadKit.instNo X hx hZ hown' w e0 E F (g := mkF m pc Ls (.ref a :: st)) rfl rfl (hb hby hd)
  obtain ⟨t, o, hs, r⟩ := K p e s m args below meth c T' ⟨⟨hx, hby, hml, hown, hnm, hret, hlk, hkn⟩, vm0, k0, locs, X', e', C⟩
  exact ⟨t, o, st' _ (by subst hq; exact hs), r⟩
theorem Go.initO {index W : Nat} {a : Addr} (hd : decode bytes pc = .ok (.invokespecial index, 3)) (hq : pc + 3 = pc') (w1 : (Jvm.Cond.methodLink y.cls index Lib.objectInit).before a0 Z = true) (w2 : (Jvm.Cond.instanceMethod Lib.objectInit).before a0 Z = true) (w3 : (Jvm.Cond.code Lib.objectInit ⟨#[0xb1]⟩ 1 none).before a0 Z = true) (hsz : Ls.size = mL) (hf : 1 ≤ R.frames) (hW : (st.map fun v => v.category).sum ≤ W) (hl : W + 12 ≤ R.locals) (K : Go l Z EL n0 nr kn y bytes mL ret R h0 WS Q SF h k n pc' Ls st) : Go l Z EL n0 nr kn y bytes mL ret R h0 WS Q SF h k n pc Ls (.ref a :: st) := by
  intro p e s m args below meth c T hR
  obtain ⟨⟨hx, hby, hml, hown, hnm, hret, hlk, hkn⟩, vm0, k0, locs, X, e0, C⟩ := hR
  have hZ : Z.Warmed39 (s.setVm vm0).vm := C.1
  have hown' : (s.setVm vm0).vm.findClass y.cls = some m.cls := by rw [show (s.setVm vm0).vm = vm0 from rfl, C.2.1.1.1.alike.findClass]; exact hown
  obtain ⟨T', X', e', st'⟩ := Jvm.RoadKit.initO X hx hZ hown' w1 w2 w3 e0 (g := mkF m pc Ls (.ref a :: st)) rfl (by rw [hml]; exact hsz) rfl (hb hby hd) hf (W := W) (by show 2 * 0 + _ ≤ _; rw [Nat.mul_zero, Nat.zero_add]; exact hW) hl
  obtain ⟨t, o, hs, r⟩ := K p e s m args below meth c T' ⟨⟨hx, hby, hml, hown, hnm, hret, hlk, hkn⟩, vm0, k0, locs, X', e', C⟩
  exact ⟨t, o, st' _ (by subst hq; exact hs), r⟩
theorem Go.gcls {index W : Nat} {CC : String} {a mr : Addr} (hd : decode bytes pc = .ok (.invokevirtual index, 3)) (hq : pc + 3 = pc') (w1 : (Jvm.Cond.methodLink y.cls index ⟨"java/lang/Object", "getClass", "()Ljava/lang/Class;"⟩).before a0 Z = true) (w2 : (Jvm.Cond.declares ⟨"java/lang/Object", "getClass", "()Ljava/lang/Class;"⟩).before a0 Z = true) (w3 : (Jvm.Cond.noSuperclass "java/lang/Object").before a0 Z = true) (w4 : (Jvm.Cond.selects CC ⟨"java/lang/Object", "getClass", "()Ljava/lang/Class;"⟩ ⟨"java/lang/Object", "getClass", "()Ljava/lang/Class;"⟩).before a0 Z = true)
    (w5 : (Jvm.Cond.instanceMethod ⟨"java/lang/Object", "getClass", "()Ljava/lang/Class;"⟩).before a0 Z = true) (w6 : (Jvm.Cond.native ⟨"java/lang/Object", "getClass", "()Ljava/lang/Class;"⟩).before a0 Z = true) (E : Exa Z h a CC) (M : Mr Z CC mr) (hsz : Ls.size = mL) (hf : 1 ≤ R.frames) (hW : (st.map fun v => v.category).sum ≤ W) (hl : W + (nativeFrameWords "java/lang/Object" "getClass" 1 + 11) ≤ R.locals) (K : Go l Z EL n0 nr kn y bytes mL ret R h0 WS Q SF h k n pc' Ls (.ref mr :: st)) : Go l Z EL n0 nr kn y bytes mL ret R h0 WS Q SF h k n pc Ls (.ref a :: st) := by
  intro p e s m args below meth c T hR
  obtain ⟨⟨hx, hby, hml, hown, hnm, hret, hlk, hkn⟩, vm0, k0, locs, X, e0, C⟩ := hR
  have hZ : Z.Warmed39 (s.setVm vm0).vm := C.1
  have hown' : (s.setVm vm0).vm.findClass y.cls = some m.cls := by rw [show (s.setVm vm0).vm = vm0 from rfl, C.2.1.1.1.alike.findClass]; exact hown
  obtain ⟨cB, kB, i1, i2, i3⟩ := isOf hZ e0 E
  obtain ⟨cc, kc, m1, m2, m3⟩ := M
  rw [hZ.alike.findClass] at i1
  cases i1.symm.trans m1
  obtain ⟨k', q, ek⟩ := hZ.alike.2.2 _ _ m2
  obtain ⟨vm', X', st'⟩ := X.getClassOf hx hown' (mvT hZ w1) (mvT hZ w2) (nf_top (args := #[]) (mvT hZ w3)) (mvT hZ w4) (mvT hZ w5) (mvT hZ w6) (by rw [hZ.alike.findClass]; exact m1) i3 q (by rw [ek]; exact m3) (g := mkF m pc Ls (.ref a :: st)) rfl (by rw [hml]; exact hsz) rfl (hb hby hd) hf (by show 2 * 0 + _ + _ ≤ _; omega)
  obtain ⟨t, o, hs, r⟩ := K p e s m args below meth c _ ⟨⟨hx, hby, hml, hown, hnm, hret, hlk, hkn⟩, vm0, k0, locs, X', e0, C⟩
  exact ⟨t, o, st' _ (by subst hq; exact hs), r⟩
theorem Go.ldcM {index : Nat} {CC : String} {mr : Addr} (hd : decode bytes pc = .ok (.ldc index, 2)) (hq : pc + 2 = pc') (w : (Jvm.Cond.classLink y.cls index CC).before a0 Z = true) (M : Mr Z CC mr) (K : Go l Z EL n0 nr kn y bytes mL ret R h0 WS Q SF h k n pc' Ls (.ref mr :: st)) : Go l Z EL n0 nr kn y bytes mL ret R h0 WS Q SF h k n pc Ls st := by
  intro p e s m args below meth c T hR
  obtain ⟨⟨hx, hby, hml, hown, hnm, hret, hlk, hkn⟩, vm0, k0, locs, X, e0, C⟩ := hR
  have hZ : Z.Warmed39 (s.setVm vm0).vm := C.1
  have hown' : (s.setVm vm0).vm.findClass y.cls = some m.cls := by rw [show (s.setVm vm0).vm = vm0 from rfl, C.2.1.1.1.alike.findClass]; exact hown
  obtain ⟨cc, kc, m1, m2, m3⟩ := M
  obtain ⟨k', q, ek⟩ := hZ.alike.2.2 _ _ m2
  have hev : (Term.mirror CC).eval args (s.setVm vm0) none [] (s.setVm vm0) = some (.ref mr) := by
    have q1 : (s.setVm vm0).vm.findClass CC = some cc := by rw [hZ.alike.findClass]; exact m1
    have q2 : k'.mirror = some mr := by rw [ek]; exact m3
    simp only [Term.eval, q1, q, q2, Option.bind_eq_bind, Option.bind_some, Option.pure_def]
  obtain ⟨vm', X', st'⟩ := X.ldcMirror hx hown' (mvT hZ w) hev (g := mkF m pc Ls st) rfl (hb hby hd)
  obtain ⟨t, o, hs, r⟩ := K p e s m args below meth c _ ⟨⟨hx, hby, hml, hown, hnm, hret, hlk, hkn⟩, vm0, k0, locs, X', e0, C⟩
  exact ⟨t, o, st' _ (by subst hq; exact hs), r⟩
theorem Go.ldcInt {index : Nat} {v : Int32} (hd : decode bytes pc = .ok (.ldc index, 2)) (hq : pc + 2 = pc') (w : (Jvm.Cond.constant y.cls index v).before a0 Z = true) (K : Go l Z EL n0 nr kn y bytes mL ret R h0 WS Q SF h k n pc' Ls (.int v :: st)) : Go l Z EL n0 nr kn y bytes mL ret R h0 WS Q SF h k n pc Ls st := by
  intro p e s m args below meth c T hR
  obtain ⟨⟨hx, hby, hml, hown, hnm, hret, hlk, hkn⟩, vm0, k0, locs, X, e0, C⟩ := hR
  have hZ : Z.Warmed39 (s.setVm vm0).vm := C.1
  have hown' : (s.setVm vm0).vm.findClass y.cls = some m.cls := by rw [show (s.setVm vm0).vm = vm0 from rfl, C.2.1.1.1.alike.findClass]; exact hown
  obtain ⟨t, o, hs, r⟩ := K p e s m args below meth c T ⟨⟨hx, hby, hml, hown, hnm, hret, hlk, hkn⟩, vm0, k0, locs, X, e0, C⟩
  exact ⟨t, o, X.ldcInt hx hown' (mvT hZ w) (g := mkF m pc Ls st) rfl (hb hby hd) _ (by subst hq; exact hs), r⟩
theorem Go.ldc2Long {index : Nat} {v : Int64} (hd : decode bytes pc = .ok (.ldc2_w index, 3)) (hq : pc + 3 = pc') (w : (Jvm.Cond.constantLong y.cls index v).before a0 Z = true) (K : Go l Z EL n0 nr kn y bytes mL ret R h0 WS Q SF h k n pc' Ls (.long v :: st)) : Go l Z EL n0 nr kn y bytes mL ret R h0 WS Q SF h k n pc Ls st := by
  intro p e s m args below meth c T hR
  obtain ⟨⟨hx, hby, hml, hown, hnm, hret, hlk, hkn⟩, vm0, k0, locs, X, e0, C⟩ := hR
  have hZ : Z.Warmed39 (s.setVm vm0).vm := C.1
  have hown' : (s.setVm vm0).vm.findClass y.cls = some m.cls := by rw [show (s.setVm vm0).vm = vm0 from rfl, C.2.1.1.1.alike.findClass]; exact hown
  obtain ⟨t, o, hs, r⟩ := K p e s m args below meth c T ⟨⟨hx, hby, hml, hown, hnm, hret, hlk, hkn⟩, vm0, k0, locs, X, e0, C⟩
  exact ⟨t, o, X.ldc2Long hx hown' (mvT hZ w) (g := mkF m pc Ls st) rfl (hb hby hd) _ (by subst hq; exact hs), r⟩
theorem Go.arraylength {a : Addr} {cl : Cell} {ty : FieldType} {z : Int32} (hd : decode bytes pc = .ok (.arraylength, 1)) (hq : pc + 1 = pc') (F : Arr Z h a cl ty) (hz : cl.slots.size.toInt32 = z) (K : Go l Z EL n0 nr kn y bytes mL ret R h0 WS Q SF h k n pc' Ls (.int z :: st)) : Go l Z EL n0 nr kn y bytes mL ret R h0 WS Q SF h k n pc Ls (.ref a :: st) := by
  intro p e s m args below meth c T hR
  obtain ⟨⟨hx, hby, hml, hown, hnm, hret, hlk, hkn⟩, vm0, k0, locs, X, e0, C⟩ := hR
  have hZ : Z.Warmed39 (s.setVm vm0).vm := C.1
  have hown' : (s.setVm vm0).vm.findClass y.cls = some m.cls := by rw [show (s.setVm vm0).vm = vm0 from rfl, C.2.1.1.1.alike.findClass]; exact hown
  obtain ⟨t, o, hs, r⟩ := K p e s m args below meth c T ⟨⟨hx, hby, hml, hown, hnm, hret, hlk, hkn⟩, vm0, k0, locs, X, e0, C⟩
  exact ⟨t, o, X.arraylength hx (by rw [e0]; exact F.1) (State.isArrayOf_alike hZ.alike F.2.1) (g := mkF m pc Ls (.ref a :: st)) rfl rfl (hb hby hd) _ (by subst hq; rw [hz]; exact hs), r⟩
theorem Go.lenV {a : Addr} {kk : ClassId} {ty : FieldType} {z : Int32} {vs : List Value} {dv : Value} (hd : decode bytes pc = .ok (.arraylength, 1)) (hq : pc + 1 = pc') (F : Arv Z h a kk ty z vs dv) (K : Go l Z EL n0 nr kn y bytes mL ret R h0 WS Q SF h k n pc' Ls (.int z :: st)) : Go l Z EL n0 nr kn y bytes mL ret R h0 WS Q SF h k n pc Ls (.ref a :: st) := by
  intro p e s m args below meth c T hR
  obtain ⟨⟨hx, hby, hml, hown, hnm, hret, hlk, hkn⟩, vm0, k0, locs, X, e0, C⟩ := hR
  have hZ : Z.Warmed39 (s.setVm vm0).vm := C.1
  have hown' : (s.setVm vm0).vm.findClass y.cls = some m.cls := by rw [show (s.setVm vm0).vm = vm0 from rfl, C.2.1.1.1.alike.findClass]; exact hown
  obtain ⟨cl, F, -, S, N, -, -⟩ := F
  obtain ⟨t, o, hs, r⟩ := K p e s m args below meth c T ⟨⟨hx, hby, hml, hown, hnm, hret, hlk, hkn⟩, vm0, k0, locs, X, e0, C⟩
  exact ⟨t, o, X.arraylength hx (by rw [e0]; exact F.1) (State.isArrayOf_alike hZ.alike F.2.1) (g := mkF m pc Ls (.ref a :: st)) rfl rfl (hb hby hd) _ (by subst hq; rw [len_of S N]; exact hs), r⟩
theorem Go.caload {a : Addr} {cl : Cell} {j : Int32} {v : Value} (hd : decode bytes pc = .ok (.caload, 1)) (hq : pc + 1 = pc') (F : Arr Z h a cl .char) (hin : ¬ (j < 0 ∨ cl.slots.size ≤ j.toNatClampNeg)) (hv : cl.slots[j.toNatClampNeg]? = some v) (K : Go l Z EL n0 nr kn y bytes mL ret R h0 WS Q SF h k n pc' Ls (v :: st)) : Go l Z EL n0 nr kn y bytes mL ret R h0 WS Q SF h k n pc Ls (.int j :: .ref a :: st) := by
  intro p e s m args below meth c T hR
  obtain ⟨⟨hx, hby, hml, hown, hnm, hret, hlk, hkn⟩, vm0, k0, locs, X, e0, C⟩ := hR
  have hZ : Z.Warmed39 (s.setVm vm0).vm := C.1
  have hown' : (s.setVm vm0).vm.findClass y.cls = some m.cls := by rw [show (s.setVm vm0).vm = vm0 from rfl, C.2.1.1.1.alike.findClass]; exact hown
  obtain ⟨t, o, hs, r⟩ := K p e s m args below meth c T ⟨⟨hx, hby, hml, hown, hnm, hret, hlk, hkn⟩, vm0, k0, locs, X, e0, C⟩
  exact ⟨t, o, X.caload hx (by rw [e0]; exact F.1) (State.isArrayOf_alike hZ.alike F.2.1) F.2.2 hin hv (g := mkF m pc Ls (.int j :: .ref a :: st)) rfl rfl (hb hby hd) _ (by subst hq; exact hs), r⟩
theorem Go.caloadV {a : Addr} {kk : ClassId} {z j : Int32} {vs : List Value} {v dv : Value} (hd : decode bytes pc = .ok (.caload, 1)) (hq : pc + 1 = pc') (F : Arv Z h a kk .char z vs dv) (hj : ¬ j < 0 ∧ j < z) (hv : vs.getD j.toNatClampNeg dv = v) (K : Go l Z EL n0 nr kn y bytes mL ret R h0 WS Q SF h k n pc' Ls (v :: st)) : Go l Z EL n0 nr kn y bytes mL ret R h0 WS Q SF h k n pc Ls (.int j :: .ref a :: st) := by
  intro p e s m args below meth c T hR
  obtain ⟨⟨hx, hby, hml, hown, hnm, hret, hlk, hkn⟩, vm0, k0, locs, X, e0, C⟩ := hR
  have hZ : Z.Warmed39 (s.setVm vm0).vm := C.1
  have hown' : (s.setVm vm0).vm.findClass y.cls = some m.cls := by rw [show (s.setVm vm0).vm = vm0 from rfl, C.2.1.1.1.alike.findClass]; exact hown
  obtain ⟨cl, F, -, S, N, H, -⟩ := F
  have hin := inb_of S hj
  have hv := Has.at H hin hv
  obtain ⟨t, o, hs, r⟩ := K p e s m args below meth c T ⟨⟨hx, hby, hml, hown, hnm, hret, hlk, hkn⟩, vm0, k0, locs, X, e0, C⟩
  exact ⟨t, o, X.caload hx (by rw [e0]; exact F.1) (State.isArrayOf_alike hZ.alike F.2.1) F.2.2 hin hv (g := mkF m pc Ls (.int j :: .ref a :: st)) rfl rfl (hb hby hd) _ (by subst hq; exact hs), r⟩
theorem Go.baload {a : Addr} {cl : Cell} {j : Int32} {v : Value} (hd : decode bytes pc = .ok (.baload, 1)) (hq : pc + 1 = pc') (F : Arr Z h a cl .byte) (hin : ¬ (j < 0 ∨ cl.slots.size ≤ j.toNatClampNeg)) (hv : cl.slots[j.toNatClampNeg]? = some v) (K : Go l Z EL n0 nr kn y bytes mL ret R h0 WS Q SF h k n pc' Ls (v :: st)) : Go l Z EL n0 nr kn y bytes mL ret R h0 WS Q SF h k n pc Ls (.int j :: .ref a :: st) := by
  intro p e s m args below meth c T hR
  obtain ⟨⟨hx, hby, hml, hown, hnm, hret, hlk, hkn⟩, vm0, k0, locs, X, e0, C⟩ := hR
  have hZ : Z.Warmed39 (s.setVm vm0).vm := C.1
  have hown' : (s.setVm vm0).vm.findClass y.cls = some m.cls := by rw [show (s.setVm vm0).vm = vm0 from rfl, C.2.1.1.1.alike.findClass]; exact hown
  obtain ⟨t, o, hs, r⟩ := K p e s m args below meth c T ⟨⟨hx, hby, hml, hown, hnm, hret, hlk, hkn⟩, vm0, k0, locs, X, e0, C⟩
  exact ⟨t, o, X.baloadBytes hx (by rw [e0]; exact F.1) (State.isArrayOf_alike hZ.alike F.2.1) F.2.2 hin hv (g := mkF m pc Ls (.int j :: .ref a :: st)) rfl rfl (hb hby hd) _ (by subst hq; exact hs), r⟩
theorem Go.baloadV {a : Addr} {kk : ClassId} {z j : Int32} {vs : List Value} {v dv : Value} (hd : decode bytes pc = .ok (.baload, 1)) (hq : pc + 1 = pc') (F : Arv Z h a kk .byte z vs dv) (hj : ¬ j < 0 ∧ j < z) (hv : vs.getD j.toNatClampNeg dv = v) (K : Go l Z EL n0 nr kn y bytes mL ret R h0 WS Q SF h k n pc' Ls (v :: st)) : Go l Z EL n0 nr kn y bytes mL ret R h0 WS Q SF h k n pc Ls (.int j :: .ref a :: st) := by
  intro p e s m args below meth c T hR
  obtain ⟨⟨hx, hby, hml, hown, hnm, hret, hlk, hkn⟩, vm0, k0, locs, X, e0, C⟩ := hR
  have hZ : Z.Warmed39 (s.setVm vm0).vm := C.1
  have hown' : (s.setVm vm0).vm.findClass y.cls = some m.cls := by rw [show (s.setVm vm0).vm = vm0 from rfl, C.2.1.1.1.alike.findClass]; exact hown
  obtain ⟨cl, F, -, S, N, H, -⟩ := F
  have hin := inb_of S hj
  have hv := Has.at H hin hv
  obtain ⟨t, o, hs, r⟩ := K p e s m args below meth c T ⟨⟨hx, hby, hml, hown, hnm, hret, hlk, hkn⟩, vm0, k0, locs, X, e0, C⟩
  exact ⟨t, o, X.baloadBytes hx (by rw [e0]; exact F.1) (State.isArrayOf_alike hZ.alike F.2.1) F.2.2 hin hv (g := mkF m pc Ls (.int j :: .ref a :: st)) rfl rfl (hb hby hd) _ (by subst hq; exact hs), r⟩
theorem Go.iaload {a : Addr} {cl : Cell} {j : Int32} {v : Value} (hd : decode bytes pc = .ok (.iaload, 1)) (hq : pc + 1 = pc') (F : Arr Z h a cl .int) (hin : ¬ (j < 0 ∨ cl.slots.size ≤ j.toNatClampNeg)) (hv : cl.slots[j.toNatClampNeg]? = some v) (K : Go l Z EL n0 nr kn y bytes mL ret R h0 WS Q SF h k n pc' Ls (v :: st)) : Go l Z EL n0 nr kn y bytes mL ret R h0 WS Q SF h k n pc Ls (.int j :: .ref a :: st) := by
  intro p e s m args below meth c T hR
  obtain ⟨⟨hx, hby, hml, hown, hnm, hret, hlk, hkn⟩, vm0, k0, locs, X, e0, C⟩ := hR
  have hZ : Z.Warmed39 (s.setVm vm0).vm := C.1
  have hown' : (s.setVm vm0).vm.findClass y.cls = some m.cls := by rw [show (s.setVm vm0).vm = vm0 from rfl, C.2.1.1.1.alike.findClass]; exact hown
  obtain ⟨t, o, hs, r⟩ := K p e s m args below meth c T ⟨⟨hx, hby, hml, hown, hnm, hret, hlk, hkn⟩, vm0, k0, locs, X, e0, C⟩
  exact ⟨t, o, X.iaload hx (by rw [e0]; exact F.1) (State.isArrayOf_alike hZ.alike F.2.1) F.2.2 hin hv (g := mkF m pc Ls (.int j :: .ref a :: st)) rfl rfl (hb hby hd) _ (by subst hq; exact hs), r⟩
theorem Go.ialoadV {a : Addr} {kk : ClassId} {z j : Int32} {vs : List Value} {v dv : Value} (hd : decode bytes pc = .ok (.iaload, 1)) (hq : pc + 1 = pc') (F : Arv Z h a kk .int z vs dv) (hj : ¬ j < 0 ∧ j < z) (hv : vs.getD j.toNatClampNeg dv = v) (K : Go l Z EL n0 nr kn y bytes mL ret R h0 WS Q SF h k n pc' Ls (v :: st)) : Go l Z EL n0 nr kn y bytes mL ret R h0 WS Q SF h k n pc Ls (.int j :: .ref a :: st) := by
  intro p e s m args below meth c T hR
  obtain ⟨⟨hx, hby, hml, hown, hnm, hret, hlk, hkn⟩, vm0, k0, locs, X, e0, C⟩ := hR
  have hZ : Z.Warmed39 (s.setVm vm0).vm := C.1
  have hown' : (s.setVm vm0).vm.findClass y.cls = some m.cls := by rw [show (s.setVm vm0).vm = vm0 from rfl, C.2.1.1.1.alike.findClass]; exact hown
  obtain ⟨cl, F, -, S, N, H, -⟩ := F
  have hin := inb_of S hj
  have hv := Has.at H hin hv
  obtain ⟨t, o, hs, r⟩ := K p e s m args below meth c T ⟨⟨hx, hby, hml, hown, hnm, hret, hlk, hkn⟩, vm0, k0, locs, X, e0, C⟩
  exact ⟨t, o, X.iaload hx (by rw [e0]; exact F.1) (State.isArrayOf_alike hZ.alike F.2.1) F.2.2 hin hv (g := mkF m pc Ls (.int j :: .ref a :: st)) rfl rfl (hb hby hd) _ (by subst hq; exact hs), r⟩
theorem Go.aaload {ty : FieldType} {a : Addr} {cl : Cell} {j : Int32} {v : Value} (hd : decode bytes pc = .ok (.aaload, 1)) (hq : pc + 1 = pc') (F : Arr Z h a cl ty) (hty : ty.isReference = true) (hin : ¬ (j < 0 ∨ cl.slots.size ≤ j.toNatClampNeg)) (hv : cl.slots[j.toNatClampNeg]? = some v) (K : Go l Z EL n0 nr kn y bytes mL ret R h0 WS Q SF h k n pc' Ls (v :: st)) : Go l Z EL n0 nr kn y bytes mL ret R h0 WS Q SF h k n pc Ls (.int j :: .ref a :: st) := by
  intro p e s m args below meth c T hR
  obtain ⟨⟨hx, hby, hml, hown, hnm, hret, hlk, hkn⟩, vm0, k0, locs, X, e0, C⟩ := hR
  have hZ : Z.Warmed39 (s.setVm vm0).vm := C.1
  have hown' : (s.setVm vm0).vm.findClass y.cls = some m.cls := by rw [show (s.setVm vm0).vm = vm0 from rfl, C.2.1.1.1.alike.findClass]; exact hown
  obtain ⟨t, o, hs, r⟩ := K p e s m args below meth c T ⟨⟨hx, hby, hml, hown, hnm, hret, hlk, hkn⟩, vm0, k0, locs, X, e0, C⟩
  exact ⟨t, o, X.aaload hx (by rw [e0]; exact F.1) (State.isArrayOf_alike hZ.alike F.2.1) hty F.2.2 hin hv (g := mkF m pc Ls (.int j :: .ref a :: st)) rfl rfl (hb hby hd) _ (by subst hq; exact hs), r⟩
theorem Go.aaloadV {ty : FieldType} {a : Addr} {kk : ClassId} {z j : Int32} {vs : List Value} {v dv : Value} (hd : decode bytes pc = .ok (.aaload, 1)) (hq : pc + 1 = pc') (F : Arv Z h a kk ty z vs dv) (hty : ty.isReference = true) (hj : ¬ j < 0 ∧ j < z) (hv : vs.getD j.toNatClampNeg dv = v) (K : Go l Z EL n0 nr kn y bytes mL ret R h0 WS Q SF h k n pc' Ls (v :: st)) : Go l Z EL n0 nr kn y bytes mL ret R h0 WS Q SF h k n pc Ls (.int j :: .ref a :: st) := by
  intro p e s m args below meth c T hR
  obtain ⟨⟨hx, hby, hml, hown, hnm, hret, hlk, hkn⟩, vm0, k0, locs, X, e0, C⟩ := hR
  have hZ : Z.Warmed39 (s.setVm vm0).vm := C.1
  have hown' : (s.setVm vm0).vm.findClass y.cls = some m.cls := by rw [show (s.setVm vm0).vm = vm0 from rfl, C.2.1.1.1.alike.findClass]; exact hown
  obtain ⟨cl, F, -, S, N, H, -⟩ := F
  have hin := inb_of S hj
  have hv := Has.at H hin hv
  obtain ⟨t, o, hs, r⟩ := K p e s m args below meth c T ⟨⟨hx, hby, hml, hown, hnm, hret, hlk, hkn⟩, vm0, k0, locs, X, e0, C⟩
  exact ⟨t, o, X.aaload hx (by rw [e0]; exact F.1) (State.isArrayOf_alike hZ.alike F.2.1) hty F.2.2 hin hv (g := mkF m pc Ls (.int j :: .ref a :: st)) rfl rfl (hb hby hd) _ (by subst hq; exact hs), r⟩
theorem Go.newO {CC : String} {index nn : Nat} (hd : decode bytes pc = .ok (.new index, 3)) (hq : pc + 3 = pc') (w : (Jvm.Cond.classLink y.cls index CC).before a0 Z = true) (wi : (Jvm.Cond.instantiable CC nn).before a0 Z = true) (wz : (Jvm.Cond.initialized CC).before a0 Z = true) (hc : k + 1 ≤ R.cells) (hl : n + nn ≤ R.slots)
    (K : ∀ h' a, h.size = a → h0.size ≤ a → Ext h h' → Exa Z h' a CC → (∀ {O nm d : String} {ty : FieldType}, Laid Z a0 CC O nm d → parseFieldDescriptor d = some ty → Fld Z h' a O nm d (defaultValue ty)) → Unt h' a → Go l Z EL n0 nr kn y bytes mL ret R h0 WS Q (a :: SF) h' (k + 1) (n + nn) pc' Ls (.ref a :: st)) : Go l Z EL n0 nr kn y bytes mL ret R h0 WS Q SF h k n pc Ls st := by
  intro p e s m args below meth c T hR
  obtain ⟨⟨hx, hby, hml, hown, hnm, hret, hlk, hkn⟩, vm0, k0, locs, X, e0, C⟩ := hR
  have hZ : Z.Warmed39 (s.setVm vm0).vm := C.1
  have hown' : (s.setVm vm0).vm.findClass y.cls = some m.cls := by rw [show (s.setVm vm0).vm = vm0 from rfl, C.2.1.1.1.alike.findClass]; exact hown
  obtain ⟨T', h', X', e', E, AA, D, U, st'⟩ := Jvm.RoadKit.newO X hx hZ hown' w wi wz e0 (g := mkF m pc Ls st) rfl (hb hby hd) hc hl
  have hlt : h.size < h'.size := AA.lt
  obtain ⟨t, o, hs, r⟩ := K h' h.size rfl C.2.2.2.2.2.2.2.1.1 E AA D U p e s m args below meth c T' ⟨⟨hx, hby, hml, hown, hnm, hret, hlk, hkn⟩, vm0, k0, locs, X', e', C.push E hlt⟩
  exact ⟨t, o, st' _ (by subst hq; exact hs), r⟩
theorem Go.newP {aty : ArrayType} {z : Int32} {cap : Nat} {ad : String} (hd : decode bytes pc = .ok (.newarray aty, 2)) (hq : pc + 2 = pc') (w : (Jvm.Cond.arrayClass (newarray.typeOf aty)).before a0 Z = true) (had : "[" ++ (newarray.typeOf aty).toString = ad) (hz : ¬ z < 0) (hcap : z.toNatClampNeg ≤ cap) (hbig : cap * 8 ≤ 536870912) (hc : k + 1 ≤ R.cells) (hl : n + cap ≤ R.slots)
    (K : ∀ h' a, h.size = a → h0.size ≤ a → ∀ cA, Ext h h' → Arv Z h' a cA (newarray.typeOf aty) z [] (defaultValue (newarray.typeOf aty)) → Exa Z h' a ad → Go l Z EL n0 nr kn y bytes mL ret R h0 WS Q (a :: SF) h' (k + 1) (n + cap) pc' Ls (.ref a :: st)) : Go l Z EL n0 nr kn y bytes mL ret R h0 WS Q SF h k n pc Ls (.int z :: st) := by
  intro p e s m args below meth c T hR
  obtain ⟨⟨hx, hby, hml, hown, hnm, hret, hlk, hkn⟩, vm0, k0, locs, X, e0, C⟩ := hR
  have hZ : Z.Warmed39 (s.setVm vm0).vm := C.1
  have hown' : (s.setVm vm0).vm.findClass y.cls = some m.cls := by rw [show (s.setVm vm0).vm = vm0 from rfl, C.2.1.1.1.alike.findClass]; exact hown
  obtain ⟨T', h', cA, X', e', E, AA, EE, st'⟩ := Jvm.RoadKit.newPE X hx hZ w e0 (g := mkF m pc Ls (.int z :: st)) rfl (hb hby hd) rfl hz hcap hbig hc hl had
  have hlt : h.size < h'.size := AA.lt
  obtain ⟨t, o, hs, r⟩ := K h' h.size rfl C.2.2.2.2.2.2.2.1.1 cA E (Arv.new AA hz) EE p e s m args below meth c T' ⟨⟨hx, hby, hml, hown, hnm, hret, hlk, hkn⟩, vm0, k0, locs, X', e', C.push E hlt⟩
  exact ⟨t, o, st' _ (by subst hq; exact hs), r⟩
theorem Go.newR {CC : String} {index : Nat} {z : Int32} {cap : Nat} {ad : String} (hd : decode bytes pc = .ok (.anewarray index, 3)) (hq : pc + 3 = pc') (w1 : (Jvm.Cond.classLink y.cls index CC).before a0 Z = true) (w2 : (Jvm.Cond.arrayOver (.object CC)).before a0 Z = true) (had : "[" ++ (FieldType.object CC).toString = ad) (hz : ¬ z < 0) (hcap : z.toNatClampNeg ≤ cap) (hbig : cap * 8 ≤ 536870912) (hc : k + 1 ≤ R.cells) (hl : n + cap ≤ R.slots)
    (K : ∀ h' a, h.size = a → h0.size ≤ a → ∀ cA, Ext h h' → Arv Z h' a cA (.object CC) z [] .null → Exa Z h' a ad → Ovr Z cA CC → Go l Z EL n0 nr kn y bytes mL ret R h0 WS Q (a :: SF) h' (k + 1) (n + cap) pc' Ls (.ref a :: st)) : Go l Z EL n0 nr kn y bytes mL ret R h0 WS Q SF h k n pc Ls (.int z :: st) := by
  intro p e s m args below meth c T hR
  obtain ⟨⟨hx, hby, hml, hown, hnm, hret, hlk, hkn⟩, vm0, k0, locs, X, e0, C⟩ := hR
  have hZ : Z.Warmed39 (s.setVm vm0).vm := C.1
  have hown' : (s.setVm vm0).vm.findClass y.cls = some m.cls := by rw [show (s.setVm vm0).vm = vm0 from rfl, C.2.1.1.1.alike.findClass]; exact hown
  obtain ⟨T', h', cA, X', e', E, AA, EE, OO, st'⟩ := Jvm.RoadKit.newRE X hx hZ hown' w1 w2 e0 (g := mkF m pc Ls (.int z :: st)) rfl (hb hby hd) rfl hz hcap hbig hc hl had
  have hlt : h.size < h'.size := AA.lt
  obtain ⟨t, o, hs, r⟩ := K h' h.size rfl C.2.2.2.2.2.2.2.1.1 cA E (Arv.new AA hz) EE OO p e s m args below meth c T' ⟨⟨hx, hby, hml, hown, hnm, hret, hlk, hkn⟩, vm0, k0, locs, X', e', C.push E hlt⟩
  exact ⟨t, o, st' _ (by subst hq; exact hs), r⟩
theorem Go.clone {index W : Nat} {ad : String} {a : Addr} {ty : FieldType} {kk : ClassId} {z : Int32} {hs0 : List (Int32 × Value)} {vs : List Value} {dv : Value} {cap : Nat} (hd : decode bytes pc = .ok (.invokevirtual index, 3)) (hq : pc + 3 = pc') (w1 : (Jvm.Cond.methodLink y.cls index ⟨ad, "clone", "()Ljava/lang/Object;"⟩).before a0 Z = true) (w2 : (Jvm.Cond.sameMethod ad "java/lang/Object" "clone" "()Ljava/lang/Object;").before a0 Z = true) (w3 : (Jvm.Cond.native ⟨"java/lang/Object", "clone", "()Ljava/lang/Object;"⟩).before a0 Z = true)
    (w4 : (Jvm.Cond.instanceMethod ⟨"java/lang/Object", "clone", "()Ljava/lang/Object;"⟩).before a0 Z = true) (w5 : (Jvm.Cond.selects ad ⟨ad, "clone", "()Ljava/lang/Object;"⟩ ⟨"java/lang/Object", "clone", "()Ljava/lang/Object;"⟩).before a0 Z = true) (w6 : (Jvm.Cond.castable ad "java/lang/Cloneable").before a0 Z = true) (F : Arh Z h a kk ty z hs0 vs dv) (E0 : Exa Z h a ad) (hsz : Ls.size = mL) (hf : 1 ≤ R.frames) (hW : (st.map fun v => v.category).sum ≤ W) (hl : W + 14 ≤ R.locals) (hcap : z.toNatClampNeg ≤ cap) (hc : k + 1 ≤ R.cells) (hsl : n + cap ≤ R.slots)
    (K : ∀ h' a, h.size = a → h0.size ≤ a → Ext h h' → Arh Z h' a kk ty z hs0 vs dv → Exa Z h' a ad → Go l Z EL n0 nr kn y bytes mL ret R h0 WS Q (a :: SF) h' (k + 1) (n + cap) pc' Ls (.ref a :: st)) : Go l Z EL n0 nr kn y bytes mL ret R h0 WS Q SF h k n pc Ls (.ref a :: st) := by
  intro p e s m args below meth c T hR
  obtain ⟨⟨hx, hby, hml, hown, hnm, hret, hlk, hkn⟩, vm0, k0, locs, X, e0, C⟩ := hR
  have hZ : Z.Warmed39 (s.setVm vm0).vm := C.1
  have hown' : (s.setVm vm0).vm.findClass y.cls = some m.cls := by rw [show (s.setVm vm0).vm = vm0 from rfl, C.2.1.1.1.alike.findClass]; exact hown
  obtain ⟨T', h', X', e', E, AA, EE, st'⟩ := Jvm.RoadKit.cloneH X hx hZ hown' w1 w2 w3 w4 w5 w6 e0 F E0 (g := mkF m pc Ls (.ref a :: st)) rfl (by rw [hml]; exact hsz) rfl (hb hby hd) hf (W := W) (cap := cap) (by show 2 * 0 + _ ≤ _; rw [Nat.mul_zero, Nat.zero_add]; exact hW) hl hcap hc hsl
  have hlt : h.size < h'.size := EE.lt
  obtain ⟨t, o, hs, r⟩ := K h' h.size rfl C.2.2.2.2.2.2.2.1.1 E AA EE p e s m args below meth c T' ⟨⟨hx, hby, hml, hown, hnm, hret, hlk, hkn⟩, vm0, k0, locs, X', e', C.push E hlt⟩
  exact ⟨t, o, st' _ (by subst hq; exact hs), r⟩
theorem Go.putF {R0 O nf d host CC : String} {index kk : Nat} {ty : FieldType} {a : Addr} {v old : Value} (hd : decode bytes pc = .ok (.putfield index, 3)) (hq : pc + 3 = pc') (ha : a ∈ SF) (w : (Jvm.Cond.fieldLink y.cls index R0 nf d).before a0 Z = true ∨ (Jvm.Cond.fieldLinkNest y.cls index R0 nf d host).before a0 Z = true) (via : Via Z R0 O nf d) (F : Fld Z h a O nf d old) (E : Exa Z h a CC) (L : (Jvm.Cond.lays CC O nf d).before a0 Z = true ∨ ((Jvm.Cond.laysFinal CC O nf d).before a0 Z = true ∧ y.cls = O ∧ y.name = "<init>")) (wi : (Jvm.Cond.instantiable CC kk).before a0 Z = true) (hty : parseFieldDescriptor d = some ty) (hn : narrow ty v = v) (hf : fits ty v = true)
    (K : ∀ h', Wr h h' a (Jvm.RoadKit.slotOf Z O nf d) v → Go l Z EL n0 nr kn y bytes mL ret R h0 WS Q SF h' k n pc' Ls st) : Go l Z EL n0 nr kn y bytes mL ret R h0 WS Q SF h k n pc Ls (v :: .ref a :: st) := by
  intro p e s m args below meth c T hR
  obtain ⟨⟨hx, hby, hml, hown, hnm, hret, hlk, hkn⟩, vm0, k0, locs, X, e0, C⟩ := hR
  have hZ : Z.Warmed39 (s.setVm vm0).vm := C.1
  have hown' : (s.setVm vm0).vm.findClass y.cls = some m.cls := by rw [show (s.setVm vm0).vm = vm0 from rfl, C.2.1.1.1.alike.findClass]; exact hown
  have L' := L.imp id (fun q => (⟨q.1, q.2.1, hnm.trans q.2.2⟩ : _ ∧ _ ∧ meth.name = "<init>"))
  obtain ⟨T', h', X', e', W', st'⟩ := Jvm.RoadKit.putF X hx hZ hown' w via e0 F E L' wi hty hn hf (g := mkF m pc Ls (v :: .ref a :: st)) rfl rfl (hb hby hd)
  obtain ⟨t, o, hs, r⟩ := K h' W' p e s m args below meth c T' ⟨⟨hx, hby, hml, hown, hnm, hret, hlk, hkn⟩, vm0, k0, _, X', e', C.wr W' ha⟩
  exact ⟨t, o, st' _ (by subst hq; exact hs), r⟩
theorem Go.putFN {R0 O nf d CC : String} {index kk : Nat} {ty : FieldType} {a : Addr} {v v' old : Value} (hd : decode bytes pc = .ok (.putfield index, 3)) (hq : pc + 3 = pc') (ha : a ∈ SF) (w : (Jvm.Cond.fieldLink y.cls index R0 nf d).before a0 Z = true) (via : Via Z R0 O nf d) (F : Fld Z h a O nf d old) (E : Exa Z h a CC) (L : (Jvm.Cond.lays CC O nf d).before a0 Z = true ∨ ((Jvm.Cond.laysFinal CC O nf d).before a0 Z = true ∧ y.cls = O ∧ y.name = "<init>")) (wi : (Jvm.Cond.instantiable CC kk).before a0 Z = true) (hty : parseFieldDescriptor d = some ty) (hn : narrow ty v = v') (hf : fits ty v' = true)
    (K : ∀ h', Wr h h' a (Jvm.RoadKit.slotOf Z O nf d) v' → Go l Z EL n0 nr kn y bytes mL ret R h0 WS Q SF h' k n pc' Ls st) : Go l Z EL n0 nr kn y bytes mL ret R h0 WS Q SF h k n pc Ls (v :: .ref a :: st) := by
  intro p e s m args below meth c T hR
  obtain ⟨⟨hx, hby, hml, hown, hnm, hret, hlk, hkn⟩, vm0, k0, locs, X, e0, C⟩ := hR
  have hZ : Z.Warmed39 (s.setVm vm0).vm := C.1
  have hown' : (s.setVm vm0).vm.findClass y.cls = some m.cls := by rw [show (s.setVm vm0).vm = vm0 from rfl, C.2.1.1.1.alike.findClass]; exact hown
  have L' := L.imp id (fun q => (⟨q.1, q.2.1, hnm.trans q.2.2⟩ : _ ∧ _ ∧ meth.name = "<init>"))
  obtain ⟨T', h', X', e', W', st'⟩ := Jvm.RoadKit.putFN X hx hZ hown' w via e0 F E L' wi hty hn hf (g := mkF m pc Ls (v :: .ref a :: st)) rfl rfl (hb hby hd)
  obtain ⟨t, o, hs, r⟩ := K h' W' p e s m args below meth c T' ⟨⟨hx, hby, hml, hown, hnm, hret, hlk, hkn⟩, vm0, k0, _, X', e', C.wr W' ha⟩
  exact ⟨t, o, st' _ (by subst hq; exact hs), r⟩
theorem Go.castore {a : Addr} {cl : Cell} {j x : Int32} (hd : decode bytes pc = .ok (.castore, 1)) (hq : pc + 1 = pc') (ha : a ∈ SF) (F : Arr Z h a cl .char) (hj : ¬ (j < 0 ∨ cl.slots.size ≤ j.toNatClampNeg))
    (K : ∀ h', Wr h h' a j.toNatClampNeg (.int (nar .char x)) → Go l Z EL n0 nr kn y bytes mL ret R h0 WS Q SF h' k n pc' Ls st) : Go l Z EL n0 nr kn y bytes mL ret R h0 WS Q SF h k n pc Ls (.int x :: .int j :: .ref a :: st) := by
  intro p e s m args below meth c T hR
  obtain ⟨⟨hx, hby, hml, hown, hnm, hret, hlk, hkn⟩, vm0, k0, locs, X, e0, C⟩ := hR
  have hZ : Z.Warmed39 (s.setVm vm0).vm := C.1
  have hown' : (s.setVm vm0).vm.findClass y.cls = some m.cls := by rw [show (s.setVm vm0).vm = vm0 from rfl, C.2.1.1.1.alike.findClass]; exact hown
  obtain ⟨T', h', X', e', W', st'⟩ := Jvm.RoadKit.stC X hx hZ e0 F hj (g := mkF m pc Ls (.int x :: .int j :: .ref a :: st)) rfl rfl (hb hby hd)
  obtain ⟨t, o, hs, r⟩ := K h' W' p e s m args below meth c T' ⟨⟨hx, hby, hml, hown, hnm, hret, hlk, hkn⟩, vm0, k0, _, X', e', C.wr W' ha⟩
  exact ⟨t, o, st' _ (by subst hq; exact hs), r⟩
theorem Go.castoreV {a : Addr} {cA : ClassId} {z j x : Int32} {vs : List Value} {dv : Value} {i : Nat} (hd : decode bytes pc = .ok (.castore, 1)) (hq : pc + 1 = pc') (ha : a ∈ SF) (F : Arv Z h a cA .char z vs dv) (hj : ¬ j < 0 ∧ j < z) (hji : j.toNatClampNeg = i) (hi : i < vs.length)
    (K : ∀ h', Wr h h' a j.toNatClampNeg (.int (nar .char x)) → Arv Z h' a cA .char z (vs.set i (.int (nar .char x))) dv → Go l Z EL n0 nr kn y bytes mL ret R h0 WS Q SF h' k n pc' Ls st) : Go l Z EL n0 nr kn y bytes mL ret R h0 WS Q SF h k n pc Ls (.int x :: .int j :: .ref a :: st) := by
  intro p e s m args below meth c T hR
  obtain ⟨⟨hx, hby, hml, hown, hnm, hret, hlk, hkn⟩, vm0, k0, locs, X, e0, C⟩ := hR
  have hZ : Z.Warmed39 (s.setVm vm0).vm := C.1
  have hown' : (s.setVm vm0).vm.findClass y.cls = some m.cls := by rw [show (s.setVm vm0).vm = vm0 from rfl, C.2.1.1.1.alike.findClass]; exact hown
  obtain ⟨cl, F, q1, S, q3, H, G⟩ := F
  obtain ⟨T', h', X', e', W', st'⟩ := Jvm.RoadKit.stC X hx hZ e0 F (inb_of S hj) (g := mkF m pc Ls (.int x :: .int j :: .ref a :: st)) rfl rfl (hb hby hd)
  obtain ⟨t, o, hs, r⟩ := K h' W' (Arv.set F q1 S q3 H G (fits_nar_char x) W' i hji hi) p e s m args below meth c T' ⟨⟨hx, hby, hml, hown, hnm, hret, hlk, hkn⟩, vm0, k0, _, X', e', C.wr W' ha⟩
  exact ⟨t, o, st' _ (by subst hq; exact hs), r⟩
theorem Go.bastore {a : Addr} {cl : Cell} {j x : Int32} (hd : decode bytes pc = .ok (.bastore, 1)) (hq : pc + 1 = pc') (ha : a ∈ SF) (F : Arr Z h a cl .byte) (hj : ¬ (j < 0 ∨ cl.slots.size ≤ j.toNatClampNeg))
    (K : ∀ h', Wr h h' a j.toNatClampNeg (.int (nar .byte x)) → Go l Z EL n0 nr kn y bytes mL ret R h0 WS Q SF h' k n pc' Ls st) : Go l Z EL n0 nr kn y bytes mL ret R h0 WS Q SF h k n pc Ls (.int x :: .int j :: .ref a :: st) := by
  intro p e s m args below meth c T hR
  obtain ⟨⟨hx, hby, hml, hown, hnm, hret, hlk, hkn⟩, vm0, k0, locs, X, e0, C⟩ := hR
  have hZ : Z.Warmed39 (s.setVm vm0).vm := C.1
  have hown' : (s.setVm vm0).vm.findClass y.cls = some m.cls := by rw [show (s.setVm vm0).vm = vm0 from rfl, C.2.1.1.1.alike.findClass]; exact hown
  obtain ⟨T', h', X', e', W', st'⟩ := Jvm.RoadKit.stB X hx hZ e0 F hj (g := mkF m pc Ls (.int x :: .int j :: .ref a :: st)) rfl rfl (hb hby hd)
  obtain ⟨t, o, hs, r⟩ := K h' W' p e s m args below meth c T' ⟨⟨hx, hby, hml, hown, hnm, hret, hlk, hkn⟩, vm0, k0, _, X', e', C.wr W' ha⟩
  exact ⟨t, o, st' _ (by subst hq; exact hs), r⟩
theorem Go.bastoreV {a : Addr} {cA : ClassId} {z j x : Int32} {vs : List Value} {dv : Value} {i : Nat} (hd : decode bytes pc = .ok (.bastore, 1)) (hq : pc + 1 = pc') (ha : a ∈ SF) (F : Arv Z h a cA .byte z vs dv) (hj : ¬ j < 0 ∧ j < z) (hji : j.toNatClampNeg = i) (hi : i < vs.length)
    (K : ∀ h', Wr h h' a j.toNatClampNeg (.int (nar .byte x)) → Arv Z h' a cA .byte z (vs.set i (.int (nar .byte x))) dv → Go l Z EL n0 nr kn y bytes mL ret R h0 WS Q SF h' k n pc' Ls st) : Go l Z EL n0 nr kn y bytes mL ret R h0 WS Q SF h k n pc Ls (.int x :: .int j :: .ref a :: st) := by
  intro p e s m args below meth c T hR
  obtain ⟨⟨hx, hby, hml, hown, hnm, hret, hlk, hkn⟩, vm0, k0, locs, X, e0, C⟩ := hR
  have hZ : Z.Warmed39 (s.setVm vm0).vm := C.1
  have hown' : (s.setVm vm0).vm.findClass y.cls = some m.cls := by rw [show (s.setVm vm0).vm = vm0 from rfl, C.2.1.1.1.alike.findClass]; exact hown
  obtain ⟨cl, F, q1, S, q3, H, G⟩ := F
  obtain ⟨T', h', X', e', W', st'⟩ := Jvm.RoadKit.stB X hx hZ e0 F (inb_of S hj) (g := mkF m pc Ls (.int x :: .int j :: .ref a :: st)) rfl rfl (hb hby hd)
  obtain ⟨t, o, hs, r⟩ := K h' W' (Arv.set F q1 S q3 H G (fits_nar_byte x) W' i hji hi) p e s m args below meth c T' ⟨⟨hx, hby, hml, hown, hnm, hret, hlk, hkn⟩, vm0, k0, _, X', e', C.wr W' ha⟩
  exact ⟨t, o, st' _ (by subst hq; exact hs), r⟩
theorem Go.aastore {a : Addr} {cl : Cell} {ty : FieldType} {j : Int32} {v : Value} (hd : decode bytes pc = .ok (.aastore, 1)) (hq : pc + 1 = pc') (ha : a ∈ SF) (F : Arr Z h a cl ty) (hj : ¬ (j < 0 ∨ cl.slots.size ≤ j.toNatClampNeg)) (hty : ty.isReference = true) (S : Sto Z h a v)
    (K : ∀ h', Wr h h' a j.toNatClampNeg v → Go l Z EL n0 nr kn y bytes mL ret R h0 WS Q SF h' k n pc' Ls st) : Go l Z EL n0 nr kn y bytes mL ret R h0 WS Q SF h k n pc Ls (v :: .int j :: .ref a :: st) := by
  intro p e s m args below meth c T hR
  obtain ⟨⟨hx, hby, hml, hown, hnm, hret, hlk, hkn⟩, vm0, k0, locs, X, e0, C⟩ := hR
  have hZ : Z.Warmed39 (s.setVm vm0).vm := C.1
  have hown' : (s.setVm vm0).vm.findClass y.cls = some m.cls := by rw [show (s.setVm vm0).vm = vm0 from rfl, C.2.1.1.1.alike.findClass]; exact hown
  obtain ⟨T', h', X', e', W', st'⟩ := Jvm.RoadKit.stR X hx hZ e0 F hj hty S (g := mkF m pc Ls (v :: .int j :: .ref a :: st)) rfl rfl (hb hby hd)
  obtain ⟨t, o, hs, r⟩ := K h' W' p e s m args below meth c T' ⟨⟨hx, hby, hml, hown, hnm, hret, hlk, hkn⟩, vm0, k0, _, X', e', C.wr W' ha⟩
  exact ⟨t, o, st' _ (by subst hq; exact hs), r⟩
theorem Go.aastoreV {a : Addr} {cA : ClassId} {ty : FieldType} {z j : Int32} {v : Value} {vs : List Value} {dv : Value} {i : Nat} (hd : decode bytes pc = .ok (.aastore, 1)) (hq : pc + 1 = pc') (ha : a ∈ SF) (F : Arv Z h a cA ty z vs dv) (hty : ty.isReference = true) (hft : fits ty v = true) (S : ∀ cl, Arr Z h a cl ty → cl.cls = cA → Sto Z h a v) (hj : ¬ j < 0 ∧ j < z) (hji : j.toNatClampNeg = i) (hi : i < vs.length)
    (K : ∀ h', Wr h h' a j.toNatClampNeg v → Arv Z h' a cA ty z (vs.set i v) dv → Go l Z EL n0 nr kn y bytes mL ret R h0 WS Q SF h' k n pc' Ls st) : Go l Z EL n0 nr kn y bytes mL ret R h0 WS Q SF h k n pc Ls (v :: .int j :: .ref a :: st) := by
  intro p e s m args below meth c T hR
  obtain ⟨⟨hx, hby, hml, hown, hnm, hret, hlk, hkn⟩, vm0, k0, locs, X, e0, C⟩ := hR
  have hZ : Z.Warmed39 (s.setVm vm0).vm := C.1
  have hown' : (s.setVm vm0).vm.findClass y.cls = some m.cls := by rw [show (s.setVm vm0).vm = vm0 from rfl, C.2.1.1.1.alike.findClass]; exact hown
  obtain ⟨cl, F, q1, S0, q3, H, G⟩ := F
  obtain ⟨T', h', X', e', W', st'⟩ := Jvm.RoadKit.stR X hx hZ e0 F (inb_of S0 hj) hty (S cl F q1) (g := mkF m pc Ls (v :: .int j :: .ref a :: st)) rfl rfl (hb hby hd)
  obtain ⟨t, o, hs, r⟩ := K h' W' (Arv.set F q1 S0 q3 H G hft W' i hji hi) p e s m args below meth c T' ⟨⟨hx, hby, hml, hown, hnm, hret, hlk, hkn⟩, vm0, k0, _, X', e', C.wr W' ha⟩
  exact ⟨t, o, st' _ (by subst hq; exact hs), r⟩
theorem Go.cpA {index W : Nat} {a b : Addr} {kk k' : ClassId} {ty ty' : FieldType} {z z' sp dp nn : Int32} {vs vd us : List Value} {dv dd : Value} (hd : decode bytes pc = .ok (.invokestatic index, 3)) (hq : pc + 3 = pc') (hb' : b ∈ SF) (w1 : (Jvm.Cond.methodLink y.cls index Jvm.Stand.acN).before a0 Z = true) (w2 : (Jvm.Cond.native Jvm.Stand.acN).before a0 Z = true) (w3 : (Jvm.Cond.static Jvm.Stand.acN).before a0 Z = true) (w4 : (Jvm.Cond.initialized "java/lang/System").before a0 Z = true)
    (AA : Arv Z h a kk ty z vs dv) (BB : Arv Z h b k' ty' z' vd dd) (hty : (ty = ty' ∧ refKind ty = false) ∨ (refKind ty = true ∧ refKind ty' = true ∧ StoL Z h b us)) (h1 : ¬ sp < 0) (h2 : ¬ dp < 0) (h3 : ¬ nn < 0) (h4 : sp.toNatClampNeg + nn.toNatClampNeg ≤ z.toNatClampNeg) (h5 : dp.toNatClampNeg + nn.toNatClampNeg ≤ z'.toNatClampNeg)
    (hus : us = (List.range nn.toNatClampNeg).map fun i => vs.getD (sp.toNatClampNeg + i) dv) (hvl : dp.toNatClampNeg + nn.toNatClampNeg ≤ vd.length) (hsz : Ls.size = mL) (hf : 1 ≤ R.frames) (hW : (st.map fun v => v.category).sum ≤ W) (hl : W + (nativeFrameWords "java/lang/System" "arraycopy" 5 + 11) ≤ R.locals)
    (K : ∀ h', Keep h h' [b] → Arv Z h' b k' ty' z' (vd.take dp.toNatClampNeg ++ us ++ vd.drop (dp.toNatClampNeg + nn.toNatClampNeg)) dd → Go l Z EL n0 nr kn y bytes mL ret R h0 WS Q SF h' k n pc' Ls st) : Go l Z EL n0 nr kn y bytes mL ret R h0 WS Q SF h k n pc Ls (.int nn :: .int dp :: .ref b :: .int sp :: .ref a :: st) := by
  intro p e s m args below meth c T hR
  obtain ⟨⟨hx, hby, hml, hown, hnm, hret, hlk, hkn⟩, vm0, k0, locs, X, e0, C⟩ := hR
  have hZ : Z.Warmed39 (s.setVm vm0).vm := C.1
  have hown' : (s.setVm vm0).vm.findClass y.cls = some m.cls := by rw [show (s.setVm vm0).vm = vm0 from rfl, C.2.1.1.1.alike.findClass]; exact hown
  have N := C.2.2.1
  have ge := (C.2.2.2.2.1 b hb').1.1
  obtain ⟨T', h', L, X', e', FL, KK, BB', st'⟩ := Jvm.RoadKit.cpA X hx hZ hown' w1 w2 w3 w4 e0 AA BB hty h1 h2 h3 h4 h5 hus hvl N ge (g := mkF m pc Ls (.int nn :: .int dp :: .ref b :: .int sp :: .ref a :: st)) rfl (by rw [hml]; exact hsz) rfl (hb hby hd) hf (W := W) (by show 2 * 0 + _ ≤ _; rw [Nat.mul_zero, Nat.zero_add]; exact hW) hl
  have hSb := (C.2.2.2.2.1 b hb').2
  have C' : Cor Z EL n0 nr h0 WS SF h' s vm0 k0 L := by
    have q := C.keep (SN := []) (L := []) KK (fun x hx => by cases List.mem_singleton.mp hx; exact hb') (Fr.nil n0) (CHr.keep KK (fun x hx => by cases List.mem_singleton.mp hx; exact hSb) C.2.2.2.1.1) C.1 C.2.1.1 (Nat.le_trans C.2.1.2 KK.1) C.2.2.2.2.2.1 (fun x hx => nomatch hx)
    exact ⟨q.1, q.2.1, FL, q.2.2.2⟩
  obtain ⟨t, o, hs, r⟩ := K h' KK BB' p e s m args below meth c T' ⟨⟨hx, hby, hml, hown, hnm, hret, hlk, hkn⟩, vm0, k0, L, X', e', C'⟩
  exact ⟨t, o, st' _ (by subst hq; exact hs), r⟩
theorem Go.ldcS {text : String} {index nn : Nat} {vs : List Value} {z : Int32} (hnr : nr = false) (hd : decode bytes pc = .ok (.ldc index, 2)) (hq : pc + 2 = pc') (w : (Jvm.Cond.stringLink y.cls index text).before a0 Z = true) (wS : ∀ a ∈ Bundle.stringAtoms, a.before a0 Z = true) (hmem : (y.cls, index) ∈ EL) (ht : (∀ c ∈ text.toList, c.toNat < 256) ∧ text.toList.map (fun c => Value.int (Jvm.Lit.byteI c.toNat.toUInt16)) = vs) (hz : ¬ z < 0) (hzl : z.toNatClampNeg = vs.length) (hn : 4 * text.toList.length ≤ nn) (hbig : nn ≤ 536870912) (hc : k + 2 ≤ R.cells) (hl : n + (nn + 4) ≤ R.slots)
    (K : ∀ h' a b kb, Ext h h' → Exa Z h' a "java/lang/String" → Fld Z h' a "java/lang/String" "coder" "B" (.int 0) → Fld Z h' a "java/lang/String" "value" "[B" (.ref b) → Arv Z h' b kb .byte z vs (.int 0) → (∀ x ∈ SF, x ≠ a ∧ x ≠ b) → Go l Z EL n0 nr kn y bytes mL ret R h0 WS Q SF h' (k + 2) (n + (nn + 4)) pc' Ls (.ref a :: st)) : Go l Z EL n0 nr kn y bytes mL ret R h0 WS Q SF h k n pc Ls st := by
  intro p e s m args below meth c T hR
  obtain ⟨⟨hx, hby, hml, hown, hnm, hret, hlk, hkn⟩, vm0, k0, locs, X, e0, C⟩ := hR
  have hZ : Z.Warmed39 (s.setVm vm0).vm := C.1
  have hown' : (s.setVm vm0).vm.findClass y.cls = some m.cls := by rw [show (s.setVm vm0).vm = vm0 from rfl, C.2.1.1.1.alike.findClass]; exact hown
  obtain ⟨c1, ⟨c2, c2'⟩, c3, c4, c5, c6, c7, c8, c9, a1, hEL⟩ := C
  have hEL' : EW Z a0 EL := fun q hq => by
    obtain ⟨tx, hx1, hx2⟩ := hEL q hq
    exact ⟨tx, (by simpa [Jvm.Cond.before, Jvm.Cond.holds, Jvm.Cond.value] using hx1), hx2⟩
  obtain ⟨a, T', h', k1, b, kb, X', e', E, hS, hk, hW, hf, E1, E2, E3, E4, -, -, hC, -, hne, st'⟩ := Jvm.RoadKit.ldcCH X hx c1 hown' w wS e0 c2 c2' hEL' hmem c4.1 ht hz hzl (g := mkF m pc Ls st) rfl (hb hby hd) hn hbig hc hl
  have C' : Cor Z EL n0 nr h0 WS SF h' s T'.vm k1 locs := by
    refine ⟨hW, ⟨hS, hk⟩, c3, c4.trans hC, fun x hx => ⟨⟨(c5 x hx).1.1, Nat.lt_of_lt_of_le (c5 x hx).1.2.1 E.1, (c5 x hx).1.2.2⟩, hC.safe (c5 x hx).1.2.1 (c5 x hx).2⟩, (fun q => by rw [hnr] at q; cases q), ⟨c7.1, Nat.le_trans c7.2.1 E.1, fun a c q => E.2 a c (c7.2.2 a c q)⟩, c8.ext E, c9, a1, hEL⟩
  obtain ⟨t, o, hs, r⟩ := K h' a b kb E E1 E2 E3 E4 (fun x hx => hne x (C'.2.2.2.2.1 x hx).2) p e s m args below meth c T' ⟨⟨hx, hby, hml, hown, hnm, hret, hlk, hkn⟩, T'.vm, k1, locs, X', e', C'⟩
  exact ⟨t, o, st' _ (by subst hq; exact hs), r⟩
theorem Go.ldcO {text : String} {index nn : Nat} (hnr : nr = false) (hd : decode bytes pc = .ok (.ldc index, 2)) (hq : pc + 2 = pc') (w : (Jvm.Cond.stringLink y.cls index text).before a0 Z = true) (wS : ∀ a ∈ Bundle.stringAtoms, a.before a0 Z = true) (hn : 4 * text.toList.length ≤ nn) (hbig : nn ≤ 536870912) (hc : k + 2 ≤ R.cells) (hl : n + (nn + 4) ≤ R.slots)
    (K : ∀ h' a, Ext h h' → Go l Z EL n0 nr kn y bytes mL ret R h0 WS Q SF h' (k + 2) (n + (nn + 4)) pc' Ls (.ref a :: st)) : Go l Z EL n0 nr kn y bytes mL ret R h0 WS Q SF h k n pc Ls st := by
  intro p e s m args below meth c T hR
  obtain ⟨⟨hx, hby, hml, hown, hnm, hret, hlk, hkn⟩, vm0, k0, locs, X, e0, C⟩ := hR
  have hZ : Z.Warmed39 (s.setVm vm0).vm := C.1
  have hown' : (s.setVm vm0).vm.findClass y.cls = some m.cls := by rw [show (s.setVm vm0).vm = vm0 from rfl, C.2.1.1.1.alike.findClass]; exact hown
  obtain ⟨c1, ⟨c2, c2'⟩, c3, c4, c5, c6, c7, c8, c9, a1, hEL⟩ := C
  have hEL' : EW Z a0 EL := fun q hq => by
    obtain ⟨tx, hx1, hx2⟩ := hEL q hq
    exact ⟨tx, (by simpa [Jvm.Cond.before, Jvm.Cond.holds, Jvm.Cond.value] using hx1), hx2⟩
  obtain ⟨a, T', h', k1, X', e', E, hS, hk, hW, hf, hC, -, st'⟩ := Jvm.RoadKit.ldcOH X hx c1 hown' w wS e0 c2 c2' hEL' c4.1 (g := mkF m pc Ls st) rfl (hb hby hd) hn hbig hc hl
  have C' : Cor Z EL n0 nr h0 WS SF h' s T'.vm k1 locs := by
    refine ⟨hW, ⟨hS, hk⟩, c3, c4.trans hC, fun x hx => ⟨⟨(c5 x hx).1.1, Nat.lt_of_lt_of_le (c5 x hx).1.2.1 E.1, (c5 x hx).1.2.2⟩, hC.safe (c5 x hx).1.2.1 (c5 x hx).2⟩, (fun q => by rw [hnr] at q; cases q), ⟨c7.1, Nat.le_trans c7.2.1 E.1, fun a c q => E.2 a c (c7.2.2 a c q)⟩, c8.ext E, c9, a1, hEL⟩
  obtain ⟨t, o, hs, r⟩ := K h' a E p e s m args below meth c T' ⟨⟨hx, hby, hml, hown, hnm, hret, hlk, hkn⟩, T'.vm, k1, locs, X', e', C'⟩
  exact ⟨t, o, st' _ (by subst hq; exact hs), r⟩
theorem Go.tsw {i : Int32} {dflt low high : Int} {offs : Array Int} {len : Nat} {o : Int} (hd : decode bytes pc = .ok (.tableswitch dflt low high offs, len)) (hin : ¬ (i.toInt < low ∨ i.toInt > high)) (hoff : offs[(i.toInt - low).toNat]? = some o) (ho : 0 ≤ (pc : Int) + o) (hq : ((pc : Int) + o).toNat = pc') (K : Go l Z EL n0 nr kn y bytes mL ret R h0 WS Q SF h k n pc' Ls st) : Go l Z EL n0 nr kn y bytes mL ret R h0 WS Q SF h k n pc Ls (.int i :: st) :=
  Go.plain (fun p e below T m c target hA hx hb hk => XS.tswIn hA hx rfl (pc0 := pc) (pc' := pc') rfl (hb ▸ hd) rfl hin hoff ho hq hk) K
theorem Go.retV (hd : decode bytes pc = .ok (.return_, 1)) (hr0 : ret = none) (hk : k ≤ R.cells) (hn : n ≤ R.slots) (SN : List Addr) (hSN : ∀ x ∈ SN, x ∈ SF ∧ h0.size ≤ x) (hQ : Q none h SN) : Go l Z EL n0 nr kn y bytes mL ret R h0 WS Q SF h k n pc Ls [] := by
  intro p e s m args below meth c T hR
  obtain ⟨⟨hx, hby, hml, hown, hnm, hret, hlk, hkn⟩, vm0, k0, locs, X, e0, C⟩ := hR
  have hZ : Z.Warmed39 (s.setVm vm0).vm := C.1
  have hown' : (s.setVm vm0).vm.findClass y.cls = some m.cls := by rw [show (s.setVm vm0).vm = vm0 from rfl, C.2.1.1.1.alike.findClass]; exact hown
  obtain ⟨c1, ⟨c2, c2'⟩, c3, c4, c5, c6, c7, c8, c9, a1, hEL⟩ := C
  obtain ⟨fs, hr, hrun, hended, hE⟩ := X.leaveW c2 (by rw [e0]; exact c2') (v := none) (fun _ => rfl) hlk
  have A1 := CHv.at X c1 hEL c4.1
  refine ⟨_, _, X.returnOut hx (hret.trans hr0) (hb hby hd) hr, hrun, hended, _, locs, SN, rfl, by show Q _ T.heap SN; rw [e0]; exact hQ, c3, by show Keep h0 T.heap WS; rw [e0]; exact c8, fun x hx => ?_, ?_, fun q => State.WarmedH.trans (t := s.setVm vm0) (c6 q) X.warmed, ⟨hE.1, hE.2.1, hE.2.2.1, hE.2.2.2.mono hk hn⟩⟩
  · show (h0.size ≤ x ∧ x < T.heap.size) ∧ Safe Z EL T.vm T.heap x
    rw [e0]
    exact ⟨⟨(hSN x hx).2, (c5 x (hSN x hx).1).1.2.1⟩, A1.safe (c5 x (hSN x hx).1).1.2.1 (c5 x (hSN x hx).1).2⟩
  · show CHr Z EL s.vm h0 T.vm T.heap
    rw [e0]
    exact c4.trans A1
theorem Go.retW {v : Value} {ty : FieldType} {i : Instr} (hd : decode bytes pc = .ok (i, 1)) (hr0 : ret = some ty) (hnw : narrow ty v = v) (hi : (i = .ireturn ∧ (ty = .int ∨ ty = .boolean ∨ ty = .byte ∨ ty = .char ∨ ty = .short) ∧ ∃ z, v = .int z) ∨ (i = .lreturn ∧ ty = .long ∧ ∃ z, v = .long z) ∨ (i = .dreturn ∧ ty = .double ∧ ∃ z, v = .double z) ∨ (i = .freturn ∧ ty = .float ∧ ∃ z, v = .float z) ∨ (i = .areturn ∧ ty.isReference = true ∧ v.isRef = true)) (hk : k ≤ R.cells) (hn : n ≤ R.slots) (SN : List Addr) (hSN : ∀ x ∈ SN, x ∈ SF ∧ h0.size ≤ x) (hQ : Q (some v) h SN) : Go l Z EL n0 nr kn y bytes mL ret R h0 WS Q SF h k n pc Ls (v :: st) := by
  intro p e s m args below meth c T hR
  obtain ⟨⟨hx, hby, hml, hown, hnm, hret, hlk, hkn⟩, vm0, k0, locs, X, e0, C⟩ := hR
  have hZ : Z.Warmed39 (s.setVm vm0).vm := C.1
  have hown' : (s.setVm vm0).vm.findClass y.cls = some m.cls := by rw [show (s.setVm vm0).vm = vm0 from rfl, C.2.1.1.1.alike.findClass]; exact hown
  obtain ⟨c1, ⟨c2, c2'⟩, c3, c4, c5, c6, c7, c8, c9, a1, hEL⟩ := C
  obtain ⟨fs, hr, hrun, hended, hE⟩ := X.leaveW c2 (by rw [e0]; exact c2') (v := some v) (fun q => by rw [hret, hr0] at q; cases q) hlk
  have A1 := CHv.at X c1 hEL c4.1
  refine ⟨_, _, Jvm.RoadKit.retOut X hx (hret.trans hr0) hnw hi (hb hby hd) hr, hrun, hended, _, locs, SN, rfl, by show Q _ T.heap SN; rw [e0]; exact hQ, c3, by show Keep h0 T.heap WS; rw [e0]; exact c8, fun x hx => ?_, ?_, fun q => State.WarmedH.trans (t := s.setVm vm0) (c6 q) X.warmed, ⟨hE.1, hE.2.1, hE.2.2.1, hE.2.2.2.mono hk hn⟩⟩
  · show (h0.size ≤ x ∧ x < T.heap.size) ∧ Safe Z EL T.vm T.heap x
    rw [e0]
    exact ⟨⟨(hSN x hx).2, (c5 x (hSN x hx).1).1.2.1⟩, A1.safe (c5 x (hSN x hx).1).1.2.1 (c5 x (hSN x hx).1).2⟩
  · show CHr Z EL s.vm h0 T.vm T.heap
    rw [e0]
    exact c4.trans A1
theorem Go.retI {z : Int32} (hd : decode bytes pc = .ok (.ireturn, 1)) (hr0 : ret = some .int) (hk : k ≤ R.cells) (hn : n ≤ R.slots) (SN : List Addr) (hSN : ∀ x ∈ SN, x ∈ SF ∧ h0.size ≤ x) (hQ : Q (some (.int z)) h SN) : Go l Z EL n0 nr kn y bytes mL ret R h0 WS Q SF h k n pc Ls (.int z :: st) :=
  Go.retW hd hr0 rfl (Or.inl ⟨rfl, Or.inl rfl, z, rfl⟩) hk hn SN hSN hQ
theorem Go.retA {v : Value} {ty : FieldType} (hd : decode bytes pc = .ok (.areturn, 1)) (hr0 : ret = some ty) (hty : ty.isReference = true) (hv : v.isRef = true) (hk : k ≤ R.cells) (hn : n ≤ R.slots) (SN : List Addr) (hSN : ∀ x ∈ SN, x ∈ SF ∧ h0.size ≤ x) (hQ : Q (some v) h SN) : Go l Z EL n0 nr kn y bytes mL ret R h0 WS Q SF h k n pc Ls (v :: st) :=
  Go.retW hd hr0 (by cases ty <;> first | (cases hty; done) | (rcases ref_cases hv with rfl | ⟨a, rfl⟩ <;> rfl)) (Or.inr (Or.inr (Or.inr (Or.inr ⟨rfl, hty, hv⟩)))) hk hn SN hSN hQ
theorem Go.retS {z : Int32} {ty : FieldType} (hd : decode bytes pc = .ok (.ireturn, 1)) (hr0 : ret = some ty) (hty : ty = .boolean ∨ ty = .byte ∨ ty = .char ∨ ty = .short) (hnw : narrow ty (.int z) = .int z) (hk : k ≤ R.cells) (hn : n ≤ R.slots) (SN : List Addr) (hSN : ∀ x ∈ SN, x ∈ SF ∧ h0.size ≤ x) (hQ : Q (some (.int z)) h SN) : Go l Z EL n0 nr kn y bytes mL ret R h0 WS Q SF h k n pc Ls (.int z :: st) :=
  Go.retW hd hr0 hnw (Or.inl ⟨rfl, Or.inr hty, z, rfl⟩) hk hn SN hSN hQ
theorem Met.of_go {as' : Array Value} (hpl : plainFor y = true) (hef : ∀ m, entryFrame m as' mL = mkF m 0 Ls []) (G : (Z.heap.size = n0 ∧ Ext Z.heap h0) → (∀ x ∈ WS, n0 ≤ x ∧ x < h0.size) → Go l Z EL n0 nr kn y bytes mL ret R h0 WS Q WS h0 0 0 0 Ls []) : Met l Z EL n0 nr kn y bytes mL ret R WS as' h0 Q := by
  intro ws
  refine MetFree.of_bodySF hpl hisR ?_
  intro p e s m args below meth c s₁ Bd hml0 hP hK
  obtain ⟨rfl, hZ, hh, hC, hS, hO, hEL⟩ := hP
  have X0 : Stand p l e R s m args below meth c s₁ [] 0 0 := Stand.of_body Bd
  have e0 : s₁.heap = h0 := by rw [← hh, Bd.state]; rfl
  have hnm := (name_of_methodNamed Bd.named Bd.method).1
  rw [hef m]
  exact G hO (fun x hx => (hS x hx).1) p e s m args below meth c s₁ ⟨⟨Bd.exec, Bd.bytes, hml0, findClass_of_methodNamed Bd.named, hnm, Bd.returns, BodyLoose.notSynchronized Bd, hK⟩, s.vm, 0, [], X0, e0,
    hZ, ⟨(State.WarmedH.refl s).since 0, Nat.zero_le _⟩, Fr.nil n0, CHr.refl hC, fun x hx => ⟨⟨(hS x hx).1.1, (hS x hx).1.2, Or.inl hx⟩, (hS x hx).2⟩, fun _ => State.WarmedH.refl s, hO, Keep.refl _ _, hh, hEL⟩
theorem Pays.of_met {z : MethodName} {zb : ByteArray} {zL : Nat} {zr : Option FieldType} {rm : Room} {len W : Nat} {ws : List Addr} {as' : Array Value} {Q' : Option Value → Heap → List Addr → Prop} (M : Met l Z EL n0 nr kn z zb zL zr rm ws as' h Q') (wc : (Jvm.Cond.code z zb zL zr).before a0 Z = true) (wz : (Jvm.Cond.initialized z.cls).before a0 Z = true) (hf : rm.frames + 1 ≤ R.frames) (hl : W + (zL + 11) + rm.locals ≤ R.locals) :
    Pays l Z EL n0 nr kn R len z W rm.cells rm.slots ws as' h Q' := by
  intro p e below s args vm0 hx hZ hC hS hO hEL hkn
  obtain ⟨a1, hE1⟩ := hEL
  refine BackS.of_freeWG (bytes := zb) (maxL := zL) (ret := zr) (E := fun _ first o t L kk nn => kk = rm.cells ∧ nn = rm.slots ∧ ∃ v SN, o = .returned v ∧ Q' v t.heap SN ∧ Fr n0 L ∧ Keep h t.heap ws ∧ (∀ x ∈ SN, (h.size ≤ x ∧ x < t.heap.size) ∧ Safe Z EL t.vm t.heap x) ∧ CHr Z EL first.vm h t.vm t.heap ∧ (nr = true → first.WarmedH t.vm)) (M []) hf hl ?_ ?_ ?_ ?_ ?_
  · intro m meth c A a Y hp
    have hU : Z.Warmed39 A.U.vm := wtrans (s := s.setVm vm0) hZ Y.warmed
    exact ⟨by show (Jvm.Cond.and _ .tt).before a A.U = true; rw [Cond.before_and, mv hU wc]; rfl, mv hU wc, mv hU wz, hp.2.2.1, hp.2.2.2⟩
  · intro m meth c A a g mk Y hp
    have A1 := CHv.at Y hZ hE1 hC
    exact ⟨hp.1, wtrans (s := s.setVm vm0) hZ Y.warmed, hp.2.1, A1.1, fun x hx => ⟨(hS x hx).1, A1.safe (hS x hx).1.2 (hS x hx).2⟩, hO, a1, hE1⟩
  · intro m meth c A a g mk Y hp hg q
    exact known_frames Y hg (hkn q).1 (hkn q).2
  · rintro a first o t ⟨v, L, SN, h1, h2, h3, h4, h5, h6, h7, h8⟩
    exact ⟨L, _, _, h8, rfl, rfl, v, SN, h1, h2, h3, h4, h5, h6, h7⟩
  · rintro m meth c A a g mk v t L kk nn Y hp - - ⟨e1, e2, v', SN, e3, e4, e5, e6, e7, e8, e9⟩
    cases e3
    subst e1 e2
    exact ⟨L, SN, e4, e5, e6, e7, (CHv.at Y hZ hE1 hC).trans e8, fun q => State.WarmedH.trans (t := A.U) Y.warmed (e9 q), rfl, rfl, rfl⟩
theorem Pays.of_back {z : MethodName} {len W ck cn : Nat} {ws : List Addr} {as' : Array Value} {Q' : Option Value → Heap → List Addr → Prop}
    (B : ∀ (p : Program) (e : Env) (below : List Frame) (s : State) (args : Array Value), p.tables.exec = Jvm.exec → Z.Warmed39 s.vm → (Z.heap.size = n0 ∧ Ext Z.heap h) → (∀ x ∈ ws, n0 ≤ x ∧ x < h.size) → Back l R p e below s args z len W (fun A a => a = as' ∧ A.U.heap = h ∧ A.cells + ck ≤ R.cells ∧ A.slots + cn ≤ R.slots) (fun A _ v B => ∃ L, Q' v B.U.heap [] ∧ Fr n0 L ∧ Keep h B.U.heap ws ∧ B.locs = A.locs ++ L ∧ B.cells = A.cells + ck ∧ B.slots = A.slots + cn)) :
    Pays l Z EL n0 nr kn R len z W ck cn ws as' h Q' := by
  intro p e below s args vm0 hx hZ hC hS hO hEL hkn
  obtain ⟨a1, hE1⟩ := hEL
  intro m meth c A g ig mk a X hg hsize hdg hW hn hp
  obtain ⟨v, B', X', ⟨L, q1, q2, q3, q4, q5, q6⟩, hst⟩ := B p e below (s.setVm vm0) args hx hZ hO (fun x hx => (hS x hx).1) m meth c A g ig mk a X hg hsize hdg hW hn hp
  have A1 : CHr Z EL vm0 h vm0 B'.U.heap := CHr.keep q3 (fun x hx => (hS x hx).2) hC
  have A2 := CHv.at X' hZ hE1 A1.1
  exact ⟨v, B', X'.retabled X'.warmed.wide, X'.warmed.since _, by rw [hp.2.1]; exact q3.1, ⟨L, [], q1, q2, q3, fun x hx => (nomatch hx), A1.trans A2, fun _ => X'.warmed, q4, q5, q6⟩, hst⟩
theorem Go.after {p : Program} {e : Env} {m : MethodId} {args : Array Value} {below : List Frame} {meth : Method} {c : Code} {T : State} {len ck cn : Nat} {ws : List Addr} {as' : Array Value} {Q' : Option Value → Heap → List Addr → Prop} {s₀ : State}
    (hA : p.tables.exec = Jvm.exec ∧ c.code = bytes ∧ c.maxLocals = mL ∧ s.vm.findClass y.cls = some m.cls ∧ meth.name = y.name ∧ meth.sig.returnType = ret ∧ meth.locks = false ∧ (kn = true → s.vm.MethodsKnown ∧ s.vm.FramesKnown below)) (e0 : T.heap = h) (C : Cor Z EL n0 nr h0 WS SF h s vm0 k0 locs) (hws : ∀ x ∈ ws, x ∈ SF)
    (H : ∃ (v : Option Value) (vm₁ : Vm) (B : Pt), (s.setVm vm0).WarmedH vm₁ ∧ Stand p l e R ((s.setVm vm0).setVm B.U.vm) m args below meth c B.U B.locs B.cells B.slots ∧ (s.setVm vm0).Since B.U.vm B.U.heap.size ∧ T.heap.size ≤ B.U.heap.size ∧ (∃ L SN, Q' v B.U.heap SN ∧ Fr n0 L ∧ Keep h B.U.heap ws ∧ (∀ x ∈ SN, (h.size ≤ x ∧ x < B.U.heap.size) ∧ Safe Z EL B.U.vm B.U.heap x) ∧ CHr Z EL vm0 h B.U.vm B.U.heap ∧ (nr = true → (s.setVm vm0).WarmedH B.U.vm) ∧ B.locs = locs ++ L ∧ B.cells = k + ck ∧ B.slots = n + cn) ∧
      Steps p.tables e below s₀ (B.U.setTop { mkF m pc Ls st with pc := pc + len, stack := v.toList ++ rest }))
    (hq : pc + len = pc') (K : ∀ v h' SN, Keep h h' ws → h0.size ≤ h.size → Q' v h' SN → Go l Z EL n0 nr kn y bytes mL ret R h0 WS Q (SN ++ SF) h' (k + ck) (n + cn) pc' Ls (v.toList ++ rest)) : ∃ t o, Steps p.tables e below s₀ t ∧ t.status = .running ∧ Ended t below o ∧ Pst Z EL n0 nr R h0 WS Q s o t := by
  obtain ⟨v, vm₁, ⟨T', L', kk, nn⟩, -, X', hS, hle, ⟨L, SN, h1, h2, h3, h4, h5, h6, h7, h8, h9⟩, hst⟩ := H
  dsimp only [Pt.U, Pt.locs, Pt.cells, Pt.slots] at X' hS hle h1 h3 h4 h5 h6 h7 h8 h9 hst
  subst h7 h8 h9 hq
  obtain ⟨t, o, hs, r⟩ := K v T'.heap SN h3 C.2.2.2.2.2.2.2.1.1 h1 p e s m args below meth c T' ⟨hA, T'.vm, T'.heap.size, _, X', rfl, C.keep h3 hws h2 h5 (State.Warmed39.trans (t := s.setVm vm0) C.1 hS.1) (C.2.1.1.trans hS (Nat.le_trans C.2.1.2 h3.1)) (Nat.le_refl _) (fun q => State.WarmedH.trans (t := s.setVm vm0) (C.2.2.2.2.2.1 q) (h6 q)) h4⟩
  exact ⟨t, o, hst.trans hs, r⟩
theorem Go.callS {ck cn W : Nat} {ws : List Addr} {as' : Array Value} {Q' : Option Value → Heap → List Addr → Prop} {index : Nat} {z : MethodName} {zb : ByteArray} {zL : Nat} {zr : Option FieldType} {argsL : List Value} (hd : decode bytes pc = .ok (.invokestatic index, 3)) (hq : pc + 3 = pc') (w1 : (Jvm.Cond.methodLink y.cls index z).before a0 Z = true) (w2 : (Jvm.Cond.static z).before a0 Z = true) (w3 : (Jvm.Cond.initialized z.cls).before a0 Z = true) (w4 : (Jvm.Cond.code z zb zL zr).before a0 Z = true) (hy : z.cls ≠ "java/lang/invoke/MethodHandle" ∧ z.cls ≠ "java/lang/invoke/VarHandle") (PP : Pays l Z EL n0 nr kn R 3 z W ck cn ws as' h Q') (hsz : Ls.size = mL) (hst : st = argsL.reverse ++ rest) (hlen : ∀ sig, parseMethodDescriptor z.desc = some sig → argsL.length = sig.parameters.length) (has : argsL.toArray = as') (hW : (rest.map fun v => v.category).sum ≤ W) (hws : ∀ x ∈ ws, x ∈ SF) (hc : k + ck ≤ R.cells) (hl : n + cn ≤ R.slots)
    (K : ∀ v h' SN, Keep h h' ws → h0.size ≤ h.size → Q' v h' SN → Go l Z EL n0 nr kn y bytes mL ret R h0 WS Q (SN ++ SF) h' (k + ck) (n + cn) pc' Ls (v.toList ++ rest)) : Go l Z EL n0 nr kn y bytes mL ret R h0 WS Q SF h k n pc Ls st := by
  intro p e s m args below meth c T hR
  obtain ⟨⟨hx, hby, hml, hown, hnm, hret, hlk, hkn⟩, vm0, k0, locs, X, e0, C⟩ := hR
  have hZ : Z.Warmed39 (s.setVm vm0).vm := C.1
  have hown' : (s.setVm vm0).vm.findClass y.cls = some m.cls := by rw [show (s.setVm vm0).vm = vm0 from rfl, C.2.1.1.1.alike.findClass]; exact hown
  have hBK := PP p e below s args vm0 hx C.1 C.2.2.2.1.1 (fun x hx => ⟨⟨(C.2.2.2.2.1 x (hws x hx)).1.1, (C.2.2.2.2.1 x (hws x hx)).1.2.1⟩, (C.2.2.2.2.1 x (hws x hx)).2⟩) C.2.2.2.2.2.2.1 C.2.2.2.2.2.2.2.2.2 (fun q => ⟨Vm.MethodsKnown.alikeC C.2.1.1.1.alike (hkn q).1, Vm.FramesKnown.alikeC C.2.1.1.1.alike (hkn q).2⟩)
  refine Go.after (st := st) (args := args) (ck := ck) (cn := cn) (ws := ws) (as' := as') (Q' := Q') (rest := rest) ⟨hx, hby, hml, hown, hnm, hret, hlk, hkn⟩ e0 C hws ?_ hq K
  exact callSS X hx (y := z) hown' (mvT hZ w1) (mvT hZ w2) (mvT hZ w3) (mvT hZ w4) hy hBK (g := mkF m pc Ls st) rfl (by rw [hml]; exact hsz) (argsL := argsL) (rest := rest) hlen hst (by show 2 * 0 + _ ≤ _; rw [Nat.mul_zero, Nat.zero_add]; exact hW) (hb hby hd) (fun _ _ => ⟨has, e0, hc, hl⟩)
theorem Go.callI {ck cn W : Nat} {ws : List Addr} {as' : Array Value} {Q' : Option Value → Heap → List Addr → Prop} {index : Nat} {z : MethodName} {zb : ByteArray} {zL : Nat} {a : Addr} {argsL : List Value} (hd : decode bytes pc = .ok (.invokespecial index, 3)) (hq : pc + 3 = pc') (hi : z.name = "<init>") (w1 : (Jvm.Cond.methodLink y.cls index z).before a0 Z = true) (w2 : (Jvm.Cond.instanceMethod z).before a0 Z = true) (w4 : (Jvm.Cond.code z zb zL none).before a0 Z = true) (hy : z.cls ≠ "java/lang/invoke/MethodHandle" ∧ z.cls ≠ "java/lang/invoke/VarHandle") (PP : Pays l Z EL n0 nr kn R 3 z W ck cn ws as' h Q') (hsz : Ls.size = mL) (hst : st = argsL.reverse ++ .ref a :: rest) (hlen : ∀ sig, parseMethodDescriptor z.desc = some sig → argsL.length = sig.parameters.length) (has : (.ref a :: argsL).toArray = as') (hW : (rest.map fun v => v.category).sum ≤ W) (hws : ∀ x ∈ ws, x ∈ SF) (hc : k + ck ≤ R.cells) (hl : n + cn ≤ R.slots)
    (K : ∀ v h' SN, Keep h h' ws → h0.size ≤ h.size → Q' v h' SN → Go l Z EL n0 nr kn y bytes mL ret R h0 WS Q (SN ++ SF) h' (k + ck) (n + cn) pc' Ls (v.toList ++ rest)) : Go l Z EL n0 nr kn y bytes mL ret R h0 WS Q SF h k n pc Ls st := by
  intro p e s m args below meth c T hR
  obtain ⟨⟨hx, hby, hml, hown, hnm, hret, hlk, hkn⟩, vm0, k0, locs, X, e0, C⟩ := hR
  have hZ : Z.Warmed39 (s.setVm vm0).vm := C.1
  have hown' : (s.setVm vm0).vm.findClass y.cls = some m.cls := by rw [show (s.setVm vm0).vm = vm0 from rfl, C.2.1.1.1.alike.findClass]; exact hown
  have hBK := PP p e below s args vm0 hx C.1 C.2.2.2.1.1 (fun x hx => ⟨⟨(C.2.2.2.2.1 x (hws x hx)).1.1, (C.2.2.2.2.1 x (hws x hx)).1.2.1⟩, (C.2.2.2.2.1 x (hws x hx)).2⟩) C.2.2.2.2.2.2.1 C.2.2.2.2.2.2.2.2.2 (fun q => ⟨Vm.MethodsKnown.alikeC C.2.1.1.1.alike (hkn q).1, Vm.FramesKnown.alikeC C.2.1.1.1.alike (hkn q).2⟩)
  refine Go.after (st := st) (args := args) (ck := ck) (cn := cn) (ws := ws) (as' := as') (Q' := Q') (rest := rest) ⟨hx, hby, hml, hown, hnm, hret, hlk, hkn⟩ e0 C hws ?_ hq K
  exact X.specialBackS hx (y := z) hi hown' (mvT hZ w1) (mvT hZ w2) (mvT hZ w4) hy hBK (g := mkF m pc Ls st) rfl (by rw [hml]; exact hsz) (Steps.refl _) (a := a) (argsL := argsL) (rest := rest) hlen hst (by show 2 * 0 + _ ≤ _; rw [Nat.mul_zero, Nat.zero_add]; exact hW) (hb hby hd) (fun _ _ => ⟨has, e0, hc, hl⟩)
theorem Go.callV {ck cn W : Nat} {ws : List Addr} {as' : Array Value} {Q' : Option Value → Heap → List Addr → Prop} {index : Nat} {u z : MethodName} {CC : String} {a : Addr} {argsL : List Value} (hd : decode bytes pc = .ok (.invokevirtual index, 3)) (hq : pc + 3 = pc') (w1 : (Jvm.Cond.methodLink y.cls index u).before a0 Z = true) (w2 : (Jvm.Cond.declares u).before a0 Z = true) (hnf : ∀ (s : State), Z.Warmed39 s.vm → NotFace s u) (w3 : (Jvm.Cond.selects CC u z).before a0 Z = true) (w4 : (Jvm.Cond.instanceMethod z).before a0 Z = true) (hy : u.cls ≠ "java/lang/invoke/MethodHandle" ∧ u.cls ≠ "java/lang/invoke/VarHandle") (E : Exa Z h a CC) (PP : Pays l Z EL n0 nr kn R 3 z W ck cn ws as' h Q') (hsz : Ls.size = mL) (hst : st = argsL.reverse ++ .ref a :: rest) (hlen : ∀ sig, parseMethodDescriptor u.desc = some sig → argsL.length = sig.parameters.length) (has : (.ref a :: argsL).toArray = as') (hW : (rest.map fun v => v.category).sum ≤ W) (hws : ∀ x ∈ ws, x ∈ SF) (hc : k + ck ≤ R.cells) (hl : n + cn ≤ R.slots)
    (K : ∀ v h' SN, Keep h h' ws → h0.size ≤ h.size → Q' v h' SN → Go l Z EL n0 nr kn y bytes mL ret R h0 WS Q (SN ++ SF) h' (k + ck) (n + cn) pc' Ls (v.toList ++ rest)) : Go l Z EL n0 nr kn y bytes mL ret R h0 WS Q SF h k n pc Ls st := by
  intro p e s m args below meth c T hR
  obtain ⟨⟨hx, hby, hml, hown, hnm, hret, hlk, hkn⟩, vm0, k0, locs, X, e0, C⟩ := hR
  have hZ : Z.Warmed39 (s.setVm vm0).vm := C.1
  have hown' : (s.setVm vm0).vm.findClass y.cls = some m.cls := by rw [show (s.setVm vm0).vm = vm0 from rfl, C.2.1.1.1.alike.findClass]; exact hown
  have hBK := PP p e below s args vm0 hx C.1 C.2.2.2.1.1 (fun x hx => ⟨⟨(C.2.2.2.2.1 x (hws x hx)).1.1, (C.2.2.2.2.1 x (hws x hx)).1.2.1⟩, (C.2.2.2.2.1 x (hws x hx)).2⟩) C.2.2.2.2.2.2.1 C.2.2.2.2.2.2.2.2.2 (fun q => ⟨Vm.MethodsKnown.alikeC C.2.1.1.1.alike (hkn q).1, Vm.FramesKnown.alikeC C.2.1.1.1.alike (hkn q).2⟩)
  obtain ⟨cB, kB, qa, qb, qc⟩ := isOf hZ e0 E
  refine Go.after (st := st) (args := args) (ck := ck) (cn := cn) (ws := ws) (as' := as') (Q' := Q') (rest := rest) ⟨hx, hby, hml, hown, hnm, hret, hlk, hkn⟩ e0 C hws ?_ hq K
  exact X.virtualBackS hx (y := u) (z := z) hown' (mvT hZ w1) (mvT hZ w2) (hnf _ hZ) (mvT hZ w3) (mvT hZ w4) hy hBK qa qc (g := mkF m pc Ls st) rfl (by rw [hml]; exact hsz) (Steps.refl _) (argsL := argsL) (rest := rest) hlen hst (by show 2 * 0 + _ ≤ _; rw [Nat.mul_zero, Nat.zero_add]; exact hW) (hb hby hd) (fun _ _ => ⟨has, e0, hc, hl⟩)
theorem Go.callU {ck cn W : Nat} {ws : List Addr} {as' : Array Value} {Q' : Option Value → Heap → List Addr → Prop} {index : Nat} {u z : MethodName} {CC owner : String} {a : Addr} {argsL : List Value} (hd : decode bytes pc = .ok (.invokevirtual index, 3)) (hq : pc + 3 = pc') (w1 : (Jvm.Cond.methodLink y.cls index u).before a0 Z = true) (w5 : (Jvm.Cond.sameMethod u.cls owner u.name u.desc).before a0 Z = true) (w2 : (Jvm.Cond.declares ⟨owner, u.name, u.desc⟩).before a0 Z = true) (ho : owner ≠ "java/lang/invoke/MethodHandle" ∧ owner ≠ "java/lang/invoke/VarHandle") (w3 : (Jvm.Cond.selects CC u z).before a0 Z = true) (w4 : (Jvm.Cond.instanceMethod z).before a0 Z = true) (E : Exa Z h a CC) (PP : Pays l Z EL n0 nr kn R 3 z W ck cn ws as' h Q') (hsz : Ls.size = mL) (hst : st = argsL.reverse ++ .ref a :: rest) (hlen : ∀ sig, parseMethodDescriptor u.desc = some sig → argsL.length = sig.parameters.length) (has : (.ref a :: argsL).toArray = as') (hW : (rest.map fun v => v.category).sum ≤ W) (hws : ∀ x ∈ ws, x ∈ SF) (hc : k + ck ≤ R.cells) (hl : n + cn ≤ R.slots)
    (K : ∀ v h' SN, Keep h h' ws → h0.size ≤ h.size → Q' v h' SN → Go l Z EL n0 nr kn y bytes mL ret R h0 WS Q (SN ++ SF) h' (k + ck) (n + cn) pc' Ls (v.toList ++ rest)) : Go l Z EL n0 nr kn y bytes mL ret R h0 WS Q SF h k n pc Ls st := by
  intro p e s m args below meth c T hR
  obtain ⟨⟨hx, hby, hml, hown, hnm, hret, hlk, hkn⟩, vm0, k0, locs, X, e0, C⟩ := hR
  have hZ : Z.Warmed39 (s.setVm vm0).vm := C.1
  have hown' : (s.setVm vm0).vm.findClass y.cls = some m.cls := by rw [show (s.setVm vm0).vm = vm0 from rfl, C.2.1.1.1.alike.findClass]; exact hown
  have hBK := PP p e below s args vm0 hx C.1 C.2.2.2.1.1 (fun x hx => ⟨⟨(C.2.2.2.2.1 x (hws x hx)).1.1, (C.2.2.2.2.1 x (hws x hx)).1.2.1⟩, (C.2.2.2.2.1 x (hws x hx)).2⟩) C.2.2.2.2.2.2.1 C.2.2.2.2.2.2.2.2.2 (fun q => ⟨Vm.MethodsKnown.alikeC C.2.1.1.1.alike (hkn q).1, Vm.FramesKnown.alikeC C.2.1.1.1.alike (hkn q).2⟩)
  obtain ⟨cB, kB, qa, qb, qc⟩ := isOf hZ e0 E
  refine Go.after (st := st) (args := args) (ck := ck) (cn := cn) (ws := ws) (as' := as') (Q' := Q') (rest := rest) ⟨hx, hby, hml, hown, hnm, hret, hlk, hkn⟩ e0 C hws ?_ hq K
  exact X.virtualBackUpS hx (x := u) (y := z) (owner := owner) hown' (mvT hZ w1) (mvT hZ w5) (mvT hZ w2) ho (mvT hZ w3) (mvT hZ w4) hBK qa qc (g := mkF m pc Ls st) rfl (by rw [hml]; exact hsz) (Steps.refl _) (argsL := argsL) (rest := rest) hlen hst (by show 2 * 0 + _ ≤ _; rw [Nat.mul_zero, Nat.zero_add]; exact hW) (hb hby hd) (fun _ _ => ⟨has, e0, hc, hl⟩)
theorem Go.callF {ck cn W : Nat} {ws : List Addr} {as' : Array Value} {Q' : Option Value → Heap → List Addr → Prop} {index count : Nat} {u z : MethodName} {CC : String} {a : Addr} {argsL : List Value} (hd : decode bytes pc = .ok (.invokeinterface index count, 5)) (hq : pc + 5 = pc') (w1 : (Jvm.Cond.methodLink y.cls index u).before a0 Z = true) (w2 : (Jvm.Cond.declares u).before a0 Z = true) (w5 : (Jvm.Cond.interfaceMethod u.cls u.cls u.name u.desc).before a0 Z = true) (w3 : (Jvm.Cond.selects CC u z).before a0 Z = true) (w4 : (Jvm.Cond.instanceMethod z).before a0 Z = true) (w6 : (Jvm.Cond.publicMethod z).before a0 Z = true) (w7 : (Jvm.Cond.unhidden CC u.name u.desc).before a0 Z = true) (w8 : (Jvm.Cond.castable CC u.cls).before a0 Z = true) (hy : u.cls ≠ "java/lang/invoke/MethodHandle" ∧ u.cls ≠ "java/lang/invoke/VarHandle") (E : Exa Z h a CC) (PP : Pays l Z EL n0 nr kn R 5 z W ck cn ws as' h Q') (hsz : Ls.size = mL) (hst : st = argsL.reverse ++ .ref a :: rest) (hlen : ∀ sig, parseMethodDescriptor u.desc = some sig → argsL.length = sig.parameters.length) (has : (.ref a :: argsL).toArray = as') (hW : (rest.map fun v => v.category).sum ≤ W) (hws : ∀ x ∈ ws, x ∈ SF) (hc : k + ck ≤ R.cells) (hl : n + cn ≤ R.slots)
    (K : ∀ v h' SN, Keep h h' ws → h0.size ≤ h.size → Q' v h' SN → Go l Z EL n0 nr kn y bytes mL ret R h0 WS Q (SN ++ SF) h' (k + ck) (n + cn) pc' Ls (v.toList ++ rest)) : Go l Z EL n0 nr kn y bytes mL ret R h0 WS Q SF h k n pc Ls st := by
  intro p e s m args below meth c T hR
  obtain ⟨⟨hx, hby, hml, hown, hnm, hret, hlk, hkn⟩, vm0, k0, locs, X, e0, C⟩ := hR
  have hZ : Z.Warmed39 (s.setVm vm0).vm := C.1
  have hown' : (s.setVm vm0).vm.findClass y.cls = some m.cls := by rw [show (s.setVm vm0).vm = vm0 from rfl, C.2.1.1.1.alike.findClass]; exact hown
  have hBK := PP p e below s args vm0 hx C.1 C.2.2.2.1.1 (fun x hx => ⟨⟨(C.2.2.2.2.1 x (hws x hx)).1.1, (C.2.2.2.2.1 x (hws x hx)).1.2.1⟩, (C.2.2.2.2.1 x (hws x hx)).2⟩) C.2.2.2.2.2.2.1 C.2.2.2.2.2.2.2.2.2 (fun q => ⟨Vm.MethodsKnown.alikeC C.2.1.1.1.alike (hkn q).1, Vm.FramesKnown.alikeC C.2.1.1.1.alike (hkn q).2⟩)
  obtain ⟨cB, kB, qa, qb, qc⟩ := isOf hZ e0 E
  refine Go.after (st := st) (args := args) (ck := ck) (cn := cn) (ws := ws) (as' := as') (Q' := Q') (rest := rest) ⟨hx, hby, hml, hown, hnm, hret, hlk, hkn⟩ e0 C hws ?_ hq K
  exact X.interfaceBackS hx (xi := u) (y := z) hown' (mvT hZ w1) (mvT hZ w2) (mvT hZ w5 (by simp [Cond.onTables, Cond.keepsFace, Cond.keeps, Cond.steady, Cond.faceAtom]; exact hy)) (mvT hZ w3) (mvT hZ w4) (mvT hZ w6) (mvT hZ w7) (mvT hZ w8) hy hBK qa qb qc (g := mkF m pc Ls st) rfl (by rw [hml]; exact hsz) (Steps.refl _) (argsL := argsL) (rest := rest) hlen hst (by show 2 * 0 + _ ≤ _; rw [Nat.mul_zero, Nat.zero_add]; exact hW) (hb hby hd) (fun _ _ => ⟨has, e0, hc, hl⟩)
theorem Go.callP {ck cn W : Nat} {ws : List Addr} {as' : Array Value} {Q' : Option Value → Heap → List Addr → Prop} {index : Nat} {z : MethodName} {zb : ByteArray} {zL : Nat} {zr : Option FieldType} {CC : String} {a : Addr} {argsL : List Value} (hd : decode bytes pc = .ok (.invokevirtual index, 3)) (hq : pc + 3 = pc') (w1 : (Jvm.Cond.methodLink y.cls index z).before a0 Z = true) (w2 : (Jvm.Cond.instanceMethod z).before a0 Z = true) (w3 : (Jvm.Cond.selects z.cls z z).before a0 Z = true) (w5 : (Jvm.Cond.privateMethod z).before a0 Z = true) (w4 : (Jvm.Cond.code z zb zL zr).before a0 Z = true) (hy : z.cls ≠ "java/lang/invoke/MethodHandle" ∧ z.cls ≠ "java/lang/invoke/VarHandle") (E : Exa Z h a CC) (PP : Pays l Z EL n0 nr kn R 3 z W ck cn ws as' h Q') (hsz : Ls.size = mL) (hst : st = argsL.reverse ++ .ref a :: rest) (hlen : ∀ sig, parseMethodDescriptor z.desc = some sig → argsL.length = sig.parameters.length) (has : (.ref a :: argsL).toArray = as') (hW : (rest.map fun v => v.category).sum ≤ W) (hws : ∀ x ∈ ws, x ∈ SF) (hc : k + ck ≤ R.cells) (hl : n + cn ≤ R.slots)
    (K : ∀ v h' SN, Keep h h' ws → h0.size ≤ h.size → Q' v h' SN → Go l Z EL n0 nr kn y bytes mL ret R h0 WS Q (SN ++ SF) h' (k + ck) (n + cn) pc' Ls (v.toList ++ rest)) : Go l Z EL n0 nr kn y bytes mL ret R h0 WS Q SF h k n pc Ls st := by
  intro p e s m args below meth c T hR
  obtain ⟨⟨hx, hby, hml, hown, hnm, hret, hlk, hkn⟩, vm0, k0, locs, X, e0, C⟩ := hR
  have hZ : Z.Warmed39 (s.setVm vm0).vm := C.1
  have hown' : (s.setVm vm0).vm.findClass y.cls = some m.cls := by rw [show (s.setVm vm0).vm = vm0 from rfl, C.2.1.1.1.alike.findClass]; exact hown
  have hBK := PP p e below s args vm0 hx C.1 C.2.2.2.1.1 (fun x hx => ⟨⟨(C.2.2.2.2.1 x (hws x hx)).1.1, (C.2.2.2.2.1 x (hws x hx)).1.2.1⟩, (C.2.2.2.2.1 x (hws x hx)).2⟩) C.2.2.2.2.2.2.1 C.2.2.2.2.2.2.2.2.2 (fun q => ⟨Vm.MethodsKnown.alikeC C.2.1.1.1.alike (hkn q).1, Vm.FramesKnown.alikeC C.2.1.1.1.alike (hkn q).2⟩)
  obtain ⟨cq, q1, q2⟩ := E.cell
  refine Go.after (st := st) (args := args) (ck := ck) (cn := cn) (ws := ws) (as' := as') (Q' := Q') (rest := rest) ⟨hx, hby, hml, hown, hnm, hret, hlk, hkn⟩ e0 C hws ?_ hq K
  exact X.privateBackS hx (y := z) hown' (mvT hZ w1) (mvT hZ w2) (mvT hZ w3) (Cond.privateMethod_at (mvP hZ w5 (args := #[]))) (mvT hZ w4) hy hBK (g := mkF m pc Ls st) rfl (by rw [hml]; exact hsz) (Steps.refl _) (a := a) (by rw [e0]; exact q1) q2 (argsL := argsL) (rest := rest) hlen hst (by show 2 * 0 + _ ≤ _; rw [Nat.mul_zero, Nat.zero_add]; exact hW) (hb hby hd) (fun _ _ => ⟨has, e0, hc, hl⟩)
theorem Go.callSp {ck cn W : Nat} {ws : List Addr} {as' : Array Value} {Q' : Option Value → Heap → List Addr → Prop} {index : Nat} {z : MethodName} {zb : ByteArray} {zL : Nat} {zr : Option FieldType} {K0 : String} {a : Addr} {argsL : List Value} (hd : decode bytes pc = .ok (.invokespecial index, 3)) (hq : pc + 3 = pc') (w1 : (Jvm.Cond.methodLink y.cls index z).before a0 Z = true) (w2 : (Jvm.Cond.sameMethod z.cls z.cls z.name z.desc).before a0 Z = true) (w3 : (Jvm.Cond.instanceMethod z).before a0 Z = true) (w5 : (Jvm.Cond.superclass y.cls z.cls).before a0 Z = true) (w4 : (Jvm.Cond.code z zb zL zr).before a0 Z = true) (hni : z.name ≠ "<init>") (F : Ins Z h a K0 true) (PP : Pays l Z EL n0 nr kn R 3 z W ck cn ws as' h Q') (hsz : Ls.size = mL) (hst : st = argsL.reverse ++ .ref a :: rest) (hlen : ∀ sig, parseMethodDescriptor z.desc = some sig → argsL.length = sig.parameters.length) (has : (.ref a :: argsL).toArray = as') (hW : (rest.map fun v => v.category).sum ≤ W) (hws : ∀ x ∈ ws, x ∈ SF) (hc : k + ck ≤ R.cells) (hl : n + cn ≤ R.slots)
    (K : ∀ v h' SN, Keep h h' ws → h0.size ≤ h.size → Q' v h' SN → Go l Z EL n0 nr kn y bytes mL ret R h0 WS Q (SN ++ SF) h' (k + ck) (n + cn) pc' Ls (v.toList ++ rest)) : Go l Z EL n0 nr kn y bytes mL ret R h0 WS Q SF h k n pc Ls st := by
  intro p e s m args below meth c T hR
  obtain ⟨⟨hx, hby, hml, hown, hnm, hret, hlk, hkn⟩, vm0, k0, locs, X, e0, C⟩ := hR
  have hZ : Z.Warmed39 (s.setVm vm0).vm := C.1
  have hown' : (s.setVm vm0).vm.findClass y.cls = some m.cls := by rw [show (s.setVm vm0).vm = vm0 from rfl, C.2.1.1.1.alike.findClass]; exact hown
  have hBK := PP p e below s args vm0 hx C.1 C.2.2.2.1.1 (fun x hx => ⟨⟨(C.2.2.2.2.1 x (hws x hx)).1.1, (C.2.2.2.2.1 x (hws x hx)).1.2.1⟩, (C.2.2.2.2.1 x (hws x hx)).2⟩) C.2.2.2.2.2.2.1 C.2.2.2.2.2.2.2.2.2 (fun q => ⟨Vm.MethodsKnown.alikeC C.2.1.1.1.alike (hkn q).1, Vm.FramesKnown.alikeC C.2.1.1.1.alike (hkn q).2⟩)
  refine Go.after (st := st) (args := args) (ck := ck) (cn := cn) (ws := ws) (as' := as') (Q' := Q') (rest := rest) ⟨hx, hby, hml, hown, hnm, hret, hlk, hkn⟩ e0 C hws ?_ hq K
  exact superBackS X hx hZ (y := z) hown' w1 w2 w3 w5 hni hBK e0 F (g := mkF m pc Ls st) rfl (by rw [hml]; exact hsz) w4 (argsL := argsL) (rest := rest) hlen hst (by show 2 * 0 + _ ≤ _; rw [Nat.mul_zero, Nat.zero_add]; exact hW) (hb hby hd) (fun _ _ => ⟨has, e0, hc, hl⟩)
theorem nf {u z : MethodName} {CC : String} (w : (Jvm.Cond.selects CC u z).before a0 Z = true) (e : u = z) : ∀ (s : State), Z.Warmed39 s.vm → NotFace s u := fun s hZ => by
  subst e
  exact notFace_of_selects (args := #[]) (mvT hZ w)
theorem mem0 {SF : List Addr} : ∀ x ∈ ([] : List Addr), x ∈ SF := fun _ q => nomatch q
theorem memS {SF L : List Addr} {a : Addr} (q : a ∈ SF) (r : ∀ x ∈ L, x ∈ SF) : ∀ x ∈ a :: L, x ∈ SF := fun x z => (List.mem_cons.mp z).elim (fun u => u ▸ q) (r x)
theorem sn0 {SF : List Addr} {h0 : Heap} : ∀ x ∈ ([] : List Addr), x ∈ SF ∧ h0.size ≤ x := fun _ q => nomatch q
theorem snS {SF L : List Addr} {h0 : Heap} {a : Addr} (q : a ∈ SF ∧ h0.size ≤ a) (r : ∀ x ∈ L, x ∈ SF ∧ h0.size ≤ x) : ∀ x ∈ a :: L, x ∈ SF ∧ h0.size ≤ x := fun x z => (List.mem_cons.mp z).elim (fun u => u ▸ q) (r x)
theorem Ext.refl (h : Heap) : Ext h h := ⟨Nat.le_refl _, fun _ _ q => q⟩
theorem Ext.trans {h1 h2 h3 : Heap} (E : Ext h1 h2) (F : Ext h2 h3) : Ext h1 h3 := ⟨Nat.le_trans E.1 F.1, fun a c q => F.2 a c (E.2 a c q)⟩
theorem Keep.toExt {h1 h2 : Heap} (K : Keep h1 h2 []) : Ext h1 h2 := ⟨K.1, fun a c q => K.2.1 a c q (fun z => nomatch z)⟩
end Rules
end Jvm.OwnK
namespace Jvm.OwnK
open Jvm Sem ClassFile Op Lib Jvm.Free Jvm.Stand Jvm.LawKit Jvm.RoadKit Bundle
/-! plain facts on numbers and lists -/
def lowV (c : Int32) : Value := .int c.toInt8.toInt32
theorem byte_idem (c : Int32) : c.toInt8.toInt32.toInt8.toInt32 = c.toInt8.toInt32 := by
  rw [Int8.toInt8_toInt32]
theorem nar_byte (c : Int32) : nar .byte c.toInt8.toInt32 = c.toInt8.toInt32 := byte_idem c
theorem shr0 (x : Int32) : x >>> ((0 : Int32) &&& 31) = x := by
  apply Int32.toInt_inj.mp
  rw [c_ishr x 0 0 (by decide)]
  simp
theorem mask255 (x : Int32) : ¬ (x &&& 255) < 0 ∧ ¬ 255 < (x &&& 255) := by
  have h := c_and x 255 (by decide)
  rw [Int32.lt_iff_toInt_lt, Int32.lt_iff_toInt_lt]
  have e1 : (255 : Int32).toInt = 255 := by decide
  have e0 : (0 : Int32).toInt = 0 := by decide
  omega
theorem i2c_in {x : Int32} (h1 : ¬ x < 0) (h2 : ¬ 65535 < x) : x.toUInt32.toUInt16.toUInt32.toInt32 = x := by
  apply Int32.toInt_inj.mp
  have h := c_i2c x
  rw [Int32.lt_iff_toInt_lt] at h1 h2
  have e1 : (65535 : Int32).toInt = 65535 := by decide
  have e0 : (0 : Int32).toInt = 0 := by decide
  omega
theorem nar_char {x : Int32} (h1 : ¬ x < 0) (h2 : ¬ 65535 < x) : nar .char x = x := i2c_in h1 h2
theorem le255 {x : Int32} (h : ¬ 255 < x) : ¬ 65535 < x := by
  rw [Int32.lt_iff_toInt_lt] at h ⊢
  have e1 : (65535 : Int32).toInt = 65535 := by decide
  have e0 : (255 : Int32).toInt = 255 := by decide
  omega
theorem own_lowback {c : Int32} (h1 : ¬ c < 0) (h2 : ¬ 255 < c) : (c.toInt8.toInt32 &&& 255).toUInt32.toUInt16.toUInt32.toInt32 = c := by
  have m := mask255 c.toInt8.toInt32
  rw [i2c_in m.1 (le255 m.2)]
  apply Int32.toInt_inj.mp
  have e := c_mask c.toInt8.toInt32 255 8 (by decide) (by decide)
  have b := c_i2b c
  rw [Int32.lt_iff_toInt_lt] at h1 h2
  have e1 : (255 : Int32).toInt = 255 := by decide
  have e0 : (0 : Int32).toInt = 0 := by decide
  have e2 : ((2 ^ 8 : Nat) : Int) = 256 := by decide
  rw [e, e2]
  omega
theorem ofNat_succ (i : Nat) : Int32.ofNat i + 1 = Int32.ofNat (i + 1) := by
  rw [Int32.ofNat_add]; rfl
theorem ofNat_toInt {i : Nat} (h : i < 2 ^ 31) : (Int32.ofNat i).toInt = i := Int32.toInt_ofNat_small h
theorem ofNat_clamp {i : Nat} (h : i < 2 ^ 31) : (Int32.ofNat i).toNatClampNeg = i := by
  simp only [Int32.toNatClampNeg, ofNat_toInt h, Int.toNat_natCast]
theorem ofNat_nn {i : Nat} (h : i < 2 ^ 31) : ¬ Int32.ofNat i < 0 := by
  rw [Int32.lt_iff_toInt_lt, ofNat_toInt h]
  have e0 : (0 : Int32).toInt = 0 := by decide
  omega
theorem clamp_toInt {z : Int32} (h : ¬ z < 0) : z.toInt = z.toNatClampNeg := nat_of h
theorem ofNat_lt {i : Nat} {z : Int32} (hz : ¬ z < 0) (h : i < z.toNatClampNeg) : Int32.ofNat i < z := by
  have q := (back32 hz).2
  rw [Int32.lt_iff_toInt_lt, ofNat_toInt (by omega), clamp_toInt hz]
  omega
theorem ofNat_ge {i : Nat} {z : Int32} (hz : ¬ z < 0) (hi : i < 2 ^ 31) (h : z.toNatClampNeg ≤ i) : ¬ Int32.ofNat i < z := by
  rw [Int32.lt_iff_toInt_lt, ofNat_toInt hi, clamp_toInt hz]
  omega
theorem arv_nn {Z : State} {h : Heap} {a : Addr} {k : ClassId} {ty : FieldType} {z : Int32} {vs : List Value} {d : Value} (F : Arv Z h a k ty z vs d) : ¬ z < 0 := by obtain ⟨_, _, _, _, q, _⟩ := F; exact q
theorem getD_int (cs : List Int32) (i : Nat) : (cs.map Value.int).getD i (.int 0) = .int (cs.getD i 0) := by
  simp only [List.getD_eq_getElem?_getD, List.getElem?_map]
  cases cs[i]? <;> rfl
theorem getD_low (cs : List Int32) (i : Nat) (h : i < cs.length) : (cs.map lowV).getD i (.int 0) = .int (cs.getD i 0).toInt8.toInt32 := by
  simp only [List.getD_eq_getElem?_getD, List.getElem?_map, List.getElem?_eq_getElem h]
  rfl
theorem set_low (cs : List Int32) (i m : Nat) (h : i < cs.length) (z : Value) : ((cs.take i).map lowV ++ List.replicate (m + 1) z).set i (lowV (cs.getD i 0)) = (cs.take (i + 1)).map lowV ++ List.replicate m z := by
  have hl : ((cs.take i).map lowV).length = i := by simp; omega
  have e : cs.getD i 0 = cs[i] := by simp [List.getD_eq_getElem?_getD, List.getElem?_eq_getElem h]
  rw [List.set_append_right _ _ (by omega), hl, Nat.sub_self, List.replicate_succ, List.set_cons_zero, List.take_succ_eq_append_getElem h, List.map_append, List.append_assoc, e]
  rfl
theorem getD_mem {cs : List Int32} {P : Int32 → Prop} (h : ∀ x ∈ cs, P x) {i : Nat} (hi : i < cs.length) : P (cs.getD i 0) := by
  have e : cs.getD i 0 = cs[i] := by simp [List.getD_eq_getElem?_getD, List.getElem?_eq_getElem hi]
  rw [e]; exact h _ (List.getElem_mem hi)
theorem own_back (x : Int32) : x + (128 : Int32) - (128 : Int32) = x := Int32.add_sub_cancel x 128
theorem own_cache {x : Int32} {n : Nat} (h1 : ¬ x < (-128 : Int32)) (h2 : ¬ (127 : Int32) < x) (hn : n = (256 : Int32).toNatClampNeg) : ¬ (x + (128 : Int32) < 0 ∨ n ≤ (x + (128 : Int32)).toNatClampNeg) := by
  have c := c_iadd x 128
  have r := rng32 (x + 128)
  rw [Int32.lt_iff_toInt_lt] at h1 h2 ⊢
  have e1 : (-128 : Int32).toInt = -128 := by decide
  have e2 : (127 : Int32).toInt = 127 := by decide
  have e3 : (128 : Int32).toInt = 128 := by decide
  have e0 : (0 : Int32).toInt = 0 := by decide
  have e4 : (256 : Int32).toNatClampNeg = 256 := by decide
  simp only [Int32.toNatClampNeg] at hn e4 ⊢
  omega
theorem own_coder0 {z : Int32} : ((z - z).toUInt32 >>> ((31 : Int32) &&& 31).toUInt32).toInt32.toInt8.toInt32 = (0 : Int32) := by
  rw [Int32.sub_self]; decide
theorem own_nz {z : Int32} {cs : List Int32} (hz : z.toNatClampNeg = cs.length) (h : cs ≠ []) : ¬ z = (0 : Int32) := fun e => by
  subst e
  have : (0 : Int32).toNatClampNeg = 0 := by decide
  rw [this] at hz
  exact h (List.length_eq_zero_iff.mp hz.symm)
theorem own_narc (u : Int32) : narrow .char (.int (u &&& (255 : Int32)).toUInt32.toUInt16.toUInt32.toInt32) = .int (u &&& (255 : Int32)).toUInt32.toUInt16.toUInt32.toInt32 := by
  show Value.int _ = _
  have m := mask255 u
  rw [i2c_in m.1 (le255 m.2), i2c_in m.1 (le255 m.2)]
theorem own_one {P : Int32 → Prop} {a : Int32} (h : P a) : ∀ x ∈ [a], P x := fun x hx => by cases List.mem_singleton.mp hx; exact h
theorem own_cons {P : Int32 → Prop} {a : Int32} {L : List Int32} (h : P a) (r : ∀ x ∈ L, P x) : ∀ x ∈ a :: L, P x := fun x hx => (List.mem_cons.mp hx).elim (fun e => e ▸ h) (r x)
theorem own_two {P : Int32 → Prop} {a b : Int32} (h : P a) (h' : P b) : ∀ x ∈ [a, b], P x := own_cons h (own_one h')
def stRef (Z : State) (C n d : String) : Addr := match (Term.static C n d).eval #[] Z none [] Z with
  | some (.ref a) => a
  | _ => 0
theorem stRef_of {Z : State} {args : Array Value} {C n d : String} {a : Addr} (h : (Term.static C n d).eval args Z none [] Z = some (.ref a)) : stRef Z C n d = a := by
  have q : (Term.static C n d).eval #[] Z none [] Z = some (.ref a) := h
  simp only [stRef, q]
theorem arv_of_arr {Z : State} {h : Heap} {a : Addr} {cl : Cell} {ty : FieldType} {z : Int32} {vs : List Value} {d : Value} (A : Arr Z h a cl ty) (hz : ¬ z < 0) (hs : cl.slots.size = z.toNatClampNeg) (H : ∀ i, i < cl.slots.size → cl.slots[i]? = some (vs.getD i d) ∧ fits ty (vs.getD i d) = true) : Arv Z h a cl.cls ty z vs d :=
  ⟨cl, A, rfl, hs, hz, fun i hi => (H i hi).1, fun i hi => (H i hi).2⟩
theorem arv_ext {Z : State} {h h' : Heap} {a : Addr} {k : ClassId} {ty : FieldType} {z : Int32} {vs : List Value} {d : Value} (F : Arv Z h a k ty z vs d) (E : Ext h h') : Arv Z h' a k ty z vs d := F.ext E
theorem own_len {Z : State} {args : Array Value} {t : Term} {a : Addr} {cl : Cell} {ty : FieldType} {z : Int32} (e : t.eval args Z none [] Z = some (.ref a)) (A : Arr Z Z.heap a cl ty) (h : (Term.length t).eval args Z none [] Z = some (.int z)) : cl.slots.size < 2 ^ 31 ∧ cl.slots.size.toInt32 = z := by
  have q := A.fin (Vm.Alike.refl _)
  simp only [Term.eval, e, q, Option.bind_eq_bind, Option.bind_some] at h
  split at h
  · rename_i hl
    exact ⟨hl, by simpa using h⟩
  · cases h
theorem own_sto {Z : State} {h : Heap} {a y : Addr} {k : ClassId} {ty : FieldType} {z : Int32} {vs : List Value} {d : Value} {C : String} (F : Arv Z h a k ty z vs d) (O : Ovr Z k C) (I : Ins Z h y C true) : Sto Z h a (.ref y) := by
  obtain ⟨cl, A, q, -⟩ := F
  exact Sto.ofV A q O I
def NFc (Z : State) (K : String) : Prop := ∃ t kt, Z.vm.findClass K = some t ∧ Z.vm.classes[t]? = some kt ∧ kt.isInterface = false
theorem own_face_inst {Z : State} {a0 : Array Value} {K : String} {n : Nat} (w : (Jvm.Cond.instantiable K n).before a0 Z = true) : NFc Z K := by
  obtain ⟨c, k, h1, h2, -, h4, -⟩ := Cond.instantiable_spec w
  exact ⟨c, k, h1, h2, by simpa using (Bool.or_eq_false_iff.mp h4).1⟩
theorem own_face_sel {Z : State} {a0 : Array Value} {K : String} {u z : MethodName} (w : (Jvm.Cond.selects K u z).before a0 Z = true) : NFc Z z.cls := by
  obtain ⟨c, r, m, -, -, h3, -, mk, h5, h6⟩ := Cond.selects_spec w
  exact ⟨m.cls, mk, findClass_of_methodNamed h3, h5, h6⟩
theorem own_root {Z : State} {a0 : Array Value} {O K : String} (w : (Jvm.Cond.noSuperclass O).before a0 Z = true) (hk : NFc Z K) (hn : O ≠ K) : NS Z O K := by
  obtain ⟨c, k, h1, h2, h3, -, -⟩ := Cond.noSuperclass_spec w
  obtain ⟨t, kt, g1, -⟩ := hk
  have ne := ids_ne h1 g1 hn
  refine ⟨c, t, h1, g1, fun fuel => ?_⟩
  cases fuel with
  | zero => rfl
  | succ f => simp [Vm.isSubclassAux, ne, h2, h3]
theorem own_nsno {Z : State} {a0 : Array Value} {C K : String} {n : Nat} (w : (Jvm.Cond.instantiable C n).before a0 Z = true) (hk : NFc Z K) (ns : NS Z C K) (hn : C ≠ K) : ∃ c t, Z.vm.findClass C = some c ∧ Z.vm.findClass K = some t ∧ Z.vm.assignable c t = false := by
  obtain ⟨c, t, h0, g0, n3⟩ := ns
  obtain ⟨c', k, h1, h2, h5, -⟩ := Cond.instantiable_spec w
  cases h0.symm.trans h1
  obtain ⟨t', kt, g1, g2, g7⟩ := hk
  cases g0.symm.trans g1
  have ne := ids_ne h0 g0 hn
  refine ⟨c, t, h0, g0, ?_⟩
  show Z.vm.assignableAux (255 + 1) c t = false
  cases hkk : kt.kind <;> simp [Vm.assignableAux, ne, h2, g2, h5, hkk, g7, Vm.isSubclass, n3]
theorem own_arv0 {Z : State} {h : Heap} {a : Addr} {cl : Cell} {ty : FieldType} {d : Value} (A : Arr Z h a cl ty) (l : cl.slots.size < 2 ^ 31 ∧ cl.slots.size.toInt32 = (0 : Int32)) : Arv Z h a cl.cls ty (0 : Int32) [] d := by
  have e : cl.slots.size = 0 := by
    have q := len_toInt l.1
    rw [l.2] at q
    have : (0 : Int32).toInt = 0 := by decide
    omega
  refine ⟨cl, A, rfl, by rw [e]; decide, by decide, fun i hi => ?_, fun i hi => ?_⟩ <;> (rw [e] at hi; exact absurd hi (Nat.not_lt_zero _))
theorem own_cat {v : Value} (h : v.isRef = true) : v.category = 1 := by rcases ref_cases h with rfl | ⟨_, rfl⟩ <;> rfl
theorem unt_ext {h h' : Heap} {a : Addr} (E : Ext h h') (U : Unt h a) : Unt h' a := by obtain ⟨c, q, r⟩ := U; exact ⟨c, E.2 _ _ q, r⟩
theorem own_selP {Z : State} {a0 : Array Value} {z u v : MethodName} {K : String} (w3 : (Jvm.Cond.selects K u v).before a0 Z = true) (he : v.cls = z.cls) (hx : z.cls ≠ "java/lang/invoke/MethodHandle" ∧ z.cls ≠ "java/lang/invoke/VarHandle") (w2 : (Jvm.Cond.instanceMethod z).before a0 Z = true) (w5 : (Jvm.Cond.privateMethod z).before a0 Z = true) : (Jvm.Cond.selects z.cls z z).before a0 Z = true := by
  obtain ⟨mk, methM, hnamed, hmethM, hstM, habM⟩ := Cond.instanceMethod_spec w2
  obtain ⟨c2, r2, m2, q1, q2, q3, q4, kP, hkP, hkPi⟩ := Cond.selects_spec w3
  have e1 := findClass_of_methodNamed hnamed
  have e3 := findClass_of_methodNamed q3
  have hp := Cond.privateMethod_at w5 mk methM hnamed hmethM
  rw [he, e1] at e3
  have e4 := Option.some.inj e3
  rw [← e4] at hkP
  have hf := State.methodFound?_of_named hnamed hx
  have hs : selectMethod {} Z.vm mk.cls mk = .method mk := selectMethod_private hmethM hp
  show Cond.holds _ _ _ _ _ _ = true
  simp [Cond.holds, Cond.value, e1, hf, hnamed, hs, hkP, hkPi]
theorem own_elem {Z : State} {args : Array Value} {t : Term} {a : Addr} {cl : Cell} {ty : FieldType} {j : Int32} {v : Value} (e : t.eval args Z none [] Z = some (.ref a)) (A : Arr Z Z.heap a cl ty) (h : (Term.elem t (Term.int j)).eval args Z none [] Z = some v) : cl.slots[j.toNatClampNeg]? = some v := by
  have q := A.fin (Vm.Alike.refl _)
  simp only [Term.eval, e, q, Option.bind_eq_bind, Option.bind_some] at h
  split at h
  · cases h
  · exact h
theorem own_eqr {Z : State} {args : Array Value} {X F : Term} {y : Addr} (hF : F.eval args Z none [] Z = some (.ref y)) (h : (Cond.eq X F).value args Z none Z [] = some true) : X.eval args Z none [] Z = some (.ref y) := by
  simp only [Cond.value, hF] at h
  cases hX : X.eval args Z none [] Z with
  | none => simp [hX] at h
  | some x => cases x <;> simp [hX] at h ⊢; exact h
theorem own_eqn {Z : State} {args : Array Value} {X : Term} (h : (Cond.eq X Term.null).value args Z none Z [] = some true) : X.eval args Z none [] Z = some .null := by
  simp only [Cond.value, Term.eval] at h
  cases hX : X.eval args Z none [] Z with
  | none => simp [hX] at h
  | some x => cases x <;> simp [hX] at h ⊢
def own_eqb (us ws : List Int32) : Int32 := if us = ws then 1 else 0
theorem own_take_succ {us ws : List Int32} {i : Nat} (hu : i < us.length) (hw : i < ws.length) (h : us.take i = ws.take i) (e : us.getD i 0 = ws.getD i 0) : us.take (i + 1) = ws.take (i + 1) := by
  rw [List.take_succ_eq_append_getElem hu, List.take_succ_eq_append_getElem hw, h]
  simp [List.getD_eq_getElem?_getD, List.getElem?_eq_getElem hu, List.getElem?_eq_getElem hw] at e
  rw [e]
theorem own_low_map (cs : List Int32) : cs.map lowV = (cs.map (fun c => c.toInt8.toInt32)).map Value.int := by simp [lowV]
theorem own_eqb_pos {us ws : List Int32} (h : us = ws) : own_eqb us ws = 1 := if_pos h
theorem own_eqb_neg {us ws : List Int32} (h : ¬ us = ws) : own_eqb us ws = 0 := if_neg h
theorem own_eqb0 {us ws : List Int32} (h : own_eqb us ws = 0) : ¬ us = ws := fun e => by rw [own_eqb_pos e] at h; exact absurd h (by decide)
theorem own_eqb1 {us ws : List Int32} (h : ¬ own_eqb us ws = 0) : us = ws := Classical.byContradiction fun e => h (own_eqb_neg e)
theorem own_eqb0' {us ws : List Int32} (h : own_eqb ws us = 0) : ¬ us = ws := fun e => own_eqb0 h e.symm
theorem own_eqb_nar (us ws : List Int32) : narrow .boolean (.int (own_eqb us ws)) = .int (own_eqb us ws) := by
  by_cases h : us = ws
  · rw [own_eqb_pos h]; rfl
  · rw [own_eqb_neg h]; rfl
theorem own_idx {j z : Int32} (h1 : ¬ j < 0) (h2 : j < z) : j.toNatClampNeg < z.toNatClampNeg := by
  have e := clamp_toInt h1
  rw [Int32.lt_iff_toInt_lt] at h2
  simp only [Int32.toNatClampNeg] at e ⊢
  omega
theorem own_clamp_inj {x z : Int32} (h1 : ¬ x < 0) (h2 : ¬ z < 0) (h : x.toNatClampNeg = z.toNatClampNeg) : x = z := by
  have e1 := clamp_toInt h1
  have e2 := clamp_toInt h2
  apply Int32.toInt_inj.mp
  omega
theorem own_pad0 (m i : Nat) : ((List.replicate m (0 : Int32)).map Value.int).getD i (.int (0 : Int32)) = ([] : List Value).getD i (.int (0 : Int32)) := by
  simp only [List.map_replicate, List.getD_eq_getElem?_getD, List.getElem?_replicate]
  split <;> rfl
theorem own_set_mem {cs : List Int32} {P : Int32 → Prop} {i : Nat} {x : Int32} (h : ∀ y ∈ cs, P y) (hx : P x) : ∀ y ∈ cs.set i x, P y := fun y hy => by
  rcases List.mem_or_eq_of_mem_set hy with q | q
  · exact h y q
  · rw [q]; exact hx
theorem own_set_map (cs : List Int32) (i : Nat) (x : Int32) : (cs.map Value.int).set i (.int x) = (cs.set i x).map Value.int := by rw [List.map_set]
theorem own_arv_uniq {Z : State} {h : Heap} {t : Addr} {k k' : ClassId} {ty ty' : FieldType} {z z' : Int32} {us ws : List Int32} {d d' : Value} (A : Arv Z h t k ty z (us.map Value.int) d) (B : Arv Z h t k' ty' z' (ws.map Value.int) d') (hu : z.toNatClampNeg = us.length) (hw : z'.toNatClampNeg = ws.length) : us = ws := by
  obtain ⟨c, A1, -, A2, -, A3, -⟩ := A
  obtain ⟨c', B1, -, B2, -, B3, -⟩ := B
  cases A1.1.symm.trans B1.1
  apply List.ext_getElem (by omega)
  intro i h1 h2
  have q1 := A3 i (by omega)
  have q2 := B3 i (by omega)
  have q := Option.some.inj (q1.symm.trans q2)
  simp [List.getD_eq_getElem?_getD, List.getElem?_map, List.getElem?_eq_getElem h1, List.getElem?_eq_getElem h2] at q
  exact q
theorem own_fld_uniq {Z : State} {h : Heap} {a : Addr} {C n d : String} {x y : Addr} (F : Fld Z h a C n d (.ref x)) (G : Fld Z h a C n d (.ref y)) : x = y := Classical.byContradiction fun q => Fld.ne F G (fun e => q (Value.ref.inj e)) rfl
theorem own_rem {x : Int32} {m : Int32} (h : ¬ x < 0) (hm : (0 : Int32) < m) : ¬ x % m < 0 ∧ x % m < m := by
  have e := (c_iremV x m).1
  rw [Int32.lt_iff_toInt_lt] at h hm ⊢
  rw [Int32.lt_iff_toInt_lt]
  have e0 : (0 : Int32).toInt = 0 := by decide
  rw [e0] at h hm ⊢
  have := e (by omega) hm
  omega
theorem own_maskn (x m : Int32) (h : ¬ m < 0) : ¬ (x &&& m) < 0 := by
  have e0 : (0 : Int32).toInt = 0 := by decide
  rw [Int32.lt_iff_toInt_lt, e0] at h ⊢
  have q := c_and x m (by omega)
  omega
theorem own_remcap {x m : Int32} {c : Nat} (h : ¬ x < 0) (hm : (0 : Int32) < m) (hc : m.toNatClampNeg ≤ c + 1) : (x % m).toNatClampNeg ≤ c := by
  have q := own_rem h hm
  have r := own_idx q.1 q.2
  omega
theorem own_same {Z : State} {a0 : Array Value} {z u v : MethodName} {K : String} (w3 : (Jvm.Cond.selects K u v).before a0 Z = true) (he : v.cls = z.cls) (hx : z.cls ≠ "java/lang/invoke/MethodHandle" ∧ z.cls ≠ "java/lang/invoke/VarHandle") (w2 : (Jvm.Cond.instanceMethod z).before a0 Z = true) : (Jvm.Cond.sameMethod z.cls z.cls z.name z.desc).before a0 Z = true := by
  obtain ⟨mk, methM, hnamed, hmethM, hstM, habM⟩ := Cond.instanceMethod_spec w2
  obtain ⟨c2, r2, m2, q1, q2, q3, q4, kP, hkP, hkPi⟩ := Cond.selects_spec w3
  have e1 := findClass_of_methodNamed hnamed
  have e3 := findClass_of_methodNamed q3
  rw [he, e1] at e3
  rw [← Option.some.inj e3] at hkP
  have hf := State.methodFound?_of_named hnamed hx
  have hn' : Z.methodNamed? ⟨z.cls, z.name, z.desc⟩ = some mk := hnamed
  show Cond.holds _ _ _ _ _ _ = true
  simp [Cond.holds, Cond.value, e1, hf, hn', hkP, hkPi]
theorem own_nf {s : State} {args : Array Value} {z u v : MethodName} {K : String} (w3 : (Jvm.Cond.selects K u v).before args s = true) (he : v.cls = z.cls) : NotFace s z := fun r0 h0 => by
  obtain ⟨c2, r2, m2, q1, q2, q3, q4, kP, hkP, hkPi⟩ := Cond.selects_spec w3
  have e1 := findClass_of_methodNamed h0
  have e3 := findClass_of_methodNamed q3
  rw [he, e1] at e3
  exact ⟨kP, by rw [Option.some.inj e3]; exact hkP, hkPi⟩
end Jvm.OwnK
namespace Jvm.OwnK
open Jvm Sem ClassFile Op Lib Jvm.Free Jvm.Stand Jvm.LawKit Jvm.RoadKit Bundle
/-! plain facts on UTF16 bytes -/
def ub0 (c : Int32) : Int32 := (c >>> ((0 : Int32) &&& 31)).toInt8.toInt32
def ub1 (c : Int32) : Int32 := (c >>> ((8 : Int32) &&& 31)).toInt8.toInt32
def udec (x y : Int32) : Int32 := (((x &&& (255 : Int32)) <<< ((0 : Int32) &&& 31)) ||| ((y &&& (255 : Int32)) <<< ((8 : Int32) &&& 31))).toUInt32.toUInt16.toUInt32.toInt32
theorem own_udec {c : Int32} (h1 : ¬ c < 0) (h2 : ¬ 65535 < c) : udec (ub0 c) (ub1 c) = c := by
  have e0 : (0 : Int32).toInt = 0 := by decide
  have e1 : (65535 : Int32).toInt = 65535 := by decide
  rw [Int32.lt_iff_toInt_lt] at h1 h2
  rw [e0] at h1
  rw [e1] at h2
  apply Int32.toInt_inj.mp
  have s0 := c_ishr c 0 0 (by decide)
  have s8 := c_ishr c 8 8 (by decide)
  have p0 : ((2 ^ 0 : Nat) : Int) = 1 := by decide
  have p8 : ((2 ^ 8 : Nat) : Int) = 256 := by decide
  rw [p0] at s0
  rw [p8] at s8
  have i0 := c_i2b (c >>> ((0 : Int32) &&& 31))
  have i8 := c_i2b (c >>> ((8 : Int32) &&& 31))
  have m0 := c_mask (ub0 c) 255 8 (by decide) (by decide)
  have m8 := c_mask (ub1 c) 255 8 (by decide) (by decide)
  rw [p8] at m0 m8
  have l0 := c_ishl (ub0 c &&& 255) 0 0 (by decide)
  have l8 := c_ishl (ub1 c &&& 255) 8 8 (by decide)
  rw [p0] at l0
  rw [p8] at l8
  have r0 := rng32 ((ub0 c &&& 255) <<< ((0 : Int32) &&& 31))
  have r8 := rng32 ((ub1 c &&& 255) <<< ((8 : Int32) &&& 31))
  have q0 : (ub0 c).toInt = (c >>> ((0 : Int32) &&& 31)).toInt8.toInt32.toInt := rfl
  have q8 : (ub1 c).toInt = (c >>> ((8 : Int32) &&& 31)).toInt8.toInt32.toInt := rfl
  have v0 : ((ub0 c &&& 255) <<< ((0 : Int32) &&& 31)).toInt = c.toInt % 256 := by omega
  have v8 : ((ub1 c &&& 255) <<< ((8 : Int32) &&& 31)).toInt = (c.toInt / 256) * 256 := by omega
  have o := c_or' ((ub0 c &&& 255) <<< ((0 : Int32) &&& 31)) ((ub1 c &&& 255) <<< ((8 : Int32) &&& 31)) 8 (by decide) 256 (by decide) (by omega) (by omega) (by omega)
  have ro := rng32 (((ub0 c &&& 255) <<< ((0 : Int32) &&& 31)) ||| ((ub1 c &&& 255) <<< ((8 : Int32) &&& 31)))
  have cc := c_i2c (((ub0 c &&& 255) <<< ((0 : Int32) &&& 31)) ||| ((ub1 c &&& 255) <<< ((8 : Int32) &&& 31)))
  show (udec (ub0 c) (ub1 c)).toInt = c.toInt
  unfold udec
  omega
def Enc (bs cs : List Int32) (n : Nat) : Prop := bs.length = 2 * cs.length ∧ ∀ j, j < n → bs.getD (2 * j) 0 = ub0 (cs.getD j 0) ∧ bs.getD (2 * j + 1) 0 = ub1 (cs.getD j 0)
theorem own_getD_set (bs : List Int32) (i j : Nat) (x : Int32) (hi : i < bs.length) : (bs.set i x).getD j 0 = if i = j then x else bs.getD j 0 := by
  simp only [List.getD_eq_getElem?_getD, List.getElem?_set]
  by_cases h : i = j
  · subst h; simp [hi]
  · simp [h]
theorem Enc.step {bs cs : List Int32} {i : Nat} (h : Enc bs cs i) (hi : i < cs.length) : Enc ((bs.set (2 * i) (ub0 (cs.getD i 0))).set (2 * i + 1) (ub1 (cs.getD i 0))) cs (i + 1) := by
  refine ⟨by simp only [List.length_set]; exact h.1, fun j hj => ?_⟩
  have hl := h.1
  have A := fun k => own_getD_set (bs.set (2 * i) (ub0 (cs.getD i 0))) (2 * i + 1) k (ub1 (cs.getD i 0)) (by rw [List.length_set]; omega)
  have B := fun k => own_getD_set bs (2 * i) k (ub0 (cs.getD i 0)) (by omega)
  rw [A, A, B, B]
  by_cases e : j = i
  · subst e
    simp
  · have hj2 : j < i := by omega
    obtain ⟨q1, q2⟩ := h.2 j hj2
    rw [if_neg (by omega), if_neg (by omega), if_neg (by omega), if_neg (by omega)]
    exact ⟨q1, q2⟩
theorem own_shl1 {j : Int32} (h1 : ¬ j < 0) (h2 : j.toNatClampNeg < 1073741824) : ¬ (j <<< ((1 : Int32) &&& 31)) < 0 ∧ (j <<< ((1 : Int32) &&& 31)).toNatClampNeg = 2 * j.toNatClampNeg := by
  have e0 : (0 : Int32).toInt = 0 := by decide
  have n := clamp_toInt h1
  have l := c_ishl j 1 1 (by decide)
  have p1 : ((2 ^ 1 : Nat) : Int) = 2 := by decide
  rw [p1] at l
  have r := rng32 (j <<< ((1 : Int32) &&& 31))
  have v : (j <<< ((1 : Int32) &&& 31)).toInt = 2 * j.toInt := by omega
  rw [Int32.lt_iff_toInt_lt, e0, v]
  refine ⟨by omega, ?_⟩
  simp only [Int32.toNatClampNeg] at n h2 ⊢
  rw [v]
  omega
theorem own_shr1 {z : Int32} (h1 : ¬ z < 0) (h2 : z.toNatClampNeg < 1073741824) : ((z <<< ((1 : Int32) &&& 31)) >>> ((1 : Int32) &&& 31)) = z := by
  have n := clamp_toInt h1
  have q := own_shl1 h1 h2
  have n2 := clamp_toInt q.1
  apply Int32.toInt_inj.mp
  have s := c_ishr (z <<< ((1 : Int32) &&& 31)) 1 1 (by decide)
  have p1 : ((2 ^ 1 : Nat) : Int) = 2 := by decide
  rw [p1] at s
  omega
theorem own_coder1 {z : Int32} (h1 : ¬ z < 0) (h0 : ¬ z = 0) (h2 : z.toNatClampNeg < 1073741824) : ((z - (z <<< ((1 : Int32) &&& 31))).toUInt32 >>> ((31 : Int32) &&& 31).toUInt32).toInt32.toInt8.toInt32 = (1 : Int32) := by
  have n := clamp_toInt h1
  have q := own_shl1 h1 h2
  have n2 := clamp_toInt q.1
  have sb := c_isub z (z <<< ((1 : Int32) &&& 31))
  have r := rng32 (z - (z <<< ((1 : Int32) &&& 31)))
  have u := c_iushr (z - (z <<< ((1 : Int32) &&& 31))) 31 31 (by decide) (by decide)
  have p31 : ((2 ^ 31 : Nat) : Int) = 2147483648 := by decide
  rw [p31] at u
  have zn : z.toInt ≠ 0 := fun e => h0 (Int32.toInt_inj.mp (e.trans (by decide)))
  have v : ((z - (z <<< ((1 : Int32) &&& 31))).toUInt32 >>> ((31 : Int32) &&& 31).toUInt32).toInt32 = 1 := by
    apply Int32.toInt_inj.mp
    rw [u]
    have e1 : (1 : Int32).toInt = 1 := by decide
    rw [e1]
    omega
  rw [v]
  decide
theorem own_succ {j z : Int32} (h1 : ¬ j < 0) (h : j.toNatClampNeg + 1 < 2147483648) : ¬ (j + 1) < 0 ∧ (j + 1).toNatClampNeg = j.toNatClampNeg + 1 := by
  have e0 : (0 : Int32).toInt = 0 := by decide
  have e1 : (1 : Int32).toInt = 1 := by decide
  have n := clamp_toInt h1
  have a := c_iadd j 1
  have r := rng32 (j + 1)
  have v : (j + 1).toInt = j.toInt + 1 := by omega
  rw [Int32.lt_iff_toInt_lt, e0, v]
  refine ⟨by omega, ?_⟩
  simp only [Int32.toNatClampNeg] at n h ⊢
  rw [v]
  omega
theorem own_ltc {j z : Int32} (h1 : ¬ j < 0) (h2 : ¬ z < 0) (h : j.toNatClampNeg < z.toNatClampNeg) : j < z := by
  rw [Int32.lt_iff_toInt_lt, clamp_toInt h1, clamp_toInt h2]; omega
theorem own_gec {j z : Int32} (h1 : ¬ j < 0) (h2 : ¬ z < 0) (h : z.toNatClampNeg ≤ j.toNatClampNeg) : ¬ j < z := by
  rw [Int32.lt_iff_toInt_lt, clamp_toInt h1, clamp_toInt h2]; omega
end Jvm.OwnK
namespace Jvm.OwnK
open Jvm Sem ClassFile Op Lib Jvm.Free Jvm.Stand Jvm.LawKit Jvm.RoadKit Bundle
theorem own_ltle {i z zc : Int32} (h : i < z) (hle : ¬ zc < z) : i < zc := by
  rw [Int32.lt_iff_toInt_lt] at *; omega
theorem own_take_all {cs : List Int32} {P : Int32 → Prop} {i : Nat} (hi : i < cs.length) (h : ∀ x ∈ cs.take i, P x) (hp : P (cs.getD i 0)) : ∀ x ∈ cs.take (i + 1), P x := fun x hx => by
  rw [List.take_succ_eq_append_getElem hi] at hx
  have e : cs.getD i 0 = cs[i] := by simp [List.getD_eq_getElem?_getD, List.getElem?_eq_getElem hi]
  rcases List.mem_append.mp hx with q | q
  · exact h x q
  · rw [List.mem_singleton.mp q, ← e]; exact hp
theorem own_nar_i2c (x : Int32) : narrow .char (.int x.toUInt32.toUInt16.toUInt32.toInt32) = .int x.toUInt32.toUInt16.toUInt32.toInt32 := by
  show Value.int _ = _
  have h := c_i2c x
  have e0 : (0 : Int32).toInt = 0 := by decide
  have e1 : (65535 : Int32).toInt = 65535 := by decide
  rw [i2c_in (by rw [Int32.lt_iff_toInt_lt, e0]; omega) (by rw [Int32.lt_iff_toInt_lt, e1]; omega)]
theorem arv_nnz {z : Int32} (h : ¬ z < 0) : ¬ z < 0 := h
end Jvm.OwnK
namespace Jvm.OwnK
open Jvm Sem ClassFile Op Lib Jvm.Free Jvm.Stand Jvm.LawKit Jvm.RoadKit Bundle
theorem own_lt_ne {r z : Int32} (h : r < z) : ¬ r = z := fun e => by subst e; rw [Int32.lt_iff_toInt_lt] at h; omega
theorem own_enc_at {bs cs : List Int32} {r : Nat} (hE : Enc bs cs cs.length) (hr : r < cs.length) (h16 : ∀ x ∈ cs, ¬ x < 0 ∧ ¬ 65535 < x) : udec (bs.getD (2 * r) 0) (bs.getD (2 * r + 1) 0) = cs.getD r 0 := by
  obtain ⟨q1, q2⟩ := hE.2 r hr
  have m := getD_mem h16 hr
  rw [q1, q2, own_udec m.1 m.2]
theorem own_nar16 {cs : List Int32} {r : Nat} (h16 : ∀ x ∈ cs, ¬ x < 0 ∧ ¬ 65535 < x) (hr : r < cs.length) : narrow .char (.int (cs.getD r 0)) = .int (cs.getD r 0) := by
  have m := getD_mem h16 hr
  show Value.int _ = _
  rw [i2c_in m.1 m.2]
theorem own_or3 {z zc : Int32} (h1 : ¬ z < 0) (h2 : ¬ zc < 0) : ¬ ((zc ||| (0 : Int32)) ||| z) < 0 := by
  have e0 : (0 : Int32).toInt = 0 := by decide
  rw [Int32.lt_iff_toInt_lt, e0] at h1 h2 ⊢
  have a := (c_orS zc 0).1 (by omega) (by rw [e0]; omega)
  have b := (c_orS (zc ||| 0) z).1 a (by omega)
  omega
theorem own_lt_irr (z : Int32) : ¬ z < z := by rw [Int32.lt_iff_toInt_lt]; omega
theorem own_sub0 {z : Int32} : z - (0 : Int32) = z := Int32.sub_zero z
end Jvm.OwnK
namespace Jvm.OwnK
open Jvm Sem ClassFile Op Lib Jvm.Free Jvm.Stand Jvm.LawKit Jvm.RoadKit Bundle
theorem own_fill {cs : List Int32} {i M : Nat} (hi : i < cs.length) (hM : i < M) : (cs.take i ++ List.replicate (M - i) (0 : Int32)).set i (cs.getD i 0) = cs.take (i + 1) ++ List.replicate (M - (i + 1)) (0 : Int32) := by
  have hl : (cs.take i).length = i := by rw [List.length_take]; omega
  have e : cs.getD i 0 = cs[i] := by simp [List.getD_eq_getElem?_getD, List.getElem?_eq_getElem hi]
  obtain ⟨k, hk⟩ : ∃ k, M - i = k + 1 := ⟨M - i - 1, by omega⟩
  have hk2 : M - (i + 1) = k := by omega
  rw [hk, hk2, List.set_append_right _ _ (by omega), hl, Nat.sub_self, List.replicate_succ, List.set_cons_zero, List.take_succ_eq_append_getElem hi, List.append_assoc, e]
  rfl
theorem own_padr (l : List Int32) (k i : Nat) : (l.map Value.int).getD i (.int (0 : Int32)) = ((l ++ List.replicate k (0 : Int32)).map Value.int).getD i (.int (0 : Int32)) := by
  rw [List.map_append, List.map_replicate]
  exact (pad_rep _ _ k i).symm
end Jvm.OwnK
namespace Jvm.OwnK
open Jvm Sem ClassFile Op Lib Jvm.Free Jvm.Stand Jvm.LawKit Jvm.RoadKit Bundle
theorem own_range_all (cs : List Int32) (k : Nat) (hl : cs.length = k) : cs.map Value.int = (List.range k).map fun i => (cs.map Value.int).getD (0 + i) (.int (0 : Int32)) := by
  subst hl
  apply List.ext_getElem (by simp)
  intro i h1 h2
  simp at h1 h2
  simp [List.getD_eq_getElem?_getD, h2]
theorem own_room1 {len zc : Int32} (h0 : ¬ len < 0) (hc : ¬ zc < 0) (h : len < zc) : ¬ (zc - len) < (1 : Int32) := by
  have e0 : (0 : Int32).toInt = 0 := by decide
  have e1 : (1 : Int32).toInt = 1 := by decide
  have r1 := rng32 zc
  have r2 := rng32 len
  have s := c_isub zc len
  have r := rng32 (zc - len)
  rw [Int32.lt_iff_toInt_lt] at h0 hc h ⊢
  omega
theorem own_push {cs : List Int32} {d : Int32} {m : Nat} (h : 0 < m) : (cs ++ List.replicate m (0 : Int32)).set cs.length d = (cs ++ [d]) ++ List.replicate (m - 1) (0 : Int32) := by
  obtain ⟨k, rfl⟩ : ∃ k, m = k + 1 := ⟨m - 1, by omega⟩
  rw [List.set_append_right _ _ (Nat.le_refl _), Nat.sub_self, List.replicate_succ, List.set_cons_zero, List.append_assoc]
  rfl
theorem own_0add {n : Int32} : (0 : Int32) + (n - (0 : Int32)) = n := by rw [own_sub0, Int32.zero_add]
end Jvm.OwnK
namespace Jvm.OwnK
open Jvm Sem ClassFile Op Lib Jvm.Free Jvm.Stand Jvm.LawKit Jvm.RoadKit Bundle
theorem own_addn {n k : Int32} (h0 : ¬ n < 0) (h : n.toNatClampNeg ≤ 256) (hk : ¬ k < 0) (hk2 : k.toNatClampNeg ≤ 2) : ¬ (n + k) < 0 ∧ (n + k).toNatClampNeg = n.toNatClampNeg + k.toNatClampNeg := by
  have e0 : (0 : Int32).toInt = 0 := by decide
  have n1 := clamp_toInt h0
  have n2 := clamp_toInt hk
  have a := c_iadd n k
  have r := rng32 (n + k)
  have v : (n + k).toInt = n.toInt + k.toInt := by omega
  rw [Int32.lt_iff_toInt_lt, e0, v]
  refine ⟨by omega, ?_⟩
  simp only [Int32.toNatClampNeg] at n1 n2 h hk2 ⊢
  rw [v]
  omega
theorem own_add1 {n : Int32} (h0 : ¬ n < 0) (h : n.toNatClampNeg ≤ 256) : ¬ (n + (1 : Int32)) < 0 ∧ (n + (1 : Int32)).toNatClampNeg = n.toNatClampNeg + 1 := own_addn (k := 1) h0 h (by decide) (by decide)
theorem own_add2 {n : Int32} (h0 : ¬ n < 0) (h : n.toNatClampNeg ≤ 256) : ¬ (n + (2 : Int32)) < 0 ∧ (n + (2 : Int32)).toNatClampNeg = n.toNatClampNeg + 2 := own_addn (k := 2) h0 h (by decide) (by decide)
theorem own_pos {n : Int32} (p : (0 : Int32) < n) : 0 < n.toNatClampNeg := by
  have e0 : (0 : Int32).toInt = 0 := by decide
  rw [Int32.lt_iff_toInt_lt, e0] at p
  simp only [Int32.toNatClampNeg]
  omega
theorem own_subn {n : Int32} (p : (0 : Int32) < n) (h : n.toNatClampNeg ≤ 256) : ¬ (n - (1 : Int32)) < 0 ∧ (n - (1 : Int32)).toNatClampNeg = n.toNatClampNeg - 1 := by
  have e0 : (0 : Int32).toInt = 0 := by decide
  have e1 : (1 : Int32).toInt = 1 := by decide
  have q := own_pos p
  rw [Int32.lt_iff_toInt_lt, e0] at p
  have a := c_isub n 1
  have r := rng32 (n - 1)
  have rn := rng32 n
  have v : (n - 1).toInt = n.toInt - 1 := by omega
  rw [Int32.lt_iff_toInt_lt, e0, v]
  refine ⟨by omega, ?_⟩
  simp only [Int32.toNatClampNeg]
  rw [v]
  omega
theorem own_add11 (n : Int32) : n + (1 : Int32) + (1 : Int32) = n + (2 : Int32) := by rw [Int32.add_assoc]; rfl
theorem own_all2 {K : List Int32} {P : Int32 → Prop} {c d : Int32} (h : ∀ x ∈ K, P x) (hc : P c) (hd : P d) : ∀ x ∈ (K ++ [c]) ++ [d], P x := fun x hx => by
  rcases List.mem_append.mp hx with q | q
  · rcases List.mem_append.mp q with q | q
    · exact h x q
    · rw [List.mem_singleton.mp q]; exact hc
  · rw [List.mem_singleton.mp q]; exact hd
theorem own_cases256 {n : Int32} (h0 : ¬ n < 0) (h : n.toNatClampNeg ≤ 256) : n.toNatClampNeg < 255 ∨ n.toNatClampNeg = 255 ∨ n.toNatClampNeg = 256 := by omega
theorem own_ne0 {x : Int32} {k : Nat} (h : x.toNatClampNeg = k + 2) : ¬ x = 0 := fun e => by
  rw [e] at h
  have e0 : (0 : Int32).toNatClampNeg = 0 := by decide
  omega
theorem own_T1 {K : List Int32} {k : Nat} {c d : Int32} (h : k = K.length) : ((K ++ [c]) ++ [d]).getD k 0 = c := by
  subst h; simp [List.getD_eq_getElem?_getD]
theorem own_T2 {K : List Int32} {k : Nat} {c d : Int32} (h : k = K.length) : ((K ++ [c]) ++ [d]).getD (k + 1) 0 = d := by
  subst h; simp [List.getD_eq_getElem?_getD]
theorem own_Tlt {K : List Int32} {j : Nat} {c d : Int32} (h : j < K.length) : ((K ++ [c]) ++ [d]).getD j 0 = K.getD j 0 := by
  simp only [List.getD_eq_getElem?_getD]
  rw [List.getElem?_append_left (by simp; omega), List.getElem?_append_left h]
theorem own_T3 {K : List Int32} {k : Nat} {c d : Int32} (h : k = K.length) (hp : 0 < k) : ((K ++ [c]) ++ [d]).getD (k - 1) 0 = K.getD (k - 1) 0 := own_Tlt (by omega)
theorem own_T4 {K : List Int32} {k : Nat} {c d : Int32} (h : k = K.length) (hp : 0 < k) : ((K ++ [c]) ++ [d]).getD 0 0 = K.getD 0 0 := own_Tlt (by omega)
theorem own_takeD {D : List Int32} {j k : Nat} (h : j < k) : (D.take k).getD j 0 = D.getD j 0 := by
  simp only [List.getD_eq_getElem?_getD, List.getElem?_take, h, if_true]
theorem own_D3 {k : Nat} {fi la : Int32} (hp : 0 < k) (h : k ≤ 256) : (((List.replicate 256 (0 : Int32)).set 0 fi).set (k - 1) la).getD (k - 1) 0 = la := by
  rw [own_getD_set _ _ _ _ (by rw [List.length_set, List.length_replicate]; omega), if_pos rfl]
theorem own_D4 {n : Int32} {fi la : Int32} (h0 : ¬ n < 0) (hp : 0 < n.toNatClampNeg) (h : n.toNatClampNeg ≤ 256) : (((List.replicate 256 (0 : Int32)).set 0 fi).set (n.toNatClampNeg - 1) la).getD 0 0 = if n = (1 : Int32) then la else fi := by
  rw [own_getD_set _ _ _ _ (by rw [List.length_set, List.length_replicate]; omega), own_getD_set _ _ _ _ (by rw [List.length_replicate]; decide)]
  have e1 : (1 : Int32).toNatClampNeg = 1 := by decide
  by_cases e : n = (1 : Int32)
  · subst e
    rw [if_pos (show (1 : Int32).toNatClampNeg - 1 = 0 by rw [e1]), if_pos rfl]
  · have : ¬ n.toNatClampNeg - 1 = 0 := fun q => e (own_clamp_inj h0 (by decide) (by rw [e1]; omega))
    rw [if_neg this, if_pos rfl, if_neg e]
theorem mask65535 (x : Int32) : ¬ (x &&& 65535) < 0 ∧ ¬ 65535 < (x &&& 65535) := by
  have h := c_and x 65535 (by decide)
  rw [Int32.lt_iff_toInt_lt, Int32.lt_iff_toInt_lt]
  have e1 : (65535 : Int32).toInt = 65535 := by decide
  have e0 : (0 : Int32).toInt = 0 := by decide
  omega
end Jvm.OwnK
namespace Jvm.OwnK
open Jvm Sem ClassFile Op Lib Jvm.Free Jvm.Stand Jvm.LawKit Jvm.RoadKit Bundle
theorem own_getD_in {cs : List Int32} {i : Nat} (h : i < cs.length) : cs.getD i 0 ∈ cs := by
  have e : cs.getD i 0 = cs[i] := by simp [List.getD_eq_getElem?_getD, List.getElem?_eq_getElem h]
  rw [e]; exact List.getElem_mem h
theorem own_take_len {cs : List Int32} {n : Nat} (h : cs.length ≤ n) : cs.take n = cs := List.take_of_length_le h
theorem Enc.uniq {bs bs' cs : List Int32} (h : Enc bs cs cs.length) (h' : Enc bs' cs cs.length) : bs = bs' := by
  have l1 := h.1
  have l2 := h'.1
  apply List.ext_getElem (by omega)
  intro i h1 h2
  have g : ∀ (l : List Int32) (hi : i < l.length), l.getD i 0 = l[i] := fun l hi => by simp [List.getD_eq_getElem?_getD, List.getElem?_eq_getElem hi]
  rw [← g bs h1, ← g bs' h2]
  obtain ⟨k, hk⟩ : ∃ k, i = 2 * k ∨ i = 2 * k + 1 := ⟨i / 2, by omega⟩
  rcases hk with rfl | rfl
  · rw [(h.2 k (by omega)).1, (h'.2 k (by omega)).1]
  · rw [(h.2 k (by omega)).2, (h'.2 k (by omega)).2]
theorem own_255D {h t : Int32} : (((List.replicate 255 (0 : Int32)).set 0 h).set 254 t).getD 0 0 = h ∧ (((List.replicate 255 (0 : Int32)).set 0 h).set 254 t).getD 1 0 = 0 ∧ (((List.replicate 255 (0 : Int32)).set 0 h).set 254 t).getD 254 0 = t := by
  have A := fun k => own_getD_set ((List.replicate 255 (0 : Int32)).set 0 h) 254 k t (by rw [List.length_set, List.length_replicate]; decide)
  have B := fun k => own_getD_set (List.replicate 255 (0 : Int32)) 0 k h (by rw [List.length_replicate]; decide)
  refine ⟨?_, ?_, ?_⟩
  · rw [A, if_neg (by decide), B, if_pos rfl]
  · rw [A, if_neg (by decide), B, if_neg (by decide)]; rfl
  · rw [A, if_pos rfl]
theorem own_ap_lt {K : List Int32} {d : Int32} {j : Nat} (h : j < K.length) : (K ++ [d]).getD j 0 = K.getD j 0 := by
  simp only [List.getD_eq_getElem?_getD]
  rw [List.getElem?_append_left h]
theorem own_ap_eq {K : List Int32} {d : Int32} {j : Nat} (h : j = K.length) : (K ++ [d]).getD j 0 = d := by
  subst h; simp [List.getD_eq_getElem?_getD]
theorem own_ap_all {K : List Int32} {P : Int32 → Prop} {d : Int32} (h : ∀ x ∈ K, P x) (hd : P d) : ∀ x ∈ K ++ [d], P x := fun x hx => by
  rcases List.mem_append.mp hx with q | q
  · exact h x q
  · rw [List.mem_singleton.mp q]; exact hd
theorem own_and3 (x : Int32) : (x &&& (3 : Int32)) = (0 : Int32) ∨ (x &&& (3 : Int32)) = (1 : Int32) ∨ (x &&& (3 : Int32)) = (2 : Int32) ∨ (x &&& (3 : Int32)) = (3 : Int32) := by
  have h := c_and x 3 (by decide)
  simp only [← Int32.toInt_inj]
  have e0 : (0 : Int32).toInt = 0 := by decide
  have e1 : (1 : Int32).toInt = 1 := by decide
  have e2 : (2 : Int32).toInt = 2 := by decide
  have e3 : (3 : Int32).toInt = 3 := by decide
  omega
end Jvm.OwnK
namespace Jvm.OwnK
open Jvm Sem ClassFile Op Lib Jvm.Free Jvm.Stand Jvm.LawKit Jvm.RoadKit Bundle
theorem own_shl0 (x : Int32) : x <<< ((0 : Int32) &&& 31) = x := by
  apply Int32.toInt_inj.mp
  have l := c_ishl x 0 0 (by decide)
  have p0 : ((2 ^ 0 : Nat) : Int) = 1 := by decide
  rw [p0] at l
  have r := rng32 (x <<< ((0 : Int32) &&& 31))
  have r2 := rng32 x
  omega
theorem own_sbcat {us ws : List Int32} {k j m : Nat} (hk : k = us.length) (hj : j = ws.length) (i : Nat) : ((us ++ ws).map Value.int).getD i (Value.int (0 : Int32)) = ((us.map Value.int ++ List.replicate m (Value.int (0 : Int32))).take k ++ ws.map Value.int ++ (us.map Value.int ++ List.replicate m (Value.int (0 : Int32))).drop (k + j)).getD i (Value.int (0 : Int32)) := by
  subst hk hj
  have e1 : (us.map Value.int ++ List.replicate m (Value.int (0 : Int32))).take us.length = us.map Value.int := by
    rw [List.take_append_of_le_length (by simp), List.take_of_length_le (by simp)]
  have e2 : (us.map Value.int ++ List.replicate m (Value.int (0 : Int32))).drop (us.length + ws.length) = List.replicate (m - ws.length) (Value.int (0 : Int32)) := by
    rw [List.drop_append, List.drop_of_length_le (by simp), List.nil_append, List.drop_replicate]
    congr 1
    simp
  rw [e1, e2, ← List.map_append]
  exact (pad_rep _ _ _ i).symm
end Jvm.OwnK
namespace Jvm.OwnK
open Jvm Sem ClassFile Op Lib Jvm.Free Jvm.Stand Jvm.LawKit Jvm.RoadKit Bundle
theorem own_fit34 {cnt z2 : Int32} (h1 : ¬ cnt < 0) (h2 : ¬ z2 < 0) (h : cnt.toNatClampNeg + z2.toNatClampNeg ≤ 34) : ¬ (0 : Int32) < (cnt + z2 - (34 : Int32)) := by
  have n1 := clamp_toInt h1
  have n2 := clamp_toInt h2
  have e0 : (0 : Int32).toInt = 0 := by decide
  have e34 : (34 : Int32).toInt = 34 := by decide
  have a := c_iadd cnt z2
  have r := rng32 (cnt + z2)
  have b := c_isub (cnt + z2) 34
  have r2 := rng32 (cnt + z2 - 34)
  rw [Int32.lt_iff_toInt_lt, e0]
  omega
end Jvm.OwnK
namespace Jvm.OwnK
open Jvm Sem ClassFile Op Lib Jvm.Free Jvm.Stand Jvm.LawKit Jvm.RoadKit Bundle
theorem own_min34 {cnt : Int32} (h0 : ¬ cnt < 0) (h : cnt.toNatClampNeg ≤ 34) : (if cnt < (34 : Int32) then cnt else (34 : Int32)) = cnt := by
  by_cases q : cnt < (34 : Int32)
  · rw [if_pos q]
  · rw [if_neg q]
    have n := clamp_toInt h0
    have e : (34 : Int32).toInt = 34 := by decide
    rw [Int32.lt_iff_toInt_lt, e] at q
    apply Int32.toInt_inj.mp
    rw [e]
    omega
theorem own_cpall {us : List Int32} {k : Nat} (hk : k = us.length) (i : Nat) : (us.map Value.int).getD i (Value.int (0 : Int32)) = ((List.replicate us.length (Value.int (0 : Int32))).take (0 : Int32).toNatClampNeg ++ us.map Value.int ++ (List.replicate us.length (Value.int (0 : Int32))).drop ((0 : Int32).toNatClampNeg + k)).getD i (Value.int (0 : Int32)) := by
  have e : (0 : Int32).toNatClampNeg = 0 := by decide
  rw [e, List.take_zero, List.nil_append, List.drop_of_length_le (by simp; omega), List.append_nil]
theorem own_addc {c z : Int32} (h1 : ¬ c < 0) (h2 : ¬ z < 0) (h : c.toNatClampNeg + z.toNatClampNeg < 1000) : ¬ (c + z) < 0 ∧ (c + z).toNatClampNeg = c.toNatClampNeg + z.toNatClampNeg := by
  have n1 := clamp_toInt h1
  have n2 := clamp_toInt h2
  have e0 : (0 : Int32).toInt = 0 := by decide
  have a := c_iadd c z
  have r := rng32 (c + z)
  have q : ¬ (c + z) < 0 := by
    rw [Int32.lt_iff_toInt_lt, e0]
    omega
  have n3 := clamp_toInt q
  exact ⟨q, by omega⟩
end Jvm.OwnK
namespace Jvm.OwnK
open Jvm Sem ClassFile Op Lib Jvm.Free Jvm.Stand Jvm.LawKit Jvm.RoadKit Bundle Jvm.Free.Exc
open LibCode.Throwable
theorem own_params {d : String} {sig : MethodDescriptor} {ps : List FieldType} (h : parseMethodDescriptor d = some sig) (e : (parseMethodDescriptor d).map (·.parameters) = some ps) : sig.parameters = ps := by
  rw [h] at e; exact Option.some.inj e
/-- Throwable's parts at s, where the layout of suppressedExceptions is told of the class rc only -/
theorem own_links {s : State} {args : Array Value} {pl : Platform} {rc : String} (howns : pl.frameOwnsMonitors = true) (hfin : pl.finalization = false) (hpl : pl.magicAccessors = ({} : Platform).magicAccessors)
    (wI : (Jvm.Cond.initialized tN).before args s = true) (wSup : (Jvm.Cond.superclass tN "java/lang/Object").before args s = true)
    (wF : (Jvm.Cond.instanceMethod tFill).before args s = true) (wFc : (Jvm.Cond.codeSync tFill Fill.code 1 (some (.object tN))).before args s = true) (w0 : (Jvm.Cond.instanceMethod tFill0).before args s = true) (w0n : (Jvm.Cond.native tFill0).before args s = true)
    (wO : (Jvm.Cond.instanceMethod oInit).before args s = true) (wOc : (Jvm.Cond.code oInit ⟨#[0xb1]⟩ 1 none).before args s = true)
    (m1 : (Jvm.Cond.methodLink tN 1 oInit).before args s = true) (m27 : (Jvm.Cond.methodLink tN 27 tFill).before args s = true) (m202 : (Jvm.Cond.methodLink tN 202 tFill0).before args s = true)
    (f7 : (Jvm.Cond.fieldLink tN 7 tN "cause" thD).before args s = true) (f17 : (Jvm.Cond.fieldLink tN 17 tN "stackTrace" steD).before args s = true) (f24 : (Jvm.Cond.fieldLink tN 24 tN "suppressedExceptions" listD).before args s = true) (f13 : (Jvm.Cond.fieldLink tN 13 tN "UNASSIGNED_STACK" steD).before args s = true) (f20 : (Jvm.Cond.fieldLink tN 20 tN "SUPPRESSED_SENTINEL" listD).before args s = true)
    (l7 : (Jvm.Cond.lays rc tN "cause" thD).before args s = true) (l17 : (Jvm.Cond.lays rc tN "stackTrace" steD).before args s = true) (l24 : (Jvm.Cond.lays rc tN "suppressedExceptions" listD).before args s = true) (lM : (Jvm.Cond.lays rc tN "detailMessage" msgD).before args s = true)
    {c13 c20 i13 i20 : Nat} {k13 k20 : Class} {g13 g20 : Field} {aS : Addr} (u13 : s.fieldFound? tN "UNASSIGNED_STACK" steD = some (c13, k13, i13, g13)) (t13 : g13.isStatic = true) (d13 : s.vm.findClass tN = some c13) (sS : k13.statics = some aS)
    (u20 : s.fieldFound? tN "SUPPRESSED_SENTINEL" listD = some (c20, k20, i20, g20)) (t20 : g20.isStatic = true) (d20 : s.vm.findClass tN = some c20) :
    ∃ (T : ThrowableC) (iS : Nat), T.Links pl s ∧ s.vm.findClass tN = some T.cT ∧ s.methodNamed? tFill = some T.fill ∧ s.methodNamed? tFill0 = some T.fill0 ∧ s.fieldFound? tN "stackTrace" steD = some (T.cT, T.kT, iS, T.fStack) ∧ T.fStack.name = "stackTrace" ∧ T.fStack.type = .array (.object "java/lang/StackTraceElement") ∧ T.fUnassigned = g13 ∧ T.aS = aS := by
  obtain ⟨k, hk, hname⟩ := Vm.findClass_spec d13
  obtain rfl : k13 = k := Option.some.inj ((State.fieldFound?_spec u13).1.symm.trans hk)
  obtain rfl : c20 = c13 := Option.some.inj (d20.symm.trans d13)
  obtain rfl : k20 = k13 := Option.some.inj ((State.fieldFound?_spec u20).1.symm.trans hk)
  have hinit := Cond.initialized_spec d13 hk wI
  have hni : k20.isInterface = false := by
    obtain ⟨_, k1, _, _, hk1, _, _, _, _, q⟩ := Cond.superclass_spec d13 wSup
    cases hk.symm.trans hk1
    exact q
  -- the two methods
  obtain ⟨iF, mF, nF, vF, aF, sF, bF, -, -⟩ := Cond.ownMethod (x := tFill) d13 hk wF
  obtain ⟨mF', cF, vF', eF, yF, lF, rF, kF, -, gF⟩ := Cond.codeSync_spec nF wFc
  cases vF.symm.trans vF'
  obtain ⟨i0, m0, n0, v0, a0, s0, b0, nm0, ds0⟩ := Cond.ownMethod (x := tFill0) d13 hk w0
  obtain ⟨id0, m0', n0', v0', na0, c0, lk0, g0⟩ := Cond.native_spec w0n
  cases n0.symm.trans n0'
  cases v0.symm.trans v0'
  -- Object's constructor
  obtain ⟨mO, mthO, nO, vO, sO, bO⟩ := Cond.instanceMethod_spec wO
  obtain ⟨mthO', cO, vO', eO, yO, lO, -, kO, -, gO⟩ := Cond.code_spec nO wOc
  cases vO.symm.trans vO'
  obtain ⟨kOb, hkO, hnO⟩ := Vm.findClass_spec (findClass_of_methodNamed nO)
  obtain ⟨nmO, dsO⟩ := name_of_methodNamed nO vO
  -- the links
  obtain ⟨ci1, n1, cf, hl1, hr1, hcf, hp1⟩ := Cond.linkedMethod d13 hk nO m1 pl hpl
  obtain ⟨ci27, n27, cf27, hl27, hr27, hcf27, hp27⟩ := Cond.linkedMethod d13 hk nF m27 pl hpl
  cases hcf.symm.trans hcf27
  obtain ⟨ci202, n202, cf202, hl202, hr202, hcf202, hp202⟩ := Cond.linkedMethod d13 hk n0 m202 pl hpl
  cases hcf.symm.trans hcf202
  obtain ⟨ci7, i7, g7, A7, B7, C7, D7, E7, F7, G7, H7⟩ := Cond.ownField (t := .object tN) d13 hk (by decide +kernel) f7 l7 pl hpl
  obtain ⟨ci17, i17, g17, A17, B17, C17, D17, E17, F17, G17, H17⟩ := Cond.ownField (t := .array (.object "java/lang/StackTraceElement")) d13 hk (by decide +kernel) f17 l17 pl hpl
  obtain ⟨ci24, i24, g24, A24, B24, C24, D24, E24, F24, G24, H24⟩ := Cond.ownField (t := .object "java/util/List") d13 hk (by decide +kernel) f24 l24 pl hpl
  obtain ⟨ci13, x1, x2, x3, x4, x5, A13, B13⟩ := Cond.fieldLink_spec d13 f13 pl hpl
  cases u13.symm.trans x5
  obtain ⟨ci20, y1, y2, y3, y4, y5, A20, B20⟩ := Cond.fieldLink_spec d13 f20 pl hpl
  cases u20.symm.trans y5
  obtain ⟨cR, kR, cM, kM, iM, gM, hcR, hkR, hfM, sM, fM, -⟩ := Cond.lays_spec lM
  have apart : g17.slot ≠ g24.slot := by
    obtain ⟨-, p, p1, p2⟩ := Cond.laysAt hcR hkR H17 l17
    obtain ⟨-, r, r1, r2⟩ := Cond.laysAt hcR hkR H24 l24
    exact Cond.laysApart p1 r1 p2 r2 (by rw [F17, F24]; decide)
  refine ⟨{ cT := c20, kT := k20, cO := c20, aS := aS, fillIdx := iF, fill0Idx := i0, initSIdx := iF, obj := mO, kObj := kOb, methFill := mF, methFill0 := m0, methInitS := mF, methObj := mthO, codeFill := cF, codeInitS := cF, codeObj := cO, fBack := g7, fDepth := g7, fStack := g17, fCause := g7, fSupp := g24, fMsg := gM, fUnassigned := g13, fSentinel := g20, cfT := cf, ci1 := ci1, n1 := n1, ci27 := ci27, n27 := n27, ci202 := ci202, n202 := n202, ci7 := ci7, i7 := i7, ci13 := ci13, i13 := i13, ci17 := ci17, i17 := i17, ci20 := ci20, i20 := i20, ci24 := ci24, i24 := i24 }, i17, ?_, d13, nF, n0, H17, F17, G17, rfl, rfl⟩
  constructor
  all_goals first
    | assumption
    | exact hname
    | exact Vm.findClass_boot d13 hk
    | exact nm0
    | exact ds0
    | exact (State.fieldFound?_spec u13).2
    | exact (State.fieldFound?_spec u20).2
    | exact own_params gF (by decide +kernel)
    | exact own_params g0 (by decide +kernel)
    | (show mthO.sig.parameters.length = 0; rw [own_params gO (ps := []) (by decide +kernel)]; rfl)
    | (show lookupSpecial s.vm mO.cls "<init>" mthO.desc = .method mO; rw [dsO]; exact lookupSpecial_of_named nO vO sO)
end Jvm.OwnK
namespace Jvm.OwnK
open Jvm Sem ClassFile Op Lib Jvm.Free Jvm.Stand Jvm.LawKit Jvm.RoadKit Bundle Jvm.Free.Exc
theorem own_ff {Z s : State} {vm0 : Vm} {C n d : String} {c i : Nat} {k : Class} {f : Field} (al : Z.vm.Alike vm0) (h : Z.fieldFound? C n d = some (c, k, i, f)) : ∃ k', (s.setVm vm0).fieldFound? C n d = some (c, k', i, f) ∧ k'.statics = k.statics := by
  obtain ⟨k', h1, h2⟩ := State.fieldFound?_setVm al h
  exact ⟨k', h1, by rw [h2]⟩
theorem own_unt_wr {h h' : Heap} {a b : Addr} {sl : Nat} {v : Value} (W : Wr h h' b sl v) (U : Unt h a) : Unt h' a := by
  obtain ⟨cell, q1, q2, q3⟩ := U
  obtain ⟨c0, w1, w2, w3, rfl⟩ := W
  by_cases e : b = a
  · subst e
    cases q1.symm.trans w1
    refine ⟨cell.setSlot sl v, ?_, q2, q3⟩
    have lt := (Array.getElem?_eq_some_iff.mp q1).1
    simp [Array.getElem?_setIfInBounds, lt]
  · exact ⟨cell, by rw [Array.getElem?_setIfInBounds_ne e]; exact q1, q2, q3⟩
theorem own_unt_keep {h h' : Heap} {a : Addr} {ws : List Addr} (K : Keep h h' ws) (q : a ∉ ws) (U : Unt h a) : Unt h' a := by
  obtain ⟨cell, q1, q2, q3⟩ := U
  exact ⟨cell, K.2.1 _ _ q1 q, q2, q3⟩
end Jvm.OwnK

namespace Jvm.OwnK
open Jvm Sem ClassFile Op Lib Jvm.Free Jvm.Stand Jvm.LawKit Jvm.RoadKit Bundle Jvm.Free.Exc
/-- what the sheet says of Throwable and of the exception's class rc -/
def ThrWL (rc : String) (nn : Nat) : List Jvm.Cond := [(Jvm.Cond.initialized tN), (Jvm.Cond.superclass tN "java/lang/Object"), (Jvm.Cond.instanceMethod tFill), (Jvm.Cond.codeSync tFill LibCode.Throwable.Fill.code 1 (some (.object tN))), (Jvm.Cond.instanceMethod tFill0), (Jvm.Cond.native tFill0), (Jvm.Cond.instanceMethod oInit), (Jvm.Cond.code oInit ⟨#[0xb1]⟩ 1 none), (Jvm.Cond.methodLink tN 1 oInit), (Jvm.Cond.methodLink tN 27 tFill), (Jvm.Cond.methodLink tN 202 tFill0), (Jvm.Cond.fieldLink tN 7 tN "cause" thD), (Jvm.Cond.fieldLink tN 17 tN "stackTrace" steD), (Jvm.Cond.fieldLink tN 24 tN "suppressedExceptions" listD), (Jvm.Cond.fieldLink tN 13 tN "UNASSIGNED_STACK" steD), (Jvm.Cond.fieldLink tN 20 tN "SUPPRESSED_SENTINEL" listD), (Jvm.Cond.fieldLink tN 198 tN "backtrace" obD), (Jvm.Cond.lays rc tN "cause" thD), (Jvm.Cond.lays rc tN "stackTrace" steD), (Jvm.Cond.lays rc tN "suppressedExceptions" listD), (Jvm.Cond.lays rc tN "detailMessage" msgD), (Jvm.Cond.lays rc tN "backtrace" obD), (Jvm.Cond.lays rc tN "depth" "I"), (Jvm.Cond.soleField tN "backtrace"), (Jvm.Cond.soleField tN "depth"), (Jvm.Cond.arrayOver (.object "java/lang/Object")), (Jvm.Cond.selects rc tFill0 tFill0), (Jvm.Cond.instantiable rc nn), (Jvm.Cond.laysStatic tN "UNASSIGNED_STACK" steD), (Jvm.Cond.laysStatic tN "SUPPRESSED_SENTINEL" listD)]
def ThrW (Z : State) (a0 : Array Value) (rc : String) (nn : Nat) : Prop := ∀ d ∈ ThrWL rc nn, d.before a0 Z = true
theorem ThrW.wI {Z : State} {a0 : Array Value} {rc : String} {nn : Nat} (w : ThrW Z a0 rc nn) : (Jvm.Cond.initialized tN).before a0 Z = true := w _ (List.mem_of_getElem? (i := 0) rfl)
theorem ThrW.wSup {Z : State} {a0 : Array Value} {rc : String} {nn : Nat} (w : ThrW Z a0 rc nn) : (Jvm.Cond.superclass tN "java/lang/Object").before a0 Z = true := w _ (List.mem_of_getElem? (i := 1) rfl)
theorem ThrW.wF {Z : State} {a0 : Array Value} {rc : String} {nn : Nat} (w : ThrW Z a0 rc nn) : (Jvm.Cond.instanceMethod tFill).before a0 Z = true := w _ (List.mem_of_getElem? (i := 2) rfl)
theorem ThrW.wFc {Z : State} {a0 : Array Value} {rc : String} {nn : Nat} (w : ThrW Z a0 rc nn) : (Jvm.Cond.codeSync tFill LibCode.Throwable.Fill.code 1 (some (.object tN))).before a0 Z = true := w _ (List.mem_of_getElem? (i := 3) rfl)
theorem ThrW.w0 {Z : State} {a0 : Array Value} {rc : String} {nn : Nat} (w : ThrW Z a0 rc nn) : (Jvm.Cond.instanceMethod tFill0).before a0 Z = true := w _ (List.mem_of_getElem? (i := 4) rfl)
theorem ThrW.w0n {Z : State} {a0 : Array Value} {rc : String} {nn : Nat} (w : ThrW Z a0 rc nn) : (Jvm.Cond.native tFill0).before a0 Z = true := w _ (List.mem_of_getElem? (i := 5) rfl)
theorem ThrW.wO {Z : State} {a0 : Array Value} {rc : String} {nn : Nat} (w : ThrW Z a0 rc nn) : (Jvm.Cond.instanceMethod oInit).before a0 Z = true := w _ (List.mem_of_getElem? (i := 6) rfl)
theorem ThrW.wOc {Z : State} {a0 : Array Value} {rc : String} {nn : Nat} (w : ThrW Z a0 rc nn) : (Jvm.Cond.code oInit ⟨#[0xb1]⟩ 1 none).before a0 Z = true := w _ (List.mem_of_getElem? (i := 7) rfl)
theorem ThrW.m1 {Z : State} {a0 : Array Value} {rc : String} {nn : Nat} (w : ThrW Z a0 rc nn) : (Jvm.Cond.methodLink tN 1 oInit).before a0 Z = true := w _ (List.mem_of_getElem? (i := 8) rfl)
theorem ThrW.m27 {Z : State} {a0 : Array Value} {rc : String} {nn : Nat} (w : ThrW Z a0 rc nn) : (Jvm.Cond.methodLink tN 27 tFill).before a0 Z = true := w _ (List.mem_of_getElem? (i := 9) rfl)
theorem ThrW.m202 {Z : State} {a0 : Array Value} {rc : String} {nn : Nat} (w : ThrW Z a0 rc nn) : (Jvm.Cond.methodLink tN 202 tFill0).before a0 Z = true := w _ (List.mem_of_getElem? (i := 10) rfl)
theorem ThrW.f7 {Z : State} {a0 : Array Value} {rc : String} {nn : Nat} (w : ThrW Z a0 rc nn) : (Jvm.Cond.fieldLink tN 7 tN "cause" thD).before a0 Z = true := w _ (List.mem_of_getElem? (i := 11) rfl)
theorem ThrW.f17 {Z : State} {a0 : Array Value} {rc : String} {nn : Nat} (w : ThrW Z a0 rc nn) : (Jvm.Cond.fieldLink tN 17 tN "stackTrace" steD).before a0 Z = true := w _ (List.mem_of_getElem? (i := 12) rfl)
theorem ThrW.f24 {Z : State} {a0 : Array Value} {rc : String} {nn : Nat} (w : ThrW Z a0 rc nn) : (Jvm.Cond.fieldLink tN 24 tN "suppressedExceptions" listD).before a0 Z = true := w _ (List.mem_of_getElem? (i := 13) rfl)
theorem ThrW.f13 {Z : State} {a0 : Array Value} {rc : String} {nn : Nat} (w : ThrW Z a0 rc nn) : (Jvm.Cond.fieldLink tN 13 tN "UNASSIGNED_STACK" steD).before a0 Z = true := w _ (List.mem_of_getElem? (i := 14) rfl)
theorem ThrW.f20 {Z : State} {a0 : Array Value} {rc : String} {nn : Nat} (w : ThrW Z a0 rc nn) : (Jvm.Cond.fieldLink tN 20 tN "SUPPRESSED_SENTINEL" listD).before a0 Z = true := w _ (List.mem_of_getElem? (i := 15) rfl)
theorem ThrW.f198 {Z : State} {a0 : Array Value} {rc : String} {nn : Nat} (w : ThrW Z a0 rc nn) : (Jvm.Cond.fieldLink tN 198 tN "backtrace" obD).before a0 Z = true := w _ (List.mem_of_getElem? (i := 16) rfl)
theorem ThrW.l7 {Z : State} {a0 : Array Value} {rc : String} {nn : Nat} (w : ThrW Z a0 rc nn) : (Jvm.Cond.lays rc tN "cause" thD).before a0 Z = true := w _ (List.mem_of_getElem? (i := 17) rfl)
theorem ThrW.l17 {Z : State} {a0 : Array Value} {rc : String} {nn : Nat} (w : ThrW Z a0 rc nn) : (Jvm.Cond.lays rc tN "stackTrace" steD).before a0 Z = true := w _ (List.mem_of_getElem? (i := 18) rfl)
theorem ThrW.l24 {Z : State} {a0 : Array Value} {rc : String} {nn : Nat} (w : ThrW Z a0 rc nn) : (Jvm.Cond.lays rc tN "suppressedExceptions" listD).before a0 Z = true := w _ (List.mem_of_getElem? (i := 19) rfl)
theorem ThrW.lM {Z : State} {a0 : Array Value} {rc : String} {nn : Nat} (w : ThrW Z a0 rc nn) : (Jvm.Cond.lays rc tN "detailMessage" msgD).before a0 Z = true := w _ (List.mem_of_getElem? (i := 20) rfl)
theorem ThrW.lB {Z : State} {a0 : Array Value} {rc : String} {nn : Nat} (w : ThrW Z a0 rc nn) : (Jvm.Cond.lays rc tN "backtrace" obD).before a0 Z = true := w _ (List.mem_of_getElem? (i := 21) rfl)
theorem ThrW.lD {Z : State} {a0 : Array Value} {rc : String} {nn : Nat} (w : ThrW Z a0 rc nn) : (Jvm.Cond.lays rc tN "depth" "I").before a0 Z = true := w _ (List.mem_of_getElem? (i := 22) rfl)
theorem ThrW.sB {Z : State} {a0 : Array Value} {rc : String} {nn : Nat} (w : ThrW Z a0 rc nn) : (Jvm.Cond.soleField tN "backtrace").before a0 Z = true := w _ (List.mem_of_getElem? (i := 23) rfl)
theorem ThrW.sD {Z : State} {a0 : Array Value} {rc : String} {nn : Nat} (w : ThrW Z a0 rc nn) : (Jvm.Cond.soleField tN "depth").before a0 Z = true := w _ (List.mem_of_getElem? (i := 24) rfl)
theorem ThrW.wA {Z : State} {a0 : Array Value} {rc : String} {nn : Nat} (w : ThrW Z a0 rc nn) : (Jvm.Cond.arrayOver (.object "java/lang/Object")).before a0 Z = true := w _ (List.mem_of_getElem? (i := 25) rfl)
theorem ThrW.wS {Z : State} {a0 : Array Value} {rc : String} {nn : Nat} (w : ThrW Z a0 rc nn) : (Jvm.Cond.selects rc tFill0 tFill0).before a0 Z = true := w _ (List.mem_of_getElem? (i := 26) rfl)
theorem ThrW.wi {Z : State} {a0 : Array Value} {rc : String} {nn : Nat} (w : ThrW Z a0 rc nn) : (Jvm.Cond.instantiable rc nn).before a0 Z = true := w _ (List.mem_of_getElem? (i := 27) rfl)
theorem ThrW.s13 {Z : State} {a0 : Array Value} {rc : String} {nn : Nat} (w : ThrW Z a0 rc nn) : (Jvm.Cond.laysStatic tN "UNASSIGNED_STACK" steD).before a0 Z = true := w _ (List.mem_of_getElem? (i := 28) rfl)
theorem ThrW.s20 {Z : State} {a0 : Array Value} {rc : String} {nn : Nat} (w : ThrW Z a0 rc nn) : (Jvm.Cond.laysStatic tN "SUPPRESSED_SENTINEL" listD).before a0 Z = true := w _ (List.mem_of_getElem? (i := 29) rfl)
set_option maxHeartbeats 4000000 in
theorem own_fillPays {l : Launch} {Z : State} {EL : List (String × Nat)} {n0 : Nat} {nr : Bool} {R : Room} {a0 : Array Value} {rc : String} {nn W : Nat} {h : Heap} {a u0 : Addr} (hl : l.stackTraces = true) (w : ThrW Z a0 rc nn)
    (hU : Sta Z Z.heap tN "UNASSIGNED_STACK" steD (.ref u0)) (E : Exa Z h a rc) (N : Unt h a) (FS : Fld Z h a tN "stackTrace" steD (.ref u0)) (FB : Fld Z h a tN "backtrace" obD .null) (hR1 : 2 < R.frames) (hR2 : W + 42 ≤ R.locals) :
    Pays l Z EL n0 nr true R 3 tFill W 1 2752 [a] #[.ref a] h (fun v h' SN => v = some (.ref a) ∧ SN = [] ∧ Exa Z h' a rc ∧ ∀ x, Fld Z h a tN "detailMessage" msgD x → Fld Z h' a tN "detailMessage" msgD x) := by
  intro p e below s args vm0 hx hZ hC hSf hO hEL hkn
  obtain ⟨hTK, hBl⟩ := hkn rfl
  obtain ⟨a1, hE1⟩ := hEL
  intro m meth c A g ig mk a' X hg hsize hdg hW hn hp
  have hZ' : Z.Warmed39 (s.setVm vm0).vm := hZ
  have al : Z.vm.Alike vm0 := hZ.alike
  have hpl : e.platform.magicAccessors = ({} : Platform).magicAccessors := by rw [X.admits.platform]
  have htr : e.platform.stackTraces = true := by rw [X.admits.platform]; exact hl
  have howns : e.platform.frameOwnsMonitors = true := by rw [X.admits.platform]
  have hfin : e.platform.finalization = false := by rw [X.admits.platform]
  obtain ⟨c13, k13, i13, g13, aS, cellS, hc13, hi13, t13, sS, hcS, hiss, hcls, hlt, hty⟩ := Cond.laysStatic_spec w.s13
  obtain ⟨c20, k20, i20, g20, aS2, cellS2, hc20, hi20, t20, sS2, -⟩ := Cond.laysStatic_spec w.s20
  obtain ⟨k13', u13, e13⟩ := own_ff (s := s) al hi13
  obtain ⟨k20', u20, e20⟩ := own_ff (s := s) al hi20
  have d13 : (s.setVm vm0).vm.findClass tN = some c13 := by show vm0.findClass tN = _; rw [al.findClass]; exact hc13
  have d20 : (s.setVm vm0).vm.findClass tN = some c20 := by show vm0.findClass tN = _; rw [al.findClass]; exact hc20
  obtain ⟨T, iS, L, q1, q2, q3, q4, q5, q6, q7, q8⟩ := own_links (s := s.setVm vm0) (args := args) (pl := e.platform) (rc := rc) howns hfin hpl (mvT hZ' w.wI) (mvT hZ' w.wSup) (mvT hZ' w.wF) (mvT hZ' w.wFc) (mvT hZ' w.w0) (mvT hZ' w.w0n) (mvT hZ' w.wO) (mvT hZ' w.wOc) (mvT hZ' w.m1) (mvT hZ' w.m27) (mvT hZ' w.m202) (mvT hZ' w.f7) (mvT hZ' w.f17) (mvT hZ' w.f24) (mvT hZ' w.f13) (mvT hZ' w.f20) (mvT hZ' w.l7) (mvT hZ' w.l17) (mvT hZ' w.l24) (mvT hZ' w.lM) u13 t13 d13 (e13.trans sS) u20 t20 d20
  obtain ⟨cell, hcell, hvm, hmon⟩ := N
  obtain ⟨cellE, kX, hE2, hfc, hkX, hstE, hszE⟩ := E
  cases hcell.symm.trans hE2
  obtain ⟨cI, kI, hI1, hI2, hord, -, -, hIsz⟩ := Cond.instantiable_spec w.wi
  cases hI1.symm.trans hfc
  cases hI2.symm.trans hkX
  obtain ⟨kX', hk', hek⟩ := al.2.2 _ _ hkX
  have hord' : kX'.kind = .ordinary := by rw [hek]; exact hord
  have hsz' : cell.slots.size = kX'.instanceTypes.size := by rw [hek]; exact hszE hord
  have hfc' : (s.setVm vm0).vm.findClass rc = some cell.cls := by show vm0.findClass rc = _; rw [al.findClass]; exact hfc
  obtain ⟨ci198, i198, fB, A1, A2, A3, A4, A5, A6, A7, A8⟩ := Cond.ownField (t := .object "java/lang/Object") q1 L.cls (by decide +kernel) (mvT hZ' w.f198 (args := args)) (mvT hZ' w.lB (args := args)) e.platform hpl
  have lD' : (Jvm.Cond.lays rc tN "depth" "I").before args (s.setVm vm0) = true := mvT hZ' w.lD
  obtain ⟨_, _, cD, kD, iD, fD, -, -, D3, D4, D5, -⟩ := Cond.lays_spec lD'
  cases Option.some.inj ((Cond.lays_declared lD' D3).symm.trans q1)
  obtain ⟨hkD, hatD⟩ := State.fieldFound?_spec D3
  cases hkD.symm.trans L.cls
  obtain ⟨hnD, htD⟩ := State.fieldFound?_type D3 (t := .int) (by decide +kernel)
  have hfb := Cond.soleField_find q1 L.cls (mvT hZ' w.sB (args := args)) A3 A6 A4
  have hfd := Cond.soleField_find q1 L.cls (mvT hZ' w.sD (args := args)) hatD hnD D4
  obtain ⟨comp, cO, kO, -, -, hkO, hkindO, hOb⟩ := Cond.arrayOver_spec (Cond.arrayOver_alike (a' := args) (U' := s.setVm vm0) al w.wA)
  obtain ⟨tyS, dS, hdS, hdnS⟩ := Cond.laysAt hfc' hk' q4 (mvT hZ' w.l17 (args := args))
  obtain ⟨tyB, dB, hdB, hdnB⟩ := Cond.laysAt hfc' hk' A8 (mvT hZ' w.lB (args := args))
  obtain ⟨tyD, dD, hdD, hdnD⟩ := Cond.laysAt hfc' hk' D3 lD'
  have tk : ∀ {f : Field} {v : Value}, kX'.instanceTypes[f.slot]? = some f.type → fits f.type v = true → Jvm.Takes (s.setVm vm0) cell f v := fun {f v} h1 h2 => by
    obtain ⟨r1, r2⟩ := Takes.of_laid (s := s.setVm vm0) (v := v) hk' hord' h1 h2
    exact ⟨by rw [hsz']; simpa using r1, by rw [hvm]; exact r2⟩
  obtain ⟨c1, _, _, _, f1, g1, g2, -, -, -, -, hvS⟩ := FS
  cases hcell.symm.trans g1
  obtain ⟨k1', u1, -⟩ := own_ff (s := s) al g2
  cases u1.symm.trans q4
  obtain ⟨c2, _, _, _, f2, g3, g4, -, -, -, -, hvB⟩ := FB
  cases hcell.symm.trans g3
  obtain ⟨k2', u2, -⟩ := own_ff (s := s) al g4
  cases u2.symm.trans A8
  have hcSh : h[aS]? = some cellS := hO.2.2 _ _ hcS
  obtain ⟨_, _, _, f3, st3, cell3, g5, -, -, g6, g7, -, hvU⟩ := hU
  cases g5.symm.trans hi13
  cases g6.symm.trans sS
  cases g7.symm.trans hcS
  have hneS : T.aS ≠ a := fun e => by
    rw [q8] at e; subst e
    cases hcSh.symm.trans hcell
    rw [hvm] at hiss; cases hiss
  have hsel0 : selectMethod e.platform (s.setVm vm0).vm cell.cls T.fill0 = .method T.fill0 := by
    obtain ⟨c9, r9, m9, z1, z2, z3, z4, -⟩ := Cond.selects_spec (mvT hZ' w.wS (args := args))
    cases Option.some.inj (z1.symm.trans hfc')
    cases Option.some.inj (z2.symm.trans (State.methodFound?_of_named q3 (by decide)))
    cases Option.some.inj (z3.symm.trans q3)
    rw [Launch.admits_selectMethod X.admits]; exact z4
  have FP := Jvm.Free.Str.fillPays (l := l) (R := R) (p := p) (e := e) (below := below) (s := s.setVm vm0) (sargs := args) (len := 3) (W := W) hx htr T L q2 (u0 := ⟨.ref u0, rfl⟩) (fun e => by cases e) (self := a) (cell := cell) (cellS := cellS) (fun _ => by rw [hvm]; simp) (by rw [hvm]; simp) (by rw [hmon]) (by rw [hmon]) hvS hsel0 hneS (fun e => by rw [e] at hiss; cases hiss) (by rw [q7]; exact hvU) (tk tyS (by rw [q6]; rfl))
    ⟨{ ci198 := ci198, i198 := i198, fBack := fB }, ⟨A1, A2, A3, A4⟩, hvB⟩ hTK hBl q1 hOb hkO hkindO hfb hfd (fun x => tk tyB (by rw [A7]; rfl)) (fun x => tk tyD (by rw [htD]; rfl)) hR1 hR2
  obtain ⟨v, ⟨U', L', cc, ss⟩, X', ⟨hv, vm', lines, hlines, hW', hU', hL', hc', hn'⟩, hst⟩ := FP m meth c A g ig mk a' X hg hsize hdg hW hn ⟨hp.1, hp.2.2.1, hp.2.2.2, by rw [hp.2.1]; exact hcell, by rw [q8, hp.2.1]; exact hcSh⟩
  dsimp only [Pt.U, Pt.locs, Pt.cells, Pt.slots] at X' hU' hL' hc' hn' hst
  have hb : (traceHolder cO lines).slots.size ≤ 2752 := Nat.le_trans (traceHolder_size_le cO hlines) (by decide)
  have lt : a < h.size := (Array.getElem?_eq_some_iff.mp hcell).1
  have hA : A.U.heap = h := hp.2.1
  generalize hCC : Jvm.Free.Str.filledOn T.toThrowableT fB fD cell ⟨.ref u0, rfl⟩ A.U.heap.size lines.length.toInt32 = C at hU'
  have hh : U'.heap = (h.push (traceHolder cO lines)).setIfInBounds a C := by rw [hU', ← hA]; rfl
  have ha1 : U'.heap[a]? = some C := by rw [hh]; simp [Array.getElem?_setIfInBounds, Array.size_push, Nat.lt_succ_of_lt lt]
  have hoth : ∀ (x : Addr) (cx : Cell), h[x]? = some cx → x ≠ a → U'.heap[x]? = some cx := fun x cx q ne => by
    rw [hh, Array.getElem?_setIfInBounds_ne (Ne.symm ne), Array.getElem?_push_lt (Array.getElem?_eq_some_iff.mp q).1]
    exact congrArg some (Array.getElem?_eq_some_iff.mp q).2
  have hsz2 : h.size ≤ U'.heap.size := by rw [hh]; simp
  have C1 : C.cls = cell.cls := by rw [← hCC]; rfl
  have C2 : C.vm = cell.vm := by rw [← hCC]; rfl
  have C3 : C.slots.size = cell.slots.size := by rw [← hCC]; simp [Jvm.Free.Str.filledOn, Cell.setSlot]
  have K : Keep h U'.heap [a] := ⟨hsz2, fun x cx q nm => hoth x cx q (fun e => nm (by rw [e]; exact List.mem_singleton.mpr rfl)), fun x cx q => by
    by_cases e : x = a
    · subst e
      cases hcell.symm.trans q
      exact ⟨C, ha1, C1, C2, C3⟩
    · exact ⟨cx, hoth x cx q e, rfl, rfl, rfl⟩⟩
  have B1 : CHr Z EL vm0 h vm0 U'.heap := CHr.keep K (fun x hx => (hSf x hx).2) hC
  have X2 := X'.more (Nat.le_refl cc) (show ss ≤ A.slots + 2752 by rw [hn']; exact Nat.add_le_add_left hb _)
  have B2 := CHv.at X2 hZ hE1 B1.1
  refine ⟨v, ⟨U', L', cc, A.slots + 2752⟩, X2.retabled X2.warmed.wide, X2.warmed.since _, by rw [hA]; exact hsz2, ⟨_, [], ⟨hv, rfl, ⟨C, kX, ha1, by rw [C1]; exact hfc, by rw [C1]; exact hkX, by rw [C2]; exact hstE, fun ho => by rw [C3]; exact hszE ho⟩, ?_⟩, ?_, K, fun x hx => (nomatch hx), B1.trans B2, fun _ => X2.warmed, hL', hc', rfl⟩, hst⟩
  · rintro x ⟨c7, cf7, k7, i7, f7, r1, r2, r3, r4, r5, r6, r7⟩
    cases hcell.symm.trans r1
    obtain ⟨k8, u8, -⟩ := own_ff (s := s) al r2
    obtain ⟨-, d8, hd8, hdn8⟩ := Cond.laysAt hfc' hk' u8 (mvT hZ' w.lM (args := args))
    have n8 := (State.fieldFound?_type u8 (t := .object "java/lang/String") (by decide +kernel)).1
    have x1 := Cond.laysApart hd8 hdB hdn8 hdnB (by rw [n8, A6]; decide)
    have x2 := Cond.laysApart hd8 hdD hdn8 hdnD (by rw [n8, hnD]; decide)
    have x3 := Cond.laysApart hd8 hdS hdn8 hdnS (by rw [n8, q5]; decide)
    refine ⟨C, cf7, k7, i7, f7, ha1, r2, r3, by rw [C2]; exact r4, by rw [C2]; exact r5, by rw [C1]; exact r6, ?_⟩
    rw [← hCC]
    simpa [Jvm.Free.Str.filledOn, Cell.setSlot, Array.getElem?_setIfInBounds, Ne.symm x1, Ne.symm x2, Ne.symm x3] using r7
  · have ge : n0 ≤ a := (hSf a (List.mem_singleton.mpr rfl)).1.1
    intro y hy
    simp only [List.mem_cons, List.not_mem_nil, or_false] at hy
    rcases hy with rfl | rfl | rfl <;> exact ge
end Jvm.OwnK

namespace Jvm.Pilot.@@N@@
open Jvm Jvm.ClassFile Sem Op Lib Jvm.Free Jvm.Stand Jvm.LawKit Jvm.RoadKit Bundle Jvm.OwnK Jvm.Pilot.@@N@@.Jvm.D
abbrev EL0 : List (String × Nat) := [("com/example/slackline/slackline/UsageException", 14), ("com/example/slackline/slackline/UsageException", 20), ("java/lang/String", 7)]
abbrev NR0 : Bool := false
abbrev KN0 : Bool := true
abbrev CAP : Nat := 25
abbrev PFX : List Int32 := [(117 : Int32), (110 : Int32), (114 : Int32), (101 : Int32), (99 : Int32), (111 : Int32), (103 : Int32), (110 : Int32), (105 : Int32), (122 : Int32), (101 : Int32), (100 : Int32), (32 : Int32), (111 : Int32), (112 : Int32), (116 : Int32), (105 : Int32), (111 : Int32), (110 : Int32), (32 : Int32), (39 : Int32)]
def Stat (Z : State) : Prop := (∃ zc : Int32, Sta Z Z.heap "java/lang/String" "COMPACT_STRINGS" "Z" (.int zc) ∧ ¬ zc = 0) ∧ ((∃ u0 : Addr, Sta Z Z.heap "java/lang/Throwable" "UNASSIGNED_STACK" "[Ljava/lang/StackTraceElement;" (.ref u0)) ∧ ∃ v0 : Addr, Sta Z Z.heap "java/lang/Throwable" "SUPPRESSED_SENTINEL" "Ljava/util/List;" (.ref v0)) ∧ True
theorem hs_c {Z : State} (h : Stat Z) : (∃ zc : Int32, Sta Z Z.heap "java/lang/String" "COMPACT_STRINGS" "Z" (.int zc) ∧ ¬ zc = 0) := h.1
theorem hs_T {Z : State} (h : Stat Z) : ((∃ u0 : Addr, Sta Z Z.heap "java/lang/Throwable" "UNASSIGNED_STACK" "[Ljava/lang/StackTraceElement;" (.ref u0)) ∧ ∃ v0 : Addr, Sta Z Z.heap "java/lang/Throwable" "SUPPRESSED_SENTINEL" "Ljava/util/List;" (.ref v0)) := h.2.1
theorem lc_32 : (32 : Int32).toInt8.toInt32 = (32 : Int32) := by decide
theorem lc_39 : (39 : Int32).toInt8.toInt32 = (39 : Int32) := by decide
theorem lc_99 : (99 : Int32).toInt8.toInt32 = (99 : Int32) := by decide
theorem lc_100 : (100 : Int32).toInt8.toInt32 = (100 : Int32) := by decide
theorem lc_101 : (101 : Int32).toInt8.toInt32 = (101 : Int32) := by decide
theorem lc_103 : (103 : Int32).toInt8.toInt32 = (103 : Int32) := by decide
theorem lc_105 : (105 : Int32).toInt8.toInt32 = (105 : Int32) := by decide
theorem lc_110 : (110 : Int32).toInt8.toInt32 = (110 : Int32) := by decide
theorem lc_111 : (111 : Int32).toInt8.toInt32 = (111 : Int32) := by decide
theorem lc_112 : (112 : Int32).toInt8.toInt32 = (112 : Int32) := by decide
theorem lc_114 : (114 : Int32).toInt8.toInt32 = (114 : Int32) := by decide
theorem lc_116 : (116 : Int32).toInt8.toInt32 = (116 : Int32) := by decide
theorem lc_117 : (117 : Int32).toInt8.toInt32 = (117 : Int32) := by decide
theorem lc_122 : (122 : Int32).toInt8.toInt32 = (122 : Int32) := by decide
abbrev N_0 : MethodName := ⟨"java/lang/AbstractStringBuilder", "<init>", "(I)V"⟩
abbrev N_1 : MethodName := ⟨"java/lang/StringBuilder", "<init>", "()V"⟩
abbrev N_2 : MethodName := ⟨"java/lang/Math", "max", "(II)I"⟩
abbrev N_3 : MethodName := ⟨"java/lang/Math", "min", "(II)I"⟩
abbrev N_4 : MethodName := ⟨"java/lang/AbstractStringBuilder", "ensureCapacityInternal", "(I)V"⟩
abbrev N_5 : MethodName := ⟨"jdk/internal/util/ArraysSupport", "newLength", "(III)I"⟩
abbrev N_6 : MethodName := ⟨"java/lang/AbstractStringBuilder", "newCapacity", "(I)I"⟩
abbrev N_7 : MethodName := ⟨"java/util/Arrays", "copyOf", "([BI)[B"⟩
abbrev N_8 : MethodName := ⟨"java/lang/String", "coder", "()B"⟩
abbrev N_9 : MethodName := ⟨"java/lang/String", "getBytes", "([BIB)V"⟩
abbrev N_10 : MethodName := ⟨"java/lang/AbstractStringBuilder", "inflateIfNeededFor", "(Ljava/lang/String;)V"⟩
abbrev N_11 : MethodName := ⟨"java/lang/AbstractStringBuilder", "putStringAt", "(ILjava/lang/String;)V"⟩
abbrev N_12 : MethodName := ⟨"java/lang/String", "length", "()I"⟩
abbrev N_13 : MethodName := ⟨"java/lang/AbstractStringBuilder", "append", "(Ljava/lang/String;)Ljava/lang/AbstractStringBuilder;"⟩
abbrev N_14 : MethodName := ⟨"java/lang/StringBuilder", "append", "(Ljava/lang/String;)Ljava/lang/StringBuilder;"⟩
abbrev N_15 : MethodName := ⟨"java/lang/AbstractStringBuilder", "getValue", "()[B"⟩
abbrev N_16 : MethodName := ⟨"java/lang/AbstractStringBuilder", "length", "()I"⟩
abbrev N_17 : MethodName := ⟨"java/lang/StringBuilder", "length", "()I"⟩
abbrev N_18 : MethodName := ⟨"java/lang/AbstractStringBuilder", "isLatin1", "()Z"⟩
abbrev N_19 : MethodName := ⟨"java/util/Arrays", "checkLength", "(II)V"⟩
abbrev N_20 : MethodName := ⟨"java/util/Arrays", "copyOfRangeByte", "([BII)[B"⟩
abbrev N_21 : MethodName := ⟨"java/util/Arrays", "copyOfRange", "([BII)[B"⟩
abbrev N_22 : MethodName := ⟨"java/lang/String", "<init>", "(Ljava/lang/AbstractStringBuilder;Ljava/lang/Void;)V"⟩
abbrev N_23 : MethodName := ⟨"java/lang/String", "<init>", "(Ljava/lang/StringBuilder;)V"⟩
abbrev N_24 : MethodName := ⟨"java/lang/StringBuilder", "toString", "()Ljava/lang/String;"⟩
abbrev N_25 : MethodName := ⟨"java/lang/Throwable", "fillInStackTrace", "()Ljava/lang/Throwable;"⟩
abbrev N_26 : MethodName := ⟨"java/lang/Throwable", "<init>", "(Ljava/lang/String;)V"⟩
abbrev N_27 : MethodName := ⟨"java/lang/Exception", "<init>", "(Ljava/lang/String;)V"⟩
abbrev N_28 : MethodName := ⟨"com/example/slackline/slackline/UsageException", "<init>", "(Ljava/lang/String;)V"⟩
abbrev N_29 : MethodName := ⟨"java/lang/Throwable", "getMessage", "()Ljava/lang/String;"⟩
abbrev N_30 : MethodName := ⟨"com/example/slackline/slackline/UsageException", "unrecognizedOption", "(Ljava/lang/String;)Lcom/example/slackline/slackline/UsageException;"⟩
abbrev N_31 : MethodName := ⟨"java/lang/StringUTF16", "compress", "([CI[BII)I"⟩
abbrev N_32 : MethodName := ⟨"java/lang/StringUTF16", "compress", "([CII)[B"⟩
abbrev N_33 : MethodName := ⟨"java/lang/StringUTF16", "coderFromArrayLen", "([BI)B"⟩
abbrev N_34 : MethodName := ⟨"java/lang/String", "<init>", "([CIILjava/lang/Void;)V"⟩
abbrev N_35 : MethodName := ⟨"java/lang/String", "<init>", "([C)V"⟩
abbrev N_36 : MethodName := ⟨"java/lang/StringLatin1", "equals", "([B[B)Z"⟩
abbrev N_37 : MethodName := ⟨"java/lang/String", "equals", "(Ljava/lang/Object;)Z"⟩
abbrev N_38 : MethodName := ⟨"com/example/slackline/slackline/UsageExceptionUnrecognizedOptionPinLaw", "opt", "(CCCI)Ljava/lang/String;"⟩
abbrev N_39 : MethodName := ⟨"com/example/slackline/slackline/UsageExceptionUnrecognizedOptionPinLaw", "expected", "(CCCI)Ljava/lang/String;"⟩
abbrev N_40 : MethodName := ⟨"com/example/slackline/slackline/UsageException", "getMessage", "()Ljava/lang/String;"⟩
theorem pd_0 : parseMethodDescriptor "(I)V" = some ⟨[.int], none⟩ := by decide +kernel
theorem pd_1 : parseMethodDescriptor "(II)I" = some ⟨[.int, .int], some .int⟩ := by decide +kernel
theorem pd_2 : parseMethodDescriptor "(III)I" = some ⟨[.int, .int, .int], some .int⟩ := by decide +kernel
theorem pd_3 : parseMethodDescriptor "(I)I" = some ⟨[.int], some .int⟩ := by decide +kernel
theorem pd_4 : parseMethodDescriptor "([BI)[B" = some ⟨[(.array .byte), .int], some (.array .byte)⟩ := by decide +kernel
theorem pd_5 : parseMethodDescriptor "()B" = some ⟨[], some .byte⟩ := by decide +kernel
theorem pd_6 : parseMethodDescriptor "(Ljava/lang/String;)V" = some ⟨[(.object "java/lang/String")], none⟩ := by decide +kernel
theorem pd_7 : parseMethodDescriptor "([BIB)V" = some ⟨[(.array .byte), .int, .byte], none⟩ := by decide +kernel
theorem pd_8 : parseMethodDescriptor "()I" = some ⟨[], some .int⟩ := by decide +kernel
theorem pd_9 : parseMethodDescriptor "(ILjava/lang/String;)V" = some ⟨[.int, (.object "java/lang/String")], none⟩ := by decide +kernel
theorem pd_10 : parseMethodDescriptor "(Ljava/lang/String;)Ljava/lang/AbstractStringBuilder;" = some ⟨[(.object "java/lang/String")], some (.object "java/lang/AbstractStringBuilder")⟩ := by decide +kernel
theorem pd_11 : parseMethodDescriptor "(II)V" = some ⟨[.int, .int], none⟩ := by decide +kernel
theorem pd_12 : parseMethodDescriptor "([BII)[B" = some ⟨[(.array .byte), .int, .int], some (.array .byte)⟩ := by decide +kernel
theorem pd_13 : parseMethodDescriptor "()[B" = some ⟨[], some (.array .byte)⟩ := by decide +kernel
theorem pd_14 : parseMethodDescriptor "()Z" = some ⟨[], some .boolean⟩ := by decide +kernel
theorem pd_15 : parseMethodDescriptor "(Ljava/lang/AbstractStringBuilder;Ljava/lang/Void;)V" = some ⟨[(.object "java/lang/AbstractStringBuilder"), (.object "java/lang/Void")], none⟩ := by decide +kernel
theorem pd_16 : parseMethodDescriptor "(Ljava/lang/StringBuilder;)V" = some ⟨[(.object "java/lang/StringBuilder")], none⟩ := by decide +kernel
theorem pd_17 : parseMethodDescriptor "()Ljava/lang/Throwable;" = some ⟨[], some (.object "java/lang/Throwable")⟩ := by decide +kernel
theorem pd_18 : parseMethodDescriptor "()V" = some ⟨[], none⟩ := by decide +kernel
theorem pd_19 : parseMethodDescriptor "(Ljava/lang/String;)Ljava/lang/StringBuilder;" = some ⟨[(.object "java/lang/String")], some (.object "java/lang/StringBuilder")⟩ := by decide +kernel
theorem pd_20 : parseMethodDescriptor "()Ljava/lang/String;" = some ⟨[], some (.object "java/lang/String")⟩ := by decide +kernel
theorem pd_21 : parseMethodDescriptor "([CI[BII)I" = some ⟨[(.array .char), .int, (.array .byte), .int, .int], some .int⟩ := by decide +kernel
theorem pd_22 : parseMethodDescriptor "([CII)[B" = some ⟨[(.array .char), .int, .int], some (.array .byte)⟩ := by decide +kernel
theorem pd_23 : parseMethodDescriptor "([BI)B" = some ⟨[(.array .byte), .int], some .byte⟩ := by decide +kernel
theorem pd_24 : parseMethodDescriptor "([CIILjava/lang/Void;)V" = some ⟨[(.array .char), .int, .int, (.object "java/lang/Void")], none⟩ := by decide +kernel
theorem pd_25 : parseMethodDescriptor "([B[B)Z" = some ⟨[(.array .byte), (.array .byte)], some .boolean⟩ := by decide +kernel
theorem pd_26 : parseMethodDescriptor "([C)V" = some ⟨[(.array .char)], none⟩ := by decide +kernel
theorem pd_27 : parseMethodDescriptor "(CCCI)Ljava/lang/String;" = some ⟨[.char, .char, .char, .int], some (.object "java/lang/String")⟩ := by decide +kernel
theorem pd_28 : parseMethodDescriptor "(Ljava/lang/String;)Lcom/example/slackline/slackline/UsageException;" = some ⟨[(.object "java/lang/String")], some (.object "com/example/slackline/slackline/UsageException")⟩ := by decide +kernel
theorem pd_29 : parseMethodDescriptor "(Ljava/lang/Object;)Z" = some ⟨[(.object "java/lang/Object")], some .boolean⟩ := by decide +kernel
theorem lit_0 : (∀ c ∈ ("unrecognized option '" : String).toList, c.toNat < 256) ∧ ("unrecognized option '" : String).toList.map (fun c => Value.int (Jvm.Lit.byteI c.toNat.toUInt16)) = [(.int (117 : Int32)), (.int (110 : Int32)), (.int (114 : Int32)), (.int (101 : Int32)), (.int (99 : Int32)), (.int (111 : Int32)), (.int (103 : Int32)), (.int (110 : Int32)), (.int (105 : Int32)), (.int (122 : Int32)), (.int (101 : Int32)), (.int (100 : Int32)), (.int (32 : Int32)), (.int (111 : Int32)), (.int (112 : Int32)), (.int (116 : Int32)), (.int (105 : Int32)), (.int (111 : Int32)), (.int (110 : Int32)), (.int (32 : Int32)), (.int (39 : Int32))] := ⟨by decide +kernel, by decide +kernel⟩
theorem lit_1 : (∀ c ∈ ("'" : String).toList, c.toNat < 256) ∧ ("'" : String).toList.map (fun c => Value.int (Jvm.Lit.byteI c.toNat.toUInt16)) = [(.int (39 : Int32))] := ⟨by decide +kernel, by decide +kernel⟩
theorem lit_2 : (∀ c ∈ ("" : String).toList, c.toNat < 256) ∧ ("" : String).toList.map (fun c => Value.int (Jvm.Lit.byteI c.toNat.toUInt16)) = [] := ⟨by decide +kernel, by decide +kernel⟩
theorem ic_0 : Int32.ofInt (0) = (0 : Int32) := by decide
theorem ic_1 : Int32.ofInt (1) = (1 : Int32) := by decide
theorem ic_2 : Int32.ofInt (2) = (2 : Int32) := by decide
theorem ic_3 : Int32.ofInt (3) = (3 : Int32) := by decide
theorem ic_4 : Int32.ofInt (4) = (4 : Int32) := by decide
theorem ic_5 : Int32.ofInt (5) = (5 : Int32) := by decide
theorem icb_6 : (Int8.ofInt (6)).toInt32 = (6 : Int32) := by decide
theorem icb_7 : (Int8.ofInt (7)).toInt32 = (7 : Int32) := by decide
theorem icb_8 : (Int8.ofInt (8)).toInt32 = (8 : Int32) := by decide
theorem icb_9 : (Int8.ofInt (9)).toInt32 = (9 : Int32) := by decide
theorem icb_10 : (Int8.ofInt (10)).toInt32 = (10 : Int32) := by decide
theorem icb_11 : (Int8.ofInt (11)).toInt32 = (11 : Int32) := by decide
theorem icb_12 : (Int8.ofInt (12)).toInt32 = (12 : Int32) := by decide
theorem icb_13 : (Int8.ofInt (13)).toInt32 = (13 : Int32) := by decide
theorem icb_14 : (Int8.ofInt (14)).toInt32 = (14 : Int32) := by decide
theorem icb_15 : (Int8.ofInt (15)).toInt32 = (15 : Int32) := by decide
theorem icb_16 : (Int8.ofInt (16)).toInt32 = (16 : Int32) := by decide
theorem icb_17 : (Int8.ofInt (17)).toInt32 = (17 : Int32) := by decide
theorem icb_18 : (Int8.ofInt (18)).toInt32 = (18 : Int32) := by decide
theorem icb_19 : (Int8.ofInt (19)).toInt32 = (19 : Int32) := by decide
theorem icb_20 : (Int8.ofInt (20)).toInt32 = (20 : Int32) := by decide
theorem icb_21 : (Int8.ofInt (21)).toInt32 = (21 : Int32) := by decide
theorem icb_22 : (Int8.ofInt (22)).toInt32 = (22 : Int32) := by decide
theorem icb_23 : (Int8.ofInt (23)).toInt32 = (23 : Int32) := by decide
theorem icb_24 : (Int8.ofInt (24)).toInt32 = (24 : Int32) := by decide
theorem icb_25 : (Int8.ofInt (25)).toInt32 = (25 : Int32) := by decide
theorem icb_31 : (Int8.ofInt (31)).toInt32 = (31 : Int32) := by decide
theorem icb_32 : (Int8.ofInt (32)).toInt32 = (32 : Int32) := by decide
theorem icb_39 : (Int8.ofInt (39)).toInt32 = (39 : Int32) := by decide
theorem icb_99 : (Int8.ofInt (99)).toInt32 = (99 : Int32) := by decide
theorem icb_100 : (Int8.ofInt (100)).toInt32 = (100 : Int32) := by decide
theorem icb_101 : (Int8.ofInt (101)).toInt32 = (101 : Int32) := by decide
theorem icb_103 : (Int8.ofInt (103)).toInt32 = (103 : Int32) := by decide
theorem icb_105 : (Int8.ofInt (105)).toInt32 = (105 : Int32) := by decide
theorem icb_110 : (Int8.ofInt (110)).toInt32 = (110 : Int32) := by decide
theorem icb_111 : (Int8.ofInt (111)).toInt32 = (111 : Int32) := by decide
theorem icb_112 : (Int8.ofInt (112)).toInt32 = (112 : Int32) := by decide
theorem icb_114 : (Int8.ofInt (114)).toInt32 = (114 : Int32) := by decide
theorem icb_116 : (Int8.ofInt (116)).toInt32 = (116 : Int32) := by decide
theorem icb_117 : (Int8.ofInt (117)).toInt32 = (117 : Int32) := by decide
theorem icb_122 : (Int8.ofInt (122)).toInt32 = (122 : Int32) := by decide
theorem ics_255 : (Int16.ofInt (255)).toInt32 = (255 : Int32) := by decide
theorem d_prog_53_method_1_0 : decode prog_53_method_1_code 0 = .ok (.aload_n 0, 1) := by decide +kernel
theorem d_prog_53_method_1_1 : decode prog_53_method_1_code 1 = .ok (.aload_n 1, 1) := by decide +kernel
theorem d_prog_53_method_1_2 : decode prog_53_method_1_code 2 = .ok (.invokespecial 1, 3) := by decide +kernel
theorem d_prog_53_method_1_5 : decode prog_53_method_1_code 5 = .ok (.return_, 1) := by decide +kernel
theorem d_prog_53_method_2_0 : decode prog_53_method_2_code 0 = .ok (.new 7, 3) := by decide +kernel
theorem d_prog_53_method_2_3 : decode prog_53_method_2_code 3 = .ok (.dup, 1) := by decide +kernel
theorem d_prog_53_method_2_4 : decode prog_53_method_2_code 4 = .ok (.new 9, 3) := by decide +kernel
theorem d_prog_53_method_2_7 : decode prog_53_method_2_code 7 = .ok (.dup, 1) := by decide +kernel
theorem d_prog_53_method_2_8 : decode prog_53_method_2_code 8 = .ok (.invokespecial 11, 3) := by decide +kernel
theorem d_prog_53_method_2_11 : decode prog_53_method_2_code 11 = .ok (.ldc 14, 2) := by decide +kernel
theorem d_prog_53_method_2_13 : decode prog_53_method_2_code 13 = .ok (.invokevirtual 16, 3) := by decide +kernel
theorem d_prog_53_method_2_16 : decode prog_53_method_2_code 16 = .ok (.aload_n 0, 1) := by decide +kernel
theorem d_prog_53_method_2_17 : decode prog_53_method_2_code 17 = .ok (.invokevirtual 16, 3) := by decide +kernel
theorem d_prog_53_method_2_20 : decode prog_53_method_2_code 20 = .ok (.ldc 20, 2) := by decide +kernel
theorem d_prog_53_method_2_22 : decode prog_53_method_2_code 22 = .ok (.invokevirtual 16, 3) := by decide +kernel
theorem d_prog_53_method_2_25 : decode prog_53_method_2_code 25 = .ok (.invokevirtual 22, 3) := by decide +kernel
theorem d_prog_53_method_2_28 : decode prog_53_method_2_code 28 = .ok (.invokespecial 26, 3) := by decide +kernel
theorem d_prog_53_method_2_31 : decode prog_53_method_2_code 31 = .ok (.areturn, 1) := by decide +kernel
theorem d_method_4_0 : decode method_4_code 0 = .ok (.iload_n 3, 1) := by decide +kernel
theorem d_method_4_1 : decode method_4_code 1 = .ok (.ifCond .ne 141, 3) := by decide +kernel
theorem d_method_4_4 : decode method_4_code 4 = .ok (.new 27, 3) := by decide +kernel
theorem d_method_4_7 : decode method_4_code 7 = .ok (.dup, 1) := by decide +kernel
theorem d_method_4_8 : decode method_4_code 8 = .ok (.bipush 22, 2) := by decide +kernel
theorem d_method_4_10 : decode method_4_code 10 = .ok (.newarray .char, 2) := by decide +kernel
theorem d_method_4_12 : decode method_4_code 12 = .ok (.dup, 1) := by decide +kernel
theorem d_method_4_13 : decode method_4_code 13 = .ok (.iconst 0, 1) := by decide +kernel
theorem d_method_4_14 : decode method_4_code 14 = .ok (.bipush 117, 2) := by decide +kernel
theorem d_method_4_16 : decode method_4_code 16 = .ok (.castore, 1) := by decide +kernel
theorem d_method_4_17 : decode method_4_code 17 = .ok (.dup, 1) := by decide +kernel
theorem d_method_4_18 : decode method_4_code 18 = .ok (.iconst 1, 1) := by decide +kernel
theorem d_method_4_19 : decode method_4_code 19 = .ok (.bipush 110, 2) := by decide +kernel
theorem d_method_4_21 : decode method_4_code 21 = .ok (.castore, 1) := by decide +kernel
theorem d_method_4_22 : decode method_4_code 22 = .ok (.dup, 1) := by decide +kernel
theorem d_method_4_23 : decode method_4_code 23 = .ok (.iconst 2, 1) := by decide +kernel
theorem d_method_4_24 : decode method_4_code 24 = .ok (.bipush 114, 2) := by decide +kernel
theorem d_method_4_26 : decode method_4_code 26 = .ok (.castore, 1) := by decide +kernel
theorem d_method_4_27 : decode method_4_code 27 = .ok (.dup, 1) := by decide +kernel
theorem d_method_4_28 : decode method_4_code 28 = .ok (.iconst 3, 1) := by decide +kernel
theorem d_method_4_29 : decode method_4_code 29 = .ok (.bipush 101, 2) := by decide +kernel
theorem d_method_4_31 : decode method_4_code 31 = .ok (.castore, 1) := by decide +kernel
theorem d_method_4_32 : decode method_4_code 32 = .ok (.dup, 1) := by decide +kernel
theorem d_method_4_33 : decode method_4_code 33 = .ok (.iconst 4, 1) := by decide +kernel
theorem d_method_4_34 : decode method_4_code 34 = .ok (.bipush 99, 2) := by decide +kernel
theorem d_method_4_36 : decode method_4_code 36 = .ok (.castore, 1) := by decide +kernel
theorem d_method_4_37 : decode method_4_code 37 = .ok (.dup, 1) := by decide +kernel
theorem d_method_4_38 : decode method_4_code 38 = .ok (.iconst 5, 1) := by decide +kernel
theorem d_method_4_39 : decode method_4_code 39 = .ok (.bipush 111, 2) := by decide +kernel
theorem d_method_4_41 : decode method_4_code 41 = .ok (.castore, 1) := by decide +kernel
theorem d_method_4_42 : decode method_4_code 42 = .ok (.dup, 1) := by decide +kernel
theorem d_method_4_43 : decode method_4_code 43 = .ok (.bipush 6, 2) := by decide +kernel
theorem d_method_4_45 : decode method_4_code 45 = .ok (.bipush 103, 2) := by decide +kernel
theorem d_method_4_47 : decode method_4_code 47 = .ok (.castore, 1) := by decide +kernel
theorem d_method_4_48 : decode method_4_code 48 = .ok (.dup, 1) := by decide +kernel
theorem d_method_4_49 : decode method_4_code 49 = .ok (.bipush 7, 2) := by decide +kernel
theorem d_method_4_51 : decode method_4_code 51 = .ok (.bipush 110, 2) := by decide +kernel
theorem d_method_4_53 : decode method_4_code 53 = .ok (.castore, 1) := by decide +kernel
theorem d_method_4_54 : decode method_4_code 54 = .ok (.dup, 1) := by decide +kernel
theorem d_method_4_55 : decode method_4_code 55 = .ok (.bipush 8, 2) := by decide +kernel
theorem d_method_4_57 : decode method_4_code 57 = .ok (.bipush 105, 2) := by decide +kernel
theorem d_method_4_59 : decode method_4_code 59 = .ok (.castore, 1) := by decide +kernel
theorem d_method_4_60 : decode method_4_code 60 = .ok (.dup, 1) := by decide +kernel
theorem d_method_4_61 : decode method_4_code 61 = .ok (.bipush 9, 2) := by decide +kernel
theorem d_method_4_63 : decode method_4_code 63 = .ok (.bipush 122, 2) := by decide +kernel
theorem d_method_4_65 : decode method_4_code 65 = .ok (.castore, 1) := by decide +kernel
theorem d_method_4_66 : decode method_4_code 66 = .ok (.dup, 1) := by decide +kernel
theorem d_method_4_67 : decode method_4_code 67 = .ok (.bipush 10, 2) := by decide +kernel
theorem d_method_4_69 : decode method_4_code 69 = .ok (.bipush 101, 2) := by decide +kernel
theorem d_method_4_71 : decode method_4_code 71 = .ok (.castore, 1) := by decide +kernel
theorem d_method_4_72 : decode method_4_code 72 = .ok (.dup, 1) := by decide +kernel
theorem d_method_4_73 : decode method_4_code 73 = .ok (.bipush 11, 2) := by decide +kernel
theorem d_method_4_75 : decode method_4_code 75 = .ok (.bipush 100, 2) := by decide +kernel
theorem d_method_4_77 : decode method_4_code 77 = .ok (.castore, 1) := by decide +kernel
theorem d_method_4_78 : decode method_4_code 78 = .ok (.dup, 1) := by decide +kernel
theorem d_method_4_79 : decode method_4_code 79 = .ok (.bipush 12, 2) := by decide +kernel
theorem d_method_4_81 : decode method_4_code 81 = .ok (.bipush 32, 2) := by decide +kernel
theorem d_method_4_83 : decode method_4_code 83 = .ok (.castore, 1) := by decide +kernel
theorem d_method_4_84 : decode method_4_code 84 = .ok (.dup, 1) := by decide +kernel
theorem d_method_4_85 : decode method_4_code 85 = .ok (.bipush 13, 2) := by decide +kernel
theorem d_method_4_87 : decode method_4_code 87 = .ok (.bipush 111, 2) := by decide +kernel
theorem d_method_4_89 : decode method_4_code 89 = .ok (.castore, 1) := by decide +kernel
theorem d_method_4_90 : decode method_4_code 90 = .ok (.dup, 1) := by decide +kernel
theorem d_method_4_91 : decode method_4_code 91 = .ok (.bipush 14, 2) := by decide +kernel
theorem d_method_4_93 : decode method_4_code 93 = .ok (.bipush 112, 2) := by decide +kernel
theorem d_method_4_95 : decode method_4_code 95 = .ok (.castore, 1) := by decide +kernel
theorem d_method_4_96 : decode method_4_code 96 = .ok (.dup, 1) := by decide +kernel
theorem d_method_4_97 : decode method_4_code 97 = .ok (.bipush 15, 2) := by decide +kernel
theorem d_method_4_99 : decode method_4_code 99 = .ok (.bipush 116, 2) := by decide +kernel
theorem d_method_4_101 : decode method_4_code 101 = .ok (.castore, 1) := by decide +kernel
theorem d_method_4_102 : decode method_4_code 102 = .ok (.dup, 1) := by decide +kernel
theorem d_method_4_103 : decode method_4_code 103 = .ok (.bipush 16, 2) := by decide +kernel
theorem d_method_4_105 : decode method_4_code 105 = .ok (.bipush 105, 2) := by decide +kernel
theorem d_method_4_107 : decode method_4_code 107 = .ok (.castore, 1) := by decide +kernel
theorem d_method_4_108 : decode method_4_code 108 = .ok (.dup, 1) := by decide +kernel
theorem d_method_4_109 : decode method_4_code 109 = .ok (.bipush 17, 2) := by decide +kernel
theorem d_method_4_111 : decode method_4_code 111 = .ok (.bipush 111, 2) := by decide +kernel
theorem d_method_4_113 : decode method_4_code 113 = .ok (.castore, 1) := by decide +kernel
theorem d_method_4_114 : decode method_4_code 114 = .ok (.dup, 1) := by decide +kernel
theorem d_method_4_115 : decode method_4_code 115 = .ok (.bipush 18, 2) := by decide +kernel
theorem d_method_4_117 : decode method_4_code 117 = .ok (.bipush 110, 2) := by decide +kernel
theorem d_method_4_119 : decode method_4_code 119 = .ok (.castore, 1) := by decide +kernel
theorem d_method_4_120 : decode method_4_code 120 = .ok (.dup, 1) := by decide +kernel
theorem d_method_4_121 : decode method_4_code 121 = .ok (.bipush 19, 2) := by decide +kernel
theorem d_method_4_123 : decode method_4_code 123 = .ok (.bipush 32, 2) := by decide +kernel
theorem d_method_4_125 : decode method_4_code 125 = .ok (.castore, 1) := by decide +kernel
theorem d_method_4_126 : decode method_4_code 126 = .ok (.dup, 1) := by decide +kernel
theorem d_method_4_127 : decode method_4_code 127 = .ok (.bipush 20, 2) := by decide +kernel
theorem d_method_4_129 : decode method_4_code 129 = .ok (.bipush 39, 2) := by decide +kernel
theorem d_method_4_131 : decode method_4_code 131 = .ok (.castore, 1) := by decide +kernel
theorem d_method_4_132 : decode method_4_code 132 = .ok (.dup, 1) := by decide +kernel
theorem d_method_4_133 : decode method_4_code 133 = .ok (.bipush 21, 2) := by decide +kernel
theorem d_method_4_135 : decode method_4_code 135 = .ok (.bipush 39, 2) := by decide +kernel
theorem d_method_4_137 : decode method_4_code 137 = .ok (.castore, 1) := by decide +kernel
theorem d_method_4_138 : decode method_4_code 138 = .ok (.invokespecial 32, 3) := by decide +kernel
theorem d_method_4_141 : decode method_4_code 141 = .ok (.areturn, 1) := by decide +kernel
theorem d_method_4_142 : decode method_4_code 142 = .ok (.iload_n 3, 1) := by decide +kernel
theorem d_method_4_143 : decode method_4_code 143 = .ok (.iconst 1, 1) := by decide +kernel
theorem d_method_4_144 : decode method_4_code 144 = .ok (.if_icmp .ne 146, 3) := by decide +kernel
theorem d_method_4_147 : decode method_4_code 147 = .ok (.new 27, 3) := by decide +kernel
theorem d_method_4_150 : decode method_4_code 150 = .ok (.dup, 1) := by decide +kernel
theorem d_method_4_151 : decode method_4_code 151 = .ok (.bipush 23, 2) := by decide +kernel
theorem d_method_4_153 : decode method_4_code 153 = .ok (.newarray .char, 2) := by decide +kernel
theorem d_method_4_155 : decode method_4_code 155 = .ok (.dup, 1) := by decide +kernel
theorem d_method_4_156 : decode method_4_code 156 = .ok (.iconst 0, 1) := by decide +kernel
theorem d_method_4_157 : decode method_4_code 157 = .ok (.bipush 117, 2) := by decide +kernel
theorem d_method_4_159 : decode method_4_code 159 = .ok (.castore, 1) := by decide +kernel
theorem d_method_4_160 : decode method_4_code 160 = .ok (.dup, 1) := by decide +kernel
theorem d_method_4_161 : decode method_4_code 161 = .ok (.iconst 1, 1) := by decide +kernel
theorem d_method_4_162 : decode method_4_code 162 = .ok (.bipush 110, 2) := by decide +kernel
theorem d_method_4_164 : decode method_4_code 164 = .ok (.castore, 1) := by decide +kernel
theorem d_method_4_165 : decode method_4_code 165 = .ok (.dup, 1) := by decide +kernel
theorem d_method_4_166 : decode method_4_code 166 = .ok (.iconst 2, 1) := by decide +kernel
theorem d_method_4_167 : decode method_4_code 167 = .ok (.bipush 114, 2) := by decide +kernel
theorem d_method_4_169 : decode method_4_code 169 = .ok (.castore, 1) := by decide +kernel
theorem d_method_4_170 : decode method_4_code 170 = .ok (.dup, 1) := by decide +kernel
theorem d_method_4_171 : decode method_4_code 171 = .ok (.iconst 3, 1) := by decide +kernel
theorem d_method_4_172 : decode method_4_code 172 = .ok (.bipush 101, 2) := by decide +kernel
theorem d_method_4_174 : decode method_4_code 174 = .ok (.castore, 1) := by decide +kernel
theorem d_method_4_175 : decode method_4_code 175 = .ok (.dup, 1) := by decide +kernel
theorem d_method_4_176 : decode method_4_code 176 = .ok (.iconst 4, 1) := by decide +kernel
theorem d_method_4_177 : decode method_4_code 177 = .ok (.bipush 99, 2) := by decide +kernel
theorem d_method_4_179 : decode method_4_code 179 = .ok (.castore, 1) := by decide +kernel
theorem d_method_4_180 : decode method_4_code 180 = .ok (.dup, 1) := by decide +kernel
theorem d_method_4_181 : decode method_4_code 181 = .ok (.iconst 5, 1) := by decide +kernel
theorem d_method_4_182 : decode method_4_code 182 = .ok (.bipush 111, 2) := by decide +kernel
theorem d_method_4_184 : decode method_4_code 184 = .ok (.castore, 1) := by decide +kernel
theorem d_method_4_185 : decode method_4_code 185 = .ok (.dup, 1) := by decide +kernel
theorem d_method_4_186 : decode method_4_code 186 = .ok (.bipush 6, 2) := by decide +kernel
theorem d_method_4_188 : decode method_4_code 188 = .ok (.bipush 103, 2) := by decide +kernel
theorem d_method_4_190 : decode method_4_code 190 = .ok (.castore, 1) := by decide +kernel
theorem d_method_4_191 : decode method_4_code 191 = .ok (.dup, 1) := by decide +kernel
theorem d_method_4_192 : decode method_4_code 192 = .ok (.bipush 7, 2) := by decide +kernel
theorem d_method_4_194 : decode method_4_code 194 = .ok (.bipush 110, 2) := by decide +kernel
theorem d_method_4_196 : decode method_4_code 196 = .ok (.castore, 1) := by decide +kernel
theorem d_method_4_197 : decode method_4_code 197 = .ok (.dup, 1) := by decide +kernel
theorem d_method_4_198 : decode method_4_code 198 = .ok (.bipush 8, 2) := by decide +kernel
theorem d_method_4_200 : decode method_4_code 200 = .ok (.bipush 105, 2) := by decide +kernel
theorem d_method_4_202 : decode method_4_code 202 = .ok (.castore, 1) := by decide +kernel
theorem d_method_4_203 : decode method_4_code 203 = .ok (.dup, 1) := by decide +kernel
theorem d_method_4_204 : decode method_4_code 204 = .ok (.bipush 9, 2) := by decide +kernel
theorem d_method_4_206 : decode method_4_code 206 = .ok (.bipush 122, 2) := by decide +kernel
theorem d_method_4_208 : decode method_4_code 208 = .ok (.castore, 1) := by decide +kernel
theorem d_method_4_209 : decode method_4_code 209 = .ok (.dup, 1) := by decide +kernel
theorem d_method_4_210 : decode method_4_code 210 = .ok (.bipush 10, 2) := by decide +kernel
theorem d_method_4_212 : decode method_4_code 212 = .ok (.bipush 101, 2) := by decide +kernel
theorem d_method_4_214 : decode method_4_code 214 = .ok (.castore, 1) := by decide +kernel
theorem d_method_4_215 : decode method_4_code 215 = .ok (.dup, 1) := by decide +kernel
theorem d_method_4_216 : decode method_4_code 216 = .ok (.bipush 11, 2) := by decide +kernel
theorem d_method_4_218 : decode method_4_code 218 = .ok (.bipush 100, 2) := by decide +kernel
theorem d_method_4_220 : decode method_4_code 220 = .ok (.castore, 1) := by decide +kernel
theorem d_method_4_221 : decode method_4_code 221 = .ok (.dup, 1) := by decide +kernel
theorem d_method_4_222 : decode method_4_code 222 = .ok (.bipush 12, 2) := by decide +kernel
theorem d_method_4_224 : decode method_4_code 224 = .ok (.bipush 32, 2) := by decide +kernel
theorem d_method_4_226 : decode method_4_code 226 = .ok (.castore, 1) := by decide +kernel
theorem d_method_4_227 : decode method_4_code 227 = .ok (.dup, 1) := by decide +kernel
theorem d_method_4_228 : decode method_4_code 228 = .ok (.bipush 13, 2) := by decide +kernel
theorem d_method_4_230 : decode method_4_code 230 = .ok (.bipush 111, 2) := by decide +kernel
theorem d_method_4_232 : decode method_4_code 232 = .ok (.castore, 1) := by decide +kernel
theorem d_method_4_233 : decode method_4_code 233 = .ok (.dup, 1) := by decide +kernel
theorem d_method_4_234 : decode method_4_code 234 = .ok (.bipush 14, 2) := by decide +kernel
theorem d_method_4_236 : decode method_4_code 236 = .ok (.bipush 112, 2) := by decide +kernel
theorem d_method_4_238 : decode method_4_code 238 = .ok (.castore, 1) := by decide +kernel
theorem d_method_4_239 : decode method_4_code 239 = .ok (.dup, 1) := by decide +kernel
theorem d_method_4_240 : decode method_4_code 240 = .ok (.bipush 15, 2) := by decide +kernel
theorem d_method_4_242 : decode method_4_code 242 = .ok (.bipush 116, 2) := by decide +kernel
theorem d_method_4_244 : decode method_4_code 244 = .ok (.castore, 1) := by decide +kernel
theorem d_method_4_245 : decode method_4_code 245 = .ok (.dup, 1) := by decide +kernel
theorem d_method_4_246 : decode method_4_code 246 = .ok (.bipush 16, 2) := by decide +kernel
theorem d_method_4_248 : decode method_4_code 248 = .ok (.bipush 105, 2) := by decide +kernel
theorem d_method_4_250 : decode method_4_code 250 = .ok (.castore, 1) := by decide +kernel
theorem d_method_4_251 : decode method_4_code 251 = .ok (.dup, 1) := by decide +kernel
theorem d_method_4_252 : decode method_4_code 252 = .ok (.bipush 17, 2) := by decide +kernel
theorem d_method_4_254 : decode method_4_code 254 = .ok (.bipush 111, 2) := by decide +kernel
theorem d_method_4_256 : decode method_4_code 256 = .ok (.castore, 1) := by decide +kernel
theorem d_method_4_257 : decode method_4_code 257 = .ok (.dup, 1) := by decide +kernel
theorem d_method_4_258 : decode method_4_code 258 = .ok (.bipush 18, 2) := by decide +kernel
theorem d_method_4_260 : decode method_4_code 260 = .ok (.bipush 110, 2) := by decide +kernel
theorem d_method_4_262 : decode method_4_code 262 = .ok (.castore, 1) := by decide +kernel
theorem d_method_4_263 : decode method_4_code 263 = .ok (.dup, 1) := by decide +kernel
theorem d_method_4_264 : decode method_4_code 264 = .ok (.bipush 19, 2) := by decide +kernel
theorem d_method_4_266 : decode method_4_code 266 = .ok (.bipush 32, 2) := by decide +kernel
theorem d_method_4_268 : decode method_4_code 268 = .ok (.castore, 1) := by decide +kernel
theorem d_method_4_269 : decode method_4_code 269 = .ok (.dup, 1) := by decide +kernel
theorem d_method_4_270 : decode method_4_code 270 = .ok (.bipush 20, 2) := by decide +kernel
theorem d_method_4_272 : decode method_4_code 272 = .ok (.bipush 39, 2) := by decide +kernel
theorem d_method_4_274 : decode method_4_code 274 = .ok (.castore, 1) := by decide +kernel
theorem d_method_4_275 : decode method_4_code 275 = .ok (.dup, 1) := by decide +kernel
theorem d_method_4_276 : decode method_4_code 276 = .ok (.bipush 21, 2) := by decide +kernel
theorem d_method_4_278 : decode method_4_code 278 = .ok (.iload_n 0, 1) := by decide +kernel
theorem d_method_4_279 : decode method_4_code 279 = .ok (.castore, 1) := by decide +kernel
theorem d_method_4_280 : decode method_4_code 280 = .ok (.dup, 1) := by decide +kernel
theorem d_method_4_281 : decode method_4_code 281 = .ok (.bipush 22, 2) := by decide +kernel
theorem d_method_4_283 : decode method_4_code 283 = .ok (.bipush 39, 2) := by decide +kernel
theorem d_method_4_285 : decode method_4_code 285 = .ok (.castore, 1) := by decide +kernel
theorem d_method_4_286 : decode method_4_code 286 = .ok (.invokespecial 32, 3) := by decide +kernel
theorem d_method_4_289 : decode method_4_code 289 = .ok (.areturn, 1) := by decide +kernel
theorem d_method_4_290 : decode method_4_code 290 = .ok (.iload_n 3, 1) := by decide +kernel
theorem d_method_4_291 : decode method_4_code 291 = .ok (.iconst 2, 1) := by decide +kernel
theorem d_method_4_292 : decode method_4_code 292 = .ok (.if_icmp .ne 151, 3) := by decide +kernel
theorem d_method_4_295 : decode method_4_code 295 = .ok (.new 27, 3) := by decide +kernel
theorem d_method_4_298 : decode method_4_code 298 = .ok (.dup, 1) := by decide +kernel
theorem d_method_4_299 : decode method_4_code 299 = .ok (.bipush 24, 2) := by decide +kernel
theorem d_method_4_301 : decode method_4_code 301 = .ok (.newarray .char, 2) := by decide +kernel
theorem d_method_4_303 : decode method_4_code 303 = .ok (.dup, 1) := by decide +kernel
theorem d_method_4_304 : decode method_4_code 304 = .ok (.iconst 0, 1) := by decide +kernel
theorem d_method_4_305 : decode method_4_code 305 = .ok (.bipush 117, 2) := by decide +kernel
theorem d_method_4_307 : decode method_4_code 307 = .ok (.castore, 1) := by decide +kernel
theorem d_method_4_308 : decode method_4_code 308 = .ok (.dup, 1) := by decide +kernel
theorem d_method_4_309 : decode method_4_code 309 = .ok (.iconst 1, 1) := by decide +kernel
theorem d_method_4_310 : decode method_4_code 310 = .ok (.bipush 110, 2) := by decide +kernel
theorem d_method_4_312 : decode method_4_code 312 = .ok (.castore, 1) := by decide +kernel
theorem d_method_4_313 : decode method_4_code 313 = .ok (.dup, 1) := by decide +kernel
theorem d_method_4_314 : decode method_4_code 314 = .ok (.iconst 2, 1) := by decide +kernel
theorem d_method_4_315 : decode method_4_code 315 = .ok (.bipush 114, 2) := by decide +kernel
theorem d_method_4_317 : decode method_4_code 317 = .ok (.castore, 1) := by decide +kernel
theorem d_method_4_318 : decode method_4_code 318 = .ok (.dup, 1) := by decide +kernel
theorem d_method_4_319 : decode method_4_code 319 = .ok (.iconst 3, 1) := by decide +kernel
theorem d_method_4_320 : decode method_4_code 320 = .ok (.bipush 101, 2) := by decide +kernel
theorem d_method_4_322 : decode method_4_code 322 = .ok (.castore, 1) := by decide +kernel
theorem d_method_4_323 : decode method_4_code 323 = .ok (.dup, 1) := by decide +kernel
theorem d_method_4_324 : decode method_4_code 324 = .ok (.iconst 4, 1) := by decide +kernel
theorem d_method_4_325 : decode method_4_code 325 = .ok (.bipush 99, 2) := by decide +kernel
theorem d_method_4_327 : decode method_4_code 327 = .ok (.castore, 1) := by decide +kernel
theorem d_method_4_328 : decode method_4_code 328 = .ok (.dup, 1) := by decide +kernel
theorem d_method_4_329 : decode method_4_code 329 = .ok (.iconst 5, 1) := by decide +kernel
theorem d_method_4_330 : decode method_4_code 330 = .ok (.bipush 111, 2) := by decide +kernel
theorem d_method_4_332 : decode method_4_code 332 = .ok (.castore, 1) := by decide +kernel
theorem d_method_4_333 : decode method_4_code 333 = .ok (.dup, 1) := by decide +kernel
theorem d_method_4_334 : decode method_4_code 334 = .ok (.bipush 6, 2) := by decide +kernel
theorem d_method_4_336 : decode method_4_code 336 = .ok (.bipush 103, 2) := by decide +kernel
theorem d_method_4_338 : decode method_4_code 338 = .ok (.castore, 1) := by decide +kernel
theorem d_method_4_339 : decode method_4_code 339 = .ok (.dup, 1) := by decide +kernel
theorem d_method_4_340 : decode method_4_code 340 = .ok (.bipush 7, 2) := by decide +kernel
theorem d_method_4_342 : decode method_4_code 342 = .ok (.bipush 110, 2) := by decide +kernel
theorem d_method_4_344 : decode method_4_code 344 = .ok (.castore, 1) := by decide +kernel
theorem d_method_4_345 : decode method_4_code 345 = .ok (.dup, 1) := by decide +kernel
theorem d_method_4_346 : decode method_4_code 346 = .ok (.bipush 8, 2) := by decide +kernel
theorem d_method_4_348 : decode method_4_code 348 = .ok (.bipush 105, 2) := by decide +kernel
theorem d_method_4_350 : decode method_4_code 350 = .ok (.castore, 1) := by decide +kernel
theorem d_method_4_351 : decode method_4_code 351 = .ok (.dup, 1) := by decide +kernel
theorem d_method_4_352 : decode method_4_code 352 = .ok (.bipush 9, 2) := by decide +kernel
theorem d_method_4_354 : decode method_4_code 354 = .ok (.bipush 122, 2) := by decide +kernel
theorem d_method_4_356 : decode method_4_code 356 = .ok (.castore, 1) := by decide +kernel
theorem d_method_4_357 : decode method_4_code 357 = .ok (.dup, 1) := by decide +kernel
theorem d_method_4_358 : decode method_4_code 358 = .ok (.bipush 10, 2) := by decide +kernel
theorem d_method_4_360 : decode method_4_code 360 = .ok (.bipush 101, 2) := by decide +kernel
theorem d_method_4_362 : decode method_4_code 362 = .ok (.castore, 1) := by decide +kernel
theorem d_method_4_363 : decode method_4_code 363 = .ok (.dup, 1) := by decide +kernel
theorem d_method_4_364 : decode method_4_code 364 = .ok (.bipush 11, 2) := by decide +kernel
theorem d_method_4_366 : decode method_4_code 366 = .ok (.bipush 100, 2) := by decide +kernel
theorem d_method_4_368 : decode method_4_code 368 = .ok (.castore, 1) := by decide +kernel
theorem d_method_4_369 : decode method_4_code 369 = .ok (.dup, 1) := by decide +kernel
theorem d_method_4_370 : decode method_4_code 370 = .ok (.bipush 12, 2) := by decide +kernel
theorem d_method_4_372 : decode method_4_code 372 = .ok (.bipush 32, 2) := by decide +kernel
theorem d_method_4_374 : decode method_4_code 374 = .ok (.castore, 1) := by decide +kernel
theorem d_method_4_375 : decode method_4_code 375 = .ok (.dup, 1) := by decide +kernel
theorem d_method_4_376 : decode method_4_code 376 = .ok (.bipush 13, 2) := by decide +kernel
theorem d_method_4_378 : decode method_4_code 378 = .ok (.bipush 111, 2) := by decide +kernel
theorem d_method_4_380 : decode method_4_code 380 = .ok (.castore, 1) := by decide +kernel
theorem d_method_4_381 : decode method_4_code 381 = .ok (.dup, 1) := by decide +kernel
theorem d_method_4_382 : decode method_4_code 382 = .ok (.bipush 14, 2) := by decide +kernel
theorem d_method_4_384 : decode method_4_code 384 = .ok (.bipush 112, 2) := by decide +kernel
theorem d_method_4_386 : decode method_4_code 386 = .ok (.castore, 1) := by decide +kernel
theorem d_method_4_387 : decode method_4_code 387 = .ok (.dup, 1) := by decide +kernel
theorem d_method_4_388 : decode method_4_code 388 = .ok (.bipush 15, 2) := by decide +kernel
theorem d_method_4_390 : decode method_4_code 390 = .ok (.bipush 116, 2) := by decide +kernel
theorem d_method_4_392 : decode method_4_code 392 = .ok (.castore, 1) := by decide +kernel
theorem d_method_4_393 : decode method_4_code 393 = .ok (.dup, 1) := by decide +kernel
theorem d_method_4_394 : decode method_4_code 394 = .ok (.bipush 16, 2) := by decide +kernel
theorem d_method_4_396 : decode method_4_code 396 = .ok (.bipush 105, 2) := by decide +kernel
theorem d_method_4_398 : decode method_4_code 398 = .ok (.castore, 1) := by decide +kernel
theorem d_method_4_399 : decode method_4_code 399 = .ok (.dup, 1) := by decide +kernel
theorem d_method_4_400 : decode method_4_code 400 = .ok (.bipush 17, 2) := by decide +kernel
theorem d_method_4_402 : decode method_4_code 402 = .ok (.bipush 111, 2) := by decide +kernel
theorem d_method_4_404 : decode method_4_code 404 = .ok (.castore, 1) := by decide +kernel
theorem d_method_4_405 : decode method_4_code 405 = .ok (.dup, 1) := by decide +kernel
theorem d_method_4_406 : decode method_4_code 406 = .ok (.bipush 18, 2) := by decide +kernel
theorem d_method_4_408 : decode method_4_code 408 = .ok (.bipush 110, 2) := by decide +kernel
theorem d_method_4_410 : decode method_4_code 410 = .ok (.castore, 1) := by decide +kernel
theorem d_method_4_411 : decode method_4_code 411 = .ok (.dup, 1) := by decide +kernel
theorem d_method_4_412 : decode method_4_code 412 = .ok (.bipush 19, 2) := by decide +kernel
theorem d_method_4_414 : decode method_4_code 414 = .ok (.bipush 32, 2) := by decide +kernel
theorem d_method_4_416 : decode method_4_code 416 = .ok (.castore, 1) := by decide +kernel
theorem d_method_4_417 : decode method_4_code 417 = .ok (.dup, 1) := by decide +kernel
theorem d_method_4_418 : decode method_4_code 418 = .ok (.bipush 20, 2) := by decide +kernel
theorem d_method_4_420 : decode method_4_code 420 = .ok (.bipush 39, 2) := by decide +kernel
theorem d_method_4_422 : decode method_4_code 422 = .ok (.castore, 1) := by decide +kernel
theorem d_method_4_423 : decode method_4_code 423 = .ok (.dup, 1) := by decide +kernel
theorem d_method_4_424 : decode method_4_code 424 = .ok (.bipush 21, 2) := by decide +kernel
theorem d_method_4_426 : decode method_4_code 426 = .ok (.iload_n 0, 1) := by decide +kernel
theorem d_method_4_427 : decode method_4_code 427 = .ok (.castore, 1) := by decide +kernel
theorem d_method_4_428 : decode method_4_code 428 = .ok (.dup, 1) := by decide +kernel
theorem d_method_4_429 : decode method_4_code 429 = .ok (.bipush 22, 2) := by decide +kernel
theorem d_method_4_431 : decode method_4_code 431 = .ok (.iload_n 1, 1) := by decide +kernel
theorem d_method_4_432 : decode method_4_code 432 = .ok (.castore, 1) := by decide +kernel
theorem d_method_4_433 : decode method_4_code 433 = .ok (.dup, 1) := by decide +kernel
theorem d_method_4_434 : decode method_4_code 434 = .ok (.bipush 23, 2) := by decide +kernel
theorem d_method_4_436 : decode method_4_code 436 = .ok (.bipush 39, 2) := by decide +kernel
theorem d_method_4_438 : decode method_4_code 438 = .ok (.castore, 1) := by decide +kernel
theorem d_method_4_439 : decode method_4_code 439 = .ok (.invokespecial 32, 3) := by decide +kernel
theorem d_method_4_442 : decode method_4_code 442 = .ok (.areturn, 1) := by decide +kernel
theorem d_method_4_443 : decode method_4_code 443 = .ok (.new 27, 3) := by decide +kernel
theorem d_method_4_446 : decode method_4_code 446 = .ok (.dup, 1) := by decide +kernel
theorem d_method_4_447 : decode method_4_code 447 = .ok (.bipush 25, 2) := by decide +kernel
theorem d_method_4_449 : decode method_4_code 449 = .ok (.newarray .char, 2) := by decide +kernel
theorem d_method_4_451 : decode method_4_code 451 = .ok (.dup, 1) := by decide +kernel
theorem d_method_4_452 : decode method_4_code 452 = .ok (.iconst 0, 1) := by decide +kernel
theorem d_method_4_453 : decode method_4_code 453 = .ok (.bipush 117, 2) := by decide +kernel
theorem d_method_4_455 : decode method_4_code 455 = .ok (.castore, 1) := by decide +kernel
theorem d_method_4_456 : decode method_4_code 456 = .ok (.dup, 1) := by decide +kernel
theorem d_method_4_457 : decode method_4_code 457 = .ok (.iconst 1, 1) := by decide +kernel
theorem d_method_4_458 : decode method_4_code 458 = .ok (.bipush 110, 2) := by decide +kernel
theorem d_method_4_460 : decode method_4_code 460 = .ok (.castore, 1) := by decide +kernel
theorem d_method_4_461 : decode method_4_code 461 = .ok (.dup, 1) := by decide +kernel
theorem d_method_4_462 : decode method_4_code 462 = .ok (.iconst 2, 1) := by decide +kernel
theorem d_method_4_463 : decode method_4_code 463 = .ok (.bipush 114, 2) := by decide +kernel
theorem d_method_4_465 : decode method_4_code 465 = .ok (.castore, 1) := by decide +kernel
theorem d_method_4_466 : decode method_4_code 466 = .ok (.dup, 1) := by decide +kernel
theorem d_method_4_467 : decode method_4_code 467 = .ok (.iconst 3, 1) := by decide +kernel
theorem d_method_4_468 : decode method_4_code 468 = .ok (.bipush 101, 2) := by decide +kernel
theorem d_method_4_470 : decode method_4_code 470 = .ok (.castore, 1) := by decide +kernel
theorem d_method_4_471 : decode method_4_code 471 = .ok (.dup, 1) := by decide +kernel
theorem d_method_4_472 : decode method_4_code 472 = .ok (.iconst 4, 1) := by decide +kernel
theorem d_method_4_473 : decode method_4_code 473 = .ok (.bipush 99, 2) := by decide +kernel
theorem d_method_4_475 : decode method_4_code 475 = .ok (.castore, 1) := by decide +kernel
theorem d_method_4_476 : decode method_4_code 476 = .ok (.dup, 1) := by decide +kernel
theorem d_method_4_477 : decode method_4_code 477 = .ok (.iconst 5, 1) := by decide +kernel
theorem d_method_4_478 : decode method_4_code 478 = .ok (.bipush 111, 2) := by decide +kernel
theorem d_method_4_480 : decode method_4_code 480 = .ok (.castore, 1) := by decide +kernel
theorem d_method_4_481 : decode method_4_code 481 = .ok (.dup, 1) := by decide +kernel
theorem d_method_4_482 : decode method_4_code 482 = .ok (.bipush 6, 2) := by decide +kernel
theorem d_method_4_484 : decode method_4_code 484 = .ok (.bipush 103, 2) := by decide +kernel
theorem d_method_4_486 : decode method_4_code 486 = .ok (.castore, 1) := by decide +kernel
theorem d_method_4_487 : decode method_4_code 487 = .ok (.dup, 1) := by decide +kernel
theorem d_method_4_488 : decode method_4_code 488 = .ok (.bipush 7, 2) := by decide +kernel
theorem d_method_4_490 : decode method_4_code 490 = .ok (.bipush 110, 2) := by decide +kernel
theorem d_method_4_492 : decode method_4_code 492 = .ok (.castore, 1) := by decide +kernel
theorem d_method_4_493 : decode method_4_code 493 = .ok (.dup, 1) := by decide +kernel
theorem d_method_4_494 : decode method_4_code 494 = .ok (.bipush 8, 2) := by decide +kernel
theorem d_method_4_496 : decode method_4_code 496 = .ok (.bipush 105, 2) := by decide +kernel
theorem d_method_4_498 : decode method_4_code 498 = .ok (.castore, 1) := by decide +kernel
theorem d_method_4_499 : decode method_4_code 499 = .ok (.dup, 1) := by decide +kernel
theorem d_method_4_500 : decode method_4_code 500 = .ok (.bipush 9, 2) := by decide +kernel
theorem d_method_4_502 : decode method_4_code 502 = .ok (.bipush 122, 2) := by decide +kernel
theorem d_method_4_504 : decode method_4_code 504 = .ok (.castore, 1) := by decide +kernel
theorem d_method_4_505 : decode method_4_code 505 = .ok (.dup, 1) := by decide +kernel
theorem d_method_4_506 : decode method_4_code 506 = .ok (.bipush 10, 2) := by decide +kernel
theorem d_method_4_508 : decode method_4_code 508 = .ok (.bipush 101, 2) := by decide +kernel
theorem d_method_4_510 : decode method_4_code 510 = .ok (.castore, 1) := by decide +kernel
theorem d_method_4_511 : decode method_4_code 511 = .ok (.dup, 1) := by decide +kernel
theorem d_method_4_512 : decode method_4_code 512 = .ok (.bipush 11, 2) := by decide +kernel
theorem d_method_4_514 : decode method_4_code 514 = .ok (.bipush 100, 2) := by decide +kernel
theorem d_method_4_516 : decode method_4_code 516 = .ok (.castore, 1) := by decide +kernel
theorem d_method_4_517 : decode method_4_code 517 = .ok (.dup, 1) := by decide +kernel
theorem d_method_4_518 : decode method_4_code 518 = .ok (.bipush 12, 2) := by decide +kernel
theorem d_method_4_520 : decode method_4_code 520 = .ok (.bipush 32, 2) := by decide +kernel
theorem d_method_4_522 : decode method_4_code 522 = .ok (.castore, 1) := by decide +kernel
theorem d_method_4_523 : decode method_4_code 523 = .ok (.dup, 1) := by decide +kernel
theorem d_method_4_524 : decode method_4_code 524 = .ok (.bipush 13, 2) := by decide +kernel
theorem d_method_4_526 : decode method_4_code 526 = .ok (.bipush 111, 2) := by decide +kernel
theorem d_method_4_528 : decode method_4_code 528 = .ok (.castore, 1) := by decide +kernel
theorem d_method_4_529 : decode method_4_code 529 = .ok (.dup, 1) := by decide +kernel
theorem d_method_4_530 : decode method_4_code 530 = .ok (.bipush 14, 2) := by decide +kernel
theorem d_method_4_532 : decode method_4_code 532 = .ok (.bipush 112, 2) := by decide +kernel
theorem d_method_4_534 : decode method_4_code 534 = .ok (.castore, 1) := by decide +kernel
theorem d_method_4_535 : decode method_4_code 535 = .ok (.dup, 1) := by decide +kernel
theorem d_method_4_536 : decode method_4_code 536 = .ok (.bipush 15, 2) := by decide +kernel
theorem d_method_4_538 : decode method_4_code 538 = .ok (.bipush 116, 2) := by decide +kernel
theorem d_method_4_540 : decode method_4_code 540 = .ok (.castore, 1) := by decide +kernel
theorem d_method_4_541 : decode method_4_code 541 = .ok (.dup, 1) := by decide +kernel
theorem d_method_4_542 : decode method_4_code 542 = .ok (.bipush 16, 2) := by decide +kernel
theorem d_method_4_544 : decode method_4_code 544 = .ok (.bipush 105, 2) := by decide +kernel
theorem d_method_4_546 : decode method_4_code 546 = .ok (.castore, 1) := by decide +kernel
theorem d_method_4_547 : decode method_4_code 547 = .ok (.dup, 1) := by decide +kernel
theorem d_method_4_548 : decode method_4_code 548 = .ok (.bipush 17, 2) := by decide +kernel
theorem d_method_4_550 : decode method_4_code 550 = .ok (.bipush 111, 2) := by decide +kernel
theorem d_method_4_552 : decode method_4_code 552 = .ok (.castore, 1) := by decide +kernel
theorem d_method_4_553 : decode method_4_code 553 = .ok (.dup, 1) := by decide +kernel
theorem d_method_4_554 : decode method_4_code 554 = .ok (.bipush 18, 2) := by decide +kernel
theorem d_method_4_556 : decode method_4_code 556 = .ok (.bipush 110, 2) := by decide +kernel
theorem d_method_4_558 : decode method_4_code 558 = .ok (.castore, 1) := by decide +kernel
theorem d_method_4_559 : decode method_4_code 559 = .ok (.dup, 1) := by decide +kernel
theorem d_method_4_560 : decode method_4_code 560 = .ok (.bipush 19, 2) := by decide +kernel
theorem d_method_4_562 : decode method_4_code 562 = .ok (.bipush 32, 2) := by decide +kernel
theorem d_method_4_564 : decode method_4_code 564 = .ok (.castore, 1) := by decide +kernel
theorem d_method_4_565 : decode method_4_code 565 = .ok (.dup, 1) := by decide +kernel
theorem d_method_4_566 : decode method_4_code 566 = .ok (.bipush 20, 2) := by decide +kernel
theorem d_method_4_568 : decode method_4_code 568 = .ok (.bipush 39, 2) := by decide +kernel
theorem d_method_4_570 : decode method_4_code 570 = .ok (.castore, 1) := by decide +kernel
theorem d_method_4_571 : decode method_4_code 571 = .ok (.dup, 1) := by decide +kernel
theorem d_method_4_572 : decode method_4_code 572 = .ok (.bipush 21, 2) := by decide +kernel
theorem d_method_4_574 : decode method_4_code 574 = .ok (.iload_n 0, 1) := by decide +kernel
theorem d_method_4_575 : decode method_4_code 575 = .ok (.castore, 1) := by decide +kernel
theorem d_method_4_576 : decode method_4_code 576 = .ok (.dup, 1) := by decide +kernel
theorem d_method_4_577 : decode method_4_code 577 = .ok (.bipush 22, 2) := by decide +kernel
theorem d_method_4_579 : decode method_4_code 579 = .ok (.iload_n 1, 1) := by decide +kernel
theorem d_method_4_580 : decode method_4_code 580 = .ok (.castore, 1) := by decide +kernel
theorem d_method_4_581 : decode method_4_code 581 = .ok (.dup, 1) := by decide +kernel
theorem d_method_4_582 : decode method_4_code 582 = .ok (.bipush 23, 2) := by decide +kernel
theorem d_method_4_584 : decode method_4_code 584 = .ok (.iload_n 2, 1) := by decide +kernel
theorem d_method_4_585 : decode method_4_code 585 = .ok (.castore, 1) := by decide +kernel
theorem d_method_4_586 : decode method_4_code 586 = .ok (.dup, 1) := by decide +kernel
theorem d_method_4_587 : decode method_4_code 587 = .ok (.bipush 24, 2) := by decide +kernel
theorem d_method_4_589 : decode method_4_code 589 = .ok (.bipush 39, 2) := by decide +kernel
theorem d_method_4_591 : decode method_4_code 591 = .ok (.castore, 1) := by decide +kernel
theorem d_method_4_592 : decode method_4_code 592 = .ok (.invokespecial 32, 3) := by decide +kernel
theorem d_method_4_595 : decode method_4_code 595 = .ok (.areturn, 1) := by decide +kernel
theorem d_method_3_0 : decode method_3_code 0 = .ok (.iload_n 3, 1) := by decide +kernel
theorem d_method_3_1 : decode method_3_code 1 = .ok (.ifCond .ne 14, 3) := by decide +kernel
theorem d_method_3_4 : decode method_3_code 4 = .ok (.new 27, 3) := by decide +kernel
theorem d_method_3_7 : decode method_3_code 7 = .ok (.dup, 1) := by decide +kernel
theorem d_method_3_8 : decode method_3_code 8 = .ok (.iconst 0, 1) := by decide +kernel
theorem d_method_3_9 : decode method_3_code 9 = .ok (.newarray .char, 2) := by decide +kernel
theorem d_method_3_11 : decode method_3_code 11 = .ok (.invokespecial 32, 3) := by decide +kernel
theorem d_method_3_14 : decode method_3_code 14 = .ok (.areturn, 1) := by decide +kernel
theorem d_method_3_15 : decode method_3_code 15 = .ok (.iload_n 3, 1) := by decide +kernel
theorem d_method_3_16 : decode method_3_code 16 = .ok (.iconst 1, 1) := by decide +kernel
theorem d_method_3_17 : decode method_3_code 17 = .ok (.if_icmp .ne 18, 3) := by decide +kernel
theorem d_method_3_20 : decode method_3_code 20 = .ok (.new 27, 3) := by decide +kernel
theorem d_method_3_23 : decode method_3_code 23 = .ok (.dup, 1) := by decide +kernel
theorem d_method_3_24 : decode method_3_code 24 = .ok (.iconst 1, 1) := by decide +kernel
theorem d_method_3_25 : decode method_3_code 25 = .ok (.newarray .char, 2) := by decide +kernel
theorem d_method_3_27 : decode method_3_code 27 = .ok (.dup, 1) := by decide +kernel
theorem d_method_3_28 : decode method_3_code 28 = .ok (.iconst 0, 1) := by decide +kernel
theorem d_method_3_29 : decode method_3_code 29 = .ok (.iload_n 0, 1) := by decide +kernel
theorem d_method_3_30 : decode method_3_code 30 = .ok (.castore, 1) := by decide +kernel
theorem d_method_3_31 : decode method_3_code 31 = .ok (.invokespecial 32, 3) := by decide +kernel
theorem d_method_3_34 : decode method_3_code 34 = .ok (.areturn, 1) := by decide +kernel
theorem d_method_3_35 : decode method_3_code 35 = .ok (.iload_n 3, 1) := by decide +kernel
theorem d_method_3_36 : decode method_3_code 36 = .ok (.iconst 2, 1) := by decide +kernel
theorem d_method_3_37 : decode method_3_code 37 = .ok (.if_icmp .ne 22, 3) := by decide +kernel
theorem d_method_3_40 : decode method_3_code 40 = .ok (.new 27, 3) := by decide +kernel
theorem d_method_3_43 : decode method_3_code 43 = .ok (.dup, 1) := by decide +kernel
theorem d_method_3_44 : decode method_3_code 44 = .ok (.iconst 2, 1) := by decide +kernel
theorem d_method_3_45 : decode method_3_code 45 = .ok (.newarray .char, 2) := by decide +kernel
theorem d_method_3_47 : decode method_3_code 47 = .ok (.dup, 1) := by decide +kernel
theorem d_method_3_48 : decode method_3_code 48 = .ok (.iconst 0, 1) := by decide +kernel
theorem d_method_3_49 : decode method_3_code 49 = .ok (.iload_n 0, 1) := by decide +kernel
theorem d_method_3_50 : decode method_3_code 50 = .ok (.castore, 1) := by decide +kernel
theorem d_method_3_51 : decode method_3_code 51 = .ok (.dup, 1) := by decide +kernel
theorem d_method_3_52 : decode method_3_code 52 = .ok (.iconst 1, 1) := by decide +kernel
theorem d_method_3_53 : decode method_3_code 53 = .ok (.iload_n 1, 1) := by decide +kernel
theorem d_method_3_54 : decode method_3_code 54 = .ok (.castore, 1) := by decide +kernel
theorem d_method_3_55 : decode method_3_code 55 = .ok (.invokespecial 32, 3) := by decide +kernel
theorem d_method_3_58 : decode method_3_code 58 = .ok (.areturn, 1) := by decide +kernel
theorem d_method_3_59 : decode method_3_code 59 = .ok (.new 27, 3) := by decide +kernel
theorem d_method_3_62 : decode method_3_code 62 = .ok (.dup, 1) := by decide +kernel
theorem d_method_3_63 : decode method_3_code 63 = .ok (.iconst 3, 1) := by decide +kernel
theorem d_method_3_64 : decode method_3_code 64 = .ok (.newarray .char, 2) := by decide +kernel
theorem d_method_3_66 : decode method_3_code 66 = .ok (.dup, 1) := by decide +kernel
theorem d_method_3_67 : decode method_3_code 67 = .ok (.iconst 0, 1) := by decide +kernel
theorem d_method_3_68 : decode method_3_code 68 = .ok (.iload_n 0, 1) := by decide +kernel
theorem d_method_3_69 : decode method_3_code 69 = .ok (.castore, 1) := by decide +kernel
theorem d_method_3_70 : decode method_3_code 70 = .ok (.dup, 1) := by decide +kernel
theorem d_method_3_71 : decode method_3_code 71 = .ok (.iconst 1, 1) := by decide +kernel
theorem d_method_3_72 : decode method_3_code 72 = .ok (.iload_n 1, 1) := by decide +kernel
theorem d_method_3_73 : decode method_3_code 73 = .ok (.castore, 1) := by decide +kernel
theorem d_method_3_74 : decode method_3_code 74 = .ok (.dup, 1) := by decide +kernel
theorem d_method_3_75 : decode method_3_code 75 = .ok (.iconst 2, 1) := by decide +kernel
theorem d_method_3_76 : decode method_3_code 76 = .ok (.iload_n 2, 1) := by decide +kernel
theorem d_method_3_77 : decode method_3_code 77 = .ok (.castore, 1) := by decide +kernel
theorem d_method_3_78 : decode method_3_code 78 = .ok (.invokespecial 32, 3) := by decide +kernel
theorem d_method_3_81 : decode method_3_code 81 = .ok (.areturn, 1) := by decide +kernel
theorem d_jdk_68_method_2_0 : decode jdk_68_method_2_code 0 = .ok (.aload_n 0, 1) := by decide +kernel
theorem d_jdk_68_method_2_1 : decode jdk_68_method_2_code 1 = .ok (.invokespecial 3, 3) := by decide +kernel
theorem d_jdk_68_method_2_4 : decode jdk_68_method_2_code 4 = .ok (.getstatic 18, 3) := by decide +kernel
theorem d_jdk_68_method_2_7 : decode jdk_68_method_2_code 7 = .ok (.ifCond .eq 18, 3) := by decide +kernel
theorem d_jdk_68_method_2_10 : decode jdk_68_method_2_code 10 = .ok (.aload_n 0, 1) := by decide +kernel
theorem d_jdk_68_method_2_11 : decode jdk_68_method_2_code 11 = .ok (.iload_n 1, 1) := by decide +kernel
theorem d_jdk_68_method_2_12 : decode jdk_68_method_2_code 12 = .ok (.newarray .byte, 2) := by decide +kernel
theorem d_jdk_68_method_2_14 : decode jdk_68_method_2_code 14 = .ok (.putfield 15, 3) := by decide +kernel
theorem d_jdk_68_method_2_17 : decode jdk_68_method_2_code 17 = .ok (.aload_n 0, 1) := by decide +kernel
theorem d_jdk_68_method_2_18 : decode jdk_68_method_2_code 18 = .ok (.iconst 0, 1) := by decide +kernel
theorem d_jdk_68_method_2_19 : decode jdk_68_method_2_code 19 = .ok (.putfield 22, 3) := by decide +kernel
theorem d_jdk_68_method_2_22 : decode jdk_68_method_2_code 22 = .ok (.goto 16, 3) := by decide +kernel
theorem d_jdk_68_method_2_38 : decode jdk_68_method_2_code 38 = .ok (.return_, 1) := by decide +kernel
theorem d_jdk_68_method_22_0 : decode jdk_68_method_22_code 0 = .ok (.aload_n 1, 1) := by decide +kernel
theorem d_jdk_68_method_22_1 : decode jdk_68_method_22_code 1 = .ok (.ifnonnull 8, 3) := by decide +kernel
theorem d_jdk_68_method_22_9 : decode jdk_68_method_22_code 9 = .ok (.aload_n 1, 1) := by decide +kernel
theorem d_jdk_68_method_22_10 : decode jdk_68_method_22_code 10 = .ok (.invokevirtual 32, 3) := by decide +kernel
theorem d_jdk_68_method_22_13 : decode jdk_68_method_22_code 13 = .ok (.istore_n 2, 1) := by decide +kernel
theorem d_jdk_68_method_22_14 : decode jdk_68_method_22_code 14 = .ok (.aload_n 0, 1) := by decide +kernel
theorem d_jdk_68_method_22_15 : decode jdk_68_method_22_code 15 = .ok (.aload_n 0, 1) := by decide +kernel
theorem d_jdk_68_method_22_16 : decode jdk_68_method_22_code 16 = .ok (.getfield 79, 3) := by decide +kernel
theorem d_jdk_68_method_22_19 : decode jdk_68_method_22_code 19 = .ok (.iload_n 2, 1) := by decide +kernel
theorem d_jdk_68_method_22_20 : decode jdk_68_method_22_code 20 = .ok (.iadd, 1) := by decide +kernel
theorem d_jdk_68_method_22_21 : decode jdk_68_method_22_code 21 = .ok (.invokevirtual 100, 3) := by decide +kernel
theorem d_jdk_68_method_22_24 : decode jdk_68_method_22_code 24 = .ok (.aload_n 0, 1) := by decide +kernel
theorem d_jdk_68_method_22_25 : decode jdk_68_method_22_code 25 = .ok (.aload_n 0, 1) := by decide +kernel
theorem d_jdk_68_method_22_26 : decode jdk_68_method_22_code 26 = .ok (.getfield 79, 3) := by decide +kernel
theorem d_jdk_68_method_22_29 : decode jdk_68_method_22_code 29 = .ok (.aload_n 1, 1) := by decide +kernel
theorem d_jdk_68_method_22_30 : decode jdk_68_method_22_code 30 = .ok (.invokevirtual 208, 3) := by decide +kernel
theorem d_jdk_68_method_22_33 : decode jdk_68_method_22_code 33 = .ok (.aload_n 0, 1) := by decide +kernel
theorem d_jdk_68_method_22_34 : decode jdk_68_method_22_code 34 = .ok (.dup, 1) := by decide +kernel
theorem d_jdk_68_method_22_35 : decode jdk_68_method_22_code 35 = .ok (.getfield 79, 3) := by decide +kernel
theorem d_jdk_68_method_22_38 : decode jdk_68_method_22_code 38 = .ok (.iload_n 2, 1) := by decide +kernel
theorem d_jdk_68_method_22_39 : decode jdk_68_method_22_code 39 = .ok (.iadd, 1) := by decide +kernel
theorem d_jdk_68_method_22_40 : decode jdk_68_method_22_code 40 = .ok (.putfield 79, 3) := by decide +kernel
theorem d_jdk_68_method_22_43 : decode jdk_68_method_22_code 43 = .ok (.aload_n 0, 1) := by decide +kernel
theorem d_jdk_68_method_22_44 : decode jdk_68_method_22_code 44 = .ok (.areturn, 1) := by decide +kernel
theorem d_jdk_68_method_9_0 : decode jdk_68_method_9_code 0 = .ok (.aload_n 0, 1) := by decide +kernel
theorem d_jdk_68_method_9_1 : decode jdk_68_method_9_code 1 = .ok (.getfield 15, 3) := by decide +kernel
theorem d_jdk_68_method_9_4 : decode jdk_68_method_9_code 4 = .ok (.arraylength, 1) := by decide +kernel
theorem d_jdk_68_method_9_5 : decode jdk_68_method_9_code 5 = .ok (.aload_n 0, 1) := by decide +kernel
theorem d_jdk_68_method_9_6 : decode jdk_68_method_9_code 6 = .ok (.getfield 22, 3) := by decide +kernel
theorem d_jdk_68_method_9_9 : decode jdk_68_method_9_code 9 = .ok (.ishr, 1) := by decide +kernel
theorem d_jdk_68_method_9_10 : decode jdk_68_method_9_code 10 = .ok (.istore_n 2, 1) := by decide +kernel
theorem d_jdk_68_method_9_11 : decode jdk_68_method_9_code 11 = .ok (.iload_n 1, 1) := by decide +kernel
theorem d_jdk_68_method_9_12 : decode jdk_68_method_9_code 12 = .ok (.iload_n 2, 1) := by decide +kernel
theorem d_jdk_68_method_9_13 : decode jdk_68_method_9_code 13 = .ok (.isub, 1) := by decide +kernel
theorem d_jdk_68_method_9_14 : decode jdk_68_method_9_code 14 = .ok (.ifCond .le 24, 3) := by decide +kernel
theorem d_jdk_68_method_9_17 : decode jdk_68_method_9_code 17 = .ok (.aload_n 0, 1) := by decide +kernel
theorem d_jdk_68_method_9_18 : decode jdk_68_method_9_code 18 = .ok (.aload_n 0, 1) := by decide +kernel
theorem d_jdk_68_method_9_19 : decode jdk_68_method_9_code 19 = .ok (.getfield 15, 3) := by decide +kernel
theorem d_jdk_68_method_9_22 : decode jdk_68_method_9_code 22 = .ok (.aload_n 0, 1) := by decide +kernel
theorem d_jdk_68_method_9_23 : decode jdk_68_method_9_code 23 = .ok (.iload_n 1, 1) := by decide +kernel
theorem d_jdk_68_method_9_24 : decode jdk_68_method_9_code 24 = .ok (.invokevirtual 104, 3) := by decide +kernel
theorem d_jdk_68_method_9_27 : decode jdk_68_method_9_code 27 = .ok (.aload_n 0, 1) := by decide +kernel
theorem d_jdk_68_method_9_28 : decode jdk_68_method_9_code 28 = .ok (.getfield 22, 3) := by decide +kernel
theorem d_jdk_68_method_9_31 : decode jdk_68_method_9_code 31 = .ok (.ishl, 1) := by decide +kernel
theorem d_jdk_68_method_9_32 : decode jdk_68_method_9_code 32 = .ok (.invokestatic 108, 3) := by decide +kernel
theorem d_jdk_68_method_9_35 : decode jdk_68_method_9_code 35 = .ok (.putfield 15, 3) := by decide +kernel
theorem d_jdk_68_method_9_38 : decode jdk_68_method_9_code 38 = .ok (.return_, 1) := by decide +kernel
theorem d_jdk_68_method_64_0 : decode jdk_68_method_64_code 0 = .ok (.aload_n 0, 1) := by decide +kernel
theorem d_jdk_68_method_64_1 : decode jdk_68_method_64_code 1 = .ok (.getfield 15, 3) := by decide +kernel
theorem d_jdk_68_method_64_4 : decode jdk_68_method_64_code 4 = .ok (.areturn, 1) := by decide +kernel
theorem d_jdk_68_method_71_0 : decode jdk_68_method_71_code 0 = .ok (.getstatic 18, 3) := by decide +kernel
theorem d_jdk_68_method_71_3 : decode jdk_68_method_71_code 3 = .ok (.ifCond .eq 18, 3) := by decide +kernel
theorem d_jdk_68_method_71_6 : decode jdk_68_method_71_code 6 = .ok (.aload_n 0, 1) := by decide +kernel
theorem d_jdk_68_method_71_7 : decode jdk_68_method_71_code 7 = .ok (.getfield 22, 3) := by decide +kernel
theorem d_jdk_68_method_71_10 : decode jdk_68_method_71_code 10 = .ok (.aload_n 1, 1) := by decide +kernel
theorem d_jdk_68_method_71_11 : decode jdk_68_method_71_code 11 = .ok (.invokevirtual 40, 3) := by decide +kernel
theorem d_jdk_68_method_71_14 : decode jdk_68_method_71_code 14 = .ok (.if_icmp .eq 7, 3) := by decide +kernel
theorem d_jdk_68_method_71_21 : decode jdk_68_method_71_code 21 = .ok (.return_, 1) := by decide +kernel
theorem d_jdk_68_method_68_0 : decode jdk_68_method_68_code 0 = .ok (.getstatic 18, 3) := by decide +kernel
theorem d_jdk_68_method_68_3 : decode jdk_68_method_68_code 3 = .ok (.ifCond .eq 14, 3) := by decide +kernel
theorem d_jdk_68_method_68_6 : decode jdk_68_method_68_code 6 = .ok (.aload_n 0, 1) := by decide +kernel
theorem d_jdk_68_method_68_7 : decode jdk_68_method_68_code 7 = .ok (.getfield 22, 3) := by decide +kernel
theorem d_jdk_68_method_68_10 : decode jdk_68_method_68_code 10 = .ok (.ifCond .ne 7, 3) := by decide +kernel
theorem d_jdk_68_method_68_13 : decode jdk_68_method_68_code 13 = .ok (.iconst 1, 1) := by decide +kernel
theorem d_jdk_68_method_68_14 : decode jdk_68_method_68_code 14 = .ok (.goto 4, 3) := by decide +kernel
theorem d_jdk_68_method_68_18 : decode jdk_68_method_68_code 18 = .ok (.ireturn, 1) := by decide +kernel
theorem d_jdk_68_method_6_0 : decode jdk_68_method_6_code 0 = .ok (.aload_n 0, 1) := by decide +kernel
theorem d_jdk_68_method_6_1 : decode jdk_68_method_6_code 1 = .ok (.getfield 79, 3) := by decide +kernel
theorem d_jdk_68_method_6_4 : decode jdk_68_method_6_code 4 = .ok (.ireturn, 1) := by decide +kernel
theorem d_jdk_68_method_10_0 : decode jdk_68_method_10_code 0 = .ok (.aload_n 0, 1) := by decide +kernel
theorem d_jdk_68_method_10_1 : decode jdk_68_method_10_code 1 = .ok (.getfield 15, 3) := by decide +kernel
theorem d_jdk_68_method_10_4 : decode jdk_68_method_10_code 4 = .ok (.arraylength, 1) := by decide +kernel
theorem d_jdk_68_method_10_5 : decode jdk_68_method_10_code 5 = .ok (.istore_n 2, 1) := by decide +kernel
theorem d_jdk_68_method_10_6 : decode jdk_68_method_10_code 6 = .ok (.iload_n 1, 1) := by decide +kernel
theorem d_jdk_68_method_10_7 : decode jdk_68_method_10_code 7 = .ok (.aload_n 0, 1) := by decide +kernel
theorem d_jdk_68_method_10_8 : decode jdk_68_method_10_code 8 = .ok (.getfield 22, 3) := by decide +kernel
theorem d_jdk_68_method_10_11 : decode jdk_68_method_10_code 11 = .ok (.ishl, 1) := by decide +kernel
theorem d_jdk_68_method_10_12 : decode jdk_68_method_10_code 12 = .ok (.istore_n 3, 1) := by decide +kernel
theorem d_jdk_68_method_10_13 : decode jdk_68_method_10_code 13 = .ok (.iload_n 3, 1) := by decide +kernel
theorem d_jdk_68_method_10_14 : decode jdk_68_method_10_code 14 = .ok (.iload_n 2, 1) := by decide +kernel
theorem d_jdk_68_method_10_15 : decode jdk_68_method_10_code 15 = .ok (.isub, 1) := by decide +kernel
theorem d_jdk_68_method_10_16 : decode jdk_68_method_10_code 16 = .ok (.istore 4, 2) := by decide +kernel
theorem d_jdk_68_method_10_18 : decode jdk_68_method_10_code 18 = .ok (.iload_n 2, 1) := by decide +kernel
theorem d_jdk_68_method_10_19 : decode jdk_68_method_10_code 19 = .ok (.iload 4, 2) := by decide +kernel
theorem d_jdk_68_method_10_21 : decode jdk_68_method_10_code 21 = .ok (.iload_n 2, 1) := by decide +kernel
theorem d_jdk_68_method_10_22 : decode jdk_68_method_10_code 22 = .ok (.iconst 2, 1) := by decide +kernel
theorem d_jdk_68_method_10_23 : decode jdk_68_method_10_code 23 = .ok (.aload_n 0, 1) := by decide +kernel
theorem d_jdk_68_method_10_24 : decode jdk_68_method_10_code 24 = .ok (.getfield 22, 3) := by decide +kernel
theorem d_jdk_68_method_10_27 : decode jdk_68_method_10_code 27 = .ok (.ishl, 1) := by decide +kernel
theorem d_jdk_68_method_10_28 : decode jdk_68_method_10_code 28 = .ok (.iadd, 1) := by decide +kernel
theorem d_jdk_68_method_10_29 : decode jdk_68_method_10_code 29 = .ok (.invokestatic 114, 3) := by decide +kernel
theorem d_jdk_68_method_10_32 : decode jdk_68_method_10_code 32 = .ok (.istore 5, 2) := by decide +kernel
theorem d_jdk_68_method_10_34 : decode jdk_68_method_10_code 34 = .ok (.iload 5, 2) := by decide +kernel
theorem d_jdk_68_method_10_36 : decode jdk_68_method_10_code 36 = .ok (.ldc 39, 2) := by decide +kernel
theorem d_jdk_68_method_10_38 : decode jdk_68_method_10_code 38 = .ok (.if_icmp .ne 13, 3) := by decide +kernel
theorem d_jdk_68_method_10_51 : decode jdk_68_method_10_code 51 = .ok (.iload 5, 2) := by decide +kernel
theorem d_jdk_68_method_10_53 : decode jdk_68_method_10_code 53 = .ok (.aload_n 0, 1) := by decide +kernel
theorem d_jdk_68_method_10_54 : decode jdk_68_method_10_code 54 = .ok (.getfield 22, 3) := by decide +kernel
theorem d_jdk_68_method_10_57 : decode jdk_68_method_10_code 57 = .ok (.ishr, 1) := by decide +kernel
theorem d_jdk_68_method_10_58 : decode jdk_68_method_10_code 58 = .ok (.ireturn, 1) := by decide +kernel
theorem d_jdk_68_method_73_0 : decode jdk_68_method_73_code 0 = .ok (.aload_n 0, 1) := by decide +kernel
theorem d_jdk_68_method_73_1 : decode jdk_68_method_73_code 1 = .ok (.aload_n 2, 1) := by decide +kernel
theorem d_jdk_68_method_73_2 : decode jdk_68_method_73_code 2 = .ok (.invokevirtual 397, 3) := by decide +kernel
theorem d_jdk_68_method_73_5 : decode jdk_68_method_73_code 5 = .ok (.aload_n 2, 1) := by decide +kernel
theorem d_jdk_68_method_73_6 : decode jdk_68_method_73_code 6 = .ok (.aload_n 0, 1) := by decide +kernel
theorem d_jdk_68_method_73_7 : decode jdk_68_method_73_code 7 = .ok (.getfield 15, 3) := by decide +kernel
theorem d_jdk_68_method_73_10 : decode jdk_68_method_73_code 10 = .ok (.iload_n 1, 1) := by decide +kernel
theorem d_jdk_68_method_73_11 : decode jdk_68_method_73_code 11 = .ok (.aload_n 0, 1) := by decide +kernel
theorem d_jdk_68_method_73_12 : decode jdk_68_method_73_code 12 = .ok (.getfield 22, 3) := by decide +kernel
theorem d_jdk_68_method_73_15 : decode jdk_68_method_73_code 15 = .ok (.invokevirtual 399, 3) := by decide +kernel
theorem d_jdk_68_method_73_18 : decode jdk_68_method_73_code 18 = .ok (.return_, 1) := by decide +kernel
theorem d_jdk_59_method_2_0 : decode jdk_59_method_2_code 0 = .ok (.aload_n 0, 1) := by decide +kernel
theorem d_jdk_59_method_2_1 : decode jdk_59_method_2_code 1 = .ok (.aload_n 1, 1) := by decide +kernel
theorem d_jdk_59_method_2_2 : decode jdk_59_method_2_code 2 = .ok (.invokespecial 7, 3) := by decide +kernel
theorem d_jdk_59_method_2_5 : decode jdk_59_method_2_code 5 = .ok (.return_, 1) := by decide +kernel
theorem d_jdk_29_method_65_0 : decode jdk_29_method_65_code 0 = .ok (.iload_n 0, 1) := by decide +kernel
theorem d_jdk_29_method_65_1 : decode jdk_29_method_65_code 1 = .ok (.iload_n 1, 1) := by decide +kernel
theorem d_jdk_29_method_65_2 : decode jdk_29_method_65_code 2 = .ok (.if_icmp .lt 7, 3) := by decide +kernel
theorem d_jdk_29_method_65_5 : decode jdk_29_method_65_code 5 = .ok (.iload_n 0, 1) := by decide +kernel
theorem d_jdk_29_method_65_6 : decode jdk_29_method_65_code 6 = .ok (.goto 4, 3) := by decide +kernel
theorem d_jdk_29_method_65_9 : decode jdk_29_method_65_code 9 = .ok (.iload_n 1, 1) := by decide +kernel
theorem d_jdk_29_method_65_10 : decode jdk_29_method_65_code 10 = .ok (.ireturn, 1) := by decide +kernel
theorem d_jdk_29_method_69_0 : decode jdk_29_method_69_code 0 = .ok (.iload_n 0, 1) := by decide +kernel
theorem d_jdk_29_method_69_1 : decode jdk_29_method_69_code 1 = .ok (.iload_n 1, 1) := by decide +kernel
theorem d_jdk_29_method_69_2 : decode jdk_29_method_69_code 2 = .ok (.if_icmp .gt 7, 3) := by decide +kernel
theorem d_jdk_29_method_69_5 : decode jdk_29_method_69_code 5 = .ok (.iload_n 0, 1) := by decide +kernel
theorem d_jdk_29_method_69_6 : decode jdk_29_method_69_code 6 = .ok (.goto 4, 3) := by decide +kernel
theorem d_jdk_29_method_69_9 : decode jdk_29_method_69_code 9 = .ok (.iload_n 1, 1) := by decide +kernel
theorem d_jdk_29_method_69_10 : decode jdk_29_method_69_code 10 = .ok (.ireturn, 1) := by decide +kernel
theorem d_jdk_42_method_150_0 : decode jdk_42_method_150_code 0 = .ok (.aload_n 0, 1) := by decide +kernel
theorem d_jdk_42_method_150_1 : decode jdk_42_method_150_code 1 = .ok (.invokespecial 1, 3) := by decide +kernel
theorem d_jdk_42_method_150_4 : decode jdk_42_method_150_code 4 = .ok (.aload_n 1, 1) := by decide +kernel
theorem d_jdk_42_method_150_5 : decode jdk_42_method_150_code 5 = .ok (.invokevirtual 552, 3) := by decide +kernel
theorem d_jdk_42_method_150_8 : decode jdk_42_method_150_code 8 = .ok (.astore_n 3, 1) := by decide +kernel
theorem d_jdk_42_method_150_9 : decode jdk_42_method_150_code 9 = .ok (.aload_n 1, 1) := by decide +kernel
theorem d_jdk_42_method_150_10 : decode jdk_42_method_150_code 10 = .ok (.invokevirtual 549, 3) := by decide +kernel
theorem d_jdk_42_method_150_13 : decode jdk_42_method_150_code 13 = .ok (.istore 4, 2) := by decide +kernel
theorem d_jdk_42_method_150_15 : decode jdk_42_method_150_code 15 = .ok (.aload_n 1, 1) := by decide +kernel
theorem d_jdk_42_method_150_16 : decode jdk_42_method_150_code 16 = .ok (.invokevirtual 1047, 3) := by decide +kernel
theorem d_jdk_42_method_150_19 : decode jdk_42_method_150_code 19 = .ok (.ifCond .eq 22, 3) := by decide +kernel
theorem d_jdk_42_method_150_22 : decode jdk_42_method_150_code 22 = .ok (.aload_n 0, 1) := by decide +kernel
theorem d_jdk_42_method_150_23 : decode jdk_42_method_150_code 23 = .ok (.iconst 0, 1) := by decide +kernel
theorem d_jdk_42_method_150_24 : decode jdk_42_method_150_code 24 = .ok (.putfield 15, 3) := by decide +kernel
theorem d_jdk_42_method_150_27 : decode jdk_42_method_150_code 27 = .ok (.aload_n 0, 1) := by decide +kernel
theorem d_jdk_42_method_150_28 : decode jdk_42_method_150_code 28 = .ok (.aload_n 3, 1) := by decide +kernel
theorem d_jdk_42_method_150_29 : decode jdk_42_method_150_code 29 = .ok (.iconst 0, 1) := by decide +kernel
theorem d_jdk_42_method_150_30 : decode jdk_42_method_150_code 30 = .ok (.iload 4, 2) := by decide +kernel
theorem d_jdk_42_method_150_32 : decode jdk_42_method_150_code 32 = .ok (.invokestatic 54, 3) := by decide +kernel
theorem d_jdk_42_method_150_35 : decode jdk_42_method_150_code 35 = .ok (.putfield 9, 3) := by decide +kernel
theorem d_jdk_42_method_150_38 : decode jdk_42_method_150_code 38 = .ok (.goto 59, 3) := by decide +kernel
theorem d_jdk_42_method_150_97 : decode jdk_42_method_150_code 97 = .ok (.return_, 1) := by decide +kernel
theorem d_jdk_42_method_53_0 : decode jdk_42_method_53_code 0 = .ok (.aload_n 0, 1) := by decide +kernel
theorem d_jdk_42_method_53_1 : decode jdk_42_method_53_code 1 = .ok (.aload_n 1, 1) := by decide +kernel
theorem d_jdk_42_method_53_2 : decode jdk_42_method_53_code 2 = .ok (.aconst_null, 1) := by decide +kernel
theorem d_jdk_42_method_53_3 : decode jdk_42_method_53_code 3 = .ok (.invokespecial 489, 3) := by decide +kernel
theorem d_jdk_42_method_53_6 : decode jdk_42_method_53_code 6 = .ok (.return_, 1) := by decide +kernel
theorem d_jdk_42_method_3_0 : decode jdk_42_method_3_code 0 = .ok (.aload_n 0, 1) := by decide +kernel
theorem d_jdk_42_method_3_1 : decode jdk_42_method_3_code 1 = .ok (.aload_n 1, 1) := by decide +kernel
theorem d_jdk_42_method_3_2 : decode jdk_42_method_3_code 2 = .ok (.iconst 0, 1) := by decide +kernel
theorem d_jdk_42_method_3_3 : decode jdk_42_method_3_code 3 = .ok (.aload_n 1, 1) := by decide +kernel
theorem d_jdk_42_method_3_4 : decode jdk_42_method_3_code 4 = .ok (.arraylength, 1) := by decide +kernel
theorem d_jdk_42_method_3_5 : decode jdk_42_method_3_code 5 = .ok (.aconst_null, 1) := by decide +kernel
theorem d_jdk_42_method_3_6 : decode jdk_42_method_3_code 6 = .ok (.invokespecial 27, 3) := by decide +kernel
theorem d_jdk_42_method_3_9 : decode jdk_42_method_3_code 9 = .ok (.return_, 1) := by decide +kernel
theorem d_jdk_42_method_149_0 : decode jdk_42_method_149_code 0 = .ok (.aload_n 0, 1) := by decide +kernel
theorem d_jdk_42_method_149_1 : decode jdk_42_method_149_code 1 = .ok (.invokespecial 1, 3) := by decide +kernel
theorem d_jdk_42_method_149_4 : decode jdk_42_method_149_code 4 = .ok (.iload_n 3, 1) := by decide +kernel
theorem d_jdk_42_method_149_5 : decode jdk_42_method_149_code 5 = .ok (.ifCond .ne 22, 3) := by decide +kernel
theorem d_jdk_42_method_149_8 : decode jdk_42_method_149_code 8 = .ok (.aload_n 0, 1) := by decide +kernel
theorem d_jdk_42_method_149_9 : decode jdk_42_method_149_code 9 = .ok (.ldc 7, 2) := by decide +kernel
theorem d_jdk_42_method_149_11 : decode jdk_42_method_149_code 11 = .ok (.getfield 9, 3) := by decide +kernel
theorem d_jdk_42_method_149_14 : decode jdk_42_method_149_code 14 = .ok (.putfield 9, 3) := by decide +kernel
theorem d_jdk_42_method_149_17 : decode jdk_42_method_149_code 17 = .ok (.aload_n 0, 1) := by decide +kernel
theorem d_jdk_42_method_149_18 : decode jdk_42_method_149_code 18 = .ok (.ldc 7, 2) := by decide +kernel
theorem d_jdk_42_method_149_20 : decode jdk_42_method_149_code 20 = .ok (.getfield 15, 3) := by decide +kernel
theorem d_jdk_42_method_149_23 : decode jdk_42_method_149_code 23 = .ok (.putfield 15, 3) := by decide +kernel
theorem d_jdk_42_method_149_26 : decode jdk_42_method_149_code 26 = .ok (.return_, 1) := by decide +kernel
theorem d_jdk_42_method_149_27 : decode jdk_42_method_149_code 27 = .ok (.getstatic 38, 3) := by decide +kernel
theorem d_jdk_42_method_149_30 : decode jdk_42_method_149_code 30 = .ok (.ifCond .eq 28, 3) := by decide +kernel
theorem d_jdk_42_method_149_33 : decode jdk_42_method_149_code 33 = .ok (.aload_n 1, 1) := by decide +kernel
theorem d_jdk_42_method_149_34 : decode jdk_42_method_149_code 34 = .ok (.iload_n 2, 1) := by decide +kernel
theorem d_jdk_42_method_149_35 : decode jdk_42_method_149_code 35 = .ok (.iload_n 3, 1) := by decide +kernel
theorem d_jdk_42_method_149_36 : decode jdk_42_method_149_code 36 = .ok (.invokestatic 177, 3) := by decide +kernel
theorem d_jdk_42_method_149_39 : decode jdk_42_method_149_code 39 = .ok (.astore 5, 2) := by decide +kernel
theorem d_jdk_42_method_149_41 : decode jdk_42_method_149_code 41 = .ok (.aload_n 0, 1) := by decide +kernel
theorem d_jdk_42_method_149_42 : decode jdk_42_method_149_code 42 = .ok (.aload 5, 2) := by decide +kernel
theorem d_jdk_42_method_149_44 : decode jdk_42_method_149_code 44 = .ok (.iload_n 3, 1) := by decide +kernel
theorem d_jdk_42_method_149_45 : decode jdk_42_method_149_code 45 = .ok (.invokestatic 47, 3) := by decide +kernel
theorem d_jdk_42_method_149_48 : decode jdk_42_method_149_code 48 = .ok (.putfield 15, 3) := by decide +kernel
theorem d_jdk_42_method_149_51 : decode jdk_42_method_149_code 51 = .ok (.aload_n 0, 1) := by decide +kernel
theorem d_jdk_42_method_149_52 : decode jdk_42_method_149_code 52 = .ok (.aload 5, 2) := by decide +kernel
theorem d_jdk_42_method_149_54 : decode jdk_42_method_149_code 54 = .ok (.putfield 9, 3) := by decide +kernel
theorem d_jdk_42_method_149_57 : decode jdk_42_method_149_code 57 = .ok (.return_, 1) := by decide +kernel
theorem d_jdk_42_method_152_0 : decode jdk_42_method_152_code 0 = .ok (.getstatic 38, 3) := by decide +kernel
theorem d_jdk_42_method_152_3 : decode jdk_42_method_152_code 3 = .ok (.ifCond .eq 10, 3) := by decide +kernel
theorem d_jdk_42_method_152_6 : decode jdk_42_method_152_code 6 = .ok (.aload_n 0, 1) := by decide +kernel
theorem d_jdk_42_method_152_7 : decode jdk_42_method_152_code 7 = .ok (.getfield 15, 3) := by decide +kernel
theorem d_jdk_42_method_152_10 : decode jdk_42_method_152_code 10 = .ok (.goto 4, 3) := by decide +kernel
theorem d_jdk_42_method_152_14 : decode jdk_42_method_152_code 14 = .ok (.ireturn, 1) := by decide +kernel
theorem d_jdk_42_method_66_0 : decode jdk_42_method_66_code 0 = .ok (.aload_n 0, 1) := by decide +kernel
theorem d_jdk_42_method_66_1 : decode jdk_42_method_66_code 1 = .ok (.aload_n 1, 1) := by decide +kernel
theorem d_jdk_42_method_66_2 : decode jdk_42_method_66_code 2 = .ok (.if_acmp .ne 5, 3) := by decide +kernel
theorem d_jdk_42_method_66_5 : decode jdk_42_method_66_code 5 = .ok (.iconst 1, 1) := by decide +kernel
theorem d_jdk_42_method_66_6 : decode jdk_42_method_66_code 6 = .ok (.ireturn, 1) := by decide +kernel
theorem d_jdk_42_method_66_7 : decode jdk_42_method_66_code 7 = .ok (.aload_n 1, 1) := by decide +kernel
theorem d_jdk_42_method_66_8 : decode jdk_42_method_66_code 8 = .ok (.instanceof 10, 3) := by decide +kernel
theorem d_jdk_42_method_66_11 : decode jdk_42_method_66_code 11 = .ok (.ifCond .eq 43, 3) := by decide +kernel
theorem d_jdk_42_method_66_14 : decode jdk_42_method_66_code 14 = .ok (.aload_n 1, 1) := by decide +kernel
theorem d_jdk_42_method_66_15 : decode jdk_42_method_66_code 15 = .ok (.checkcast 10, 3) := by decide +kernel
theorem d_jdk_42_method_66_18 : decode jdk_42_method_66_code 18 = .ok (.astore_n 2, 1) := by decide +kernel
theorem d_jdk_42_method_66_19 : decode jdk_42_method_66_code 19 = .ok (.getstatic 38, 3) := by decide +kernel
theorem d_jdk_42_method_66_22 : decode jdk_42_method_66_code 22 = .ok (.ifCond .eq 14, 3) := by decide +kernel
theorem d_jdk_42_method_66_25 : decode jdk_42_method_66_code 25 = .ok (.aload_n 0, 1) := by decide +kernel
theorem d_jdk_42_method_66_26 : decode jdk_42_method_66_code 26 = .ok (.getfield 15, 3) := by decide +kernel
theorem d_jdk_42_method_66_29 : decode jdk_42_method_66_code 29 = .ok (.aload_n 2, 1) := by decide +kernel
theorem d_jdk_42_method_66_30 : decode jdk_42_method_66_code 30 = .ok (.getfield 15, 3) := by decide +kernel
theorem d_jdk_42_method_66_33 : decode jdk_42_method_66_code 33 = .ok (.if_icmp .ne 21, 3) := by decide +kernel
theorem d_jdk_42_method_66_36 : decode jdk_42_method_66_code 36 = .ok (.aload_n 0, 1) := by decide +kernel
theorem d_jdk_42_method_66_37 : decode jdk_42_method_66_code 37 = .ok (.getfield 9, 3) := by decide +kernel
theorem d_jdk_42_method_66_40 : decode jdk_42_method_66_code 40 = .ok (.aload_n 2, 1) := by decide +kernel
theorem d_jdk_42_method_66_41 : decode jdk_42_method_66_code 41 = .ok (.getfield 9, 3) := by decide +kernel
theorem d_jdk_42_method_66_44 : decode jdk_42_method_66_code 44 = .ok (.invokestatic 541, 3) := by decide +kernel
theorem d_jdk_42_method_66_47 : decode jdk_42_method_66_code 47 = .ok (.ifCond .eq 7, 3) := by decide +kernel
theorem d_jdk_42_method_66_50 : decode jdk_42_method_66_code 50 = .ok (.iconst 1, 1) := by decide +kernel
theorem d_jdk_42_method_66_51 : decode jdk_42_method_66_code 51 = .ok (.goto 4, 3) := by decide +kernel
theorem d_jdk_42_method_66_54 : decode jdk_42_method_66_code 54 = .ok (.iconst 0, 1) := by decide +kernel
theorem d_jdk_42_method_66_55 : decode jdk_42_method_66_code 55 = .ok (.ireturn, 1) := by decide +kernel
theorem d_jdk_42_method_147_0 : decode jdk_42_method_147_code 0 = .ok (.aload_n 0, 1) := by decide +kernel
theorem d_jdk_42_method_147_1 : decode jdk_42_method_147_code 1 = .ok (.invokevirtual 335, 3) := by decide +kernel
theorem d_jdk_42_method_147_4 : decode jdk_42_method_147_code 4 = .ok (.iload_n 3, 1) := by decide +kernel
theorem d_jdk_42_method_147_5 : decode jdk_42_method_147_code 5 = .ok (.if_icmp .ne 23, 3) := by decide +kernel
theorem d_jdk_42_method_147_8 : decode jdk_42_method_147_code 8 = .ok (.aload_n 0, 1) := by decide +kernel
theorem d_jdk_42_method_147_9 : decode jdk_42_method_147_code 9 = .ok (.getfield 9, 3) := by decide +kernel
theorem d_jdk_42_method_147_12 : decode jdk_42_method_147_code 12 = .ok (.iconst 0, 1) := by decide +kernel
theorem d_jdk_42_method_147_13 : decode jdk_42_method_147_code 13 = .ok (.aload_n 1, 1) := by decide +kernel
theorem d_jdk_42_method_147_14 : decode jdk_42_method_147_code 14 = .ok (.iload_n 2, 1) := by decide +kernel
theorem d_jdk_42_method_147_15 : decode jdk_42_method_147_code 15 = .ok (.iload_n 3, 1) := by decide +kernel
theorem d_jdk_42_method_147_16 : decode jdk_42_method_147_code 16 = .ok (.ishl, 1) := by decide +kernel
theorem d_jdk_42_method_147_17 : decode jdk_42_method_147_code 17 = .ok (.aload_n 0, 1) := by decide +kernel
theorem d_jdk_42_method_147_18 : decode jdk_42_method_147_code 18 = .ok (.getfield 9, 3) := by decide +kernel
theorem d_jdk_42_method_147_21 : decode jdk_42_method_147_code 21 = .ok (.arraylength, 1) := by decide +kernel
theorem d_jdk_42_method_147_22 : decode jdk_42_method_147_code 22 = .ok (.invokestatic 212, 3) := by decide +kernel
theorem d_jdk_42_method_147_25 : decode jdk_42_method_147_code 25 = .ok (.goto 18, 3) := by decide +kernel
theorem d_jdk_42_method_147_43 : decode jdk_42_method_147_code 43 = .ok (.return_, 1) := by decide +kernel
theorem d_jdk_42_method_54_0 : decode jdk_42_method_54_code 0 = .ok (.aload_n 0, 1) := by decide +kernel
theorem d_jdk_42_method_54_1 : decode jdk_42_method_54_code 1 = .ok (.getfield 9, 3) := by decide +kernel
theorem d_jdk_42_method_54_4 : decode jdk_42_method_54_code 4 = .ok (.arraylength, 1) := by decide +kernel
theorem d_jdk_42_method_54_5 : decode jdk_42_method_54_code 5 = .ok (.aload_n 0, 1) := by decide +kernel
theorem d_jdk_42_method_54_6 : decode jdk_42_method_54_code 6 = .ok (.invokevirtual 335, 3) := by decide +kernel
theorem d_jdk_42_method_54_9 : decode jdk_42_method_54_code 9 = .ok (.ishr, 1) := by decide +kernel
theorem d_jdk_42_method_54_10 : decode jdk_42_method_54_code 10 = .ok (.ireturn, 1) := by decide +kernel
theorem d_jdk_67_method_1_0 : decode jdk_67_method_1_code 0 = .ok (.aload_n 0, 1) := by decide +kernel
theorem d_jdk_67_method_1_1 : decode jdk_67_method_1_code 1 = .ok (.bipush 16, 2) := by decide +kernel
theorem d_jdk_67_method_1_3 : decode jdk_67_method_1_code 3 = .ok (.invokespecial 1, 3) := by decide +kernel
theorem d_jdk_67_method_1_6 : decode jdk_67_method_1_code 6 = .ok (.return_, 1) := by decide +kernel
theorem d_jdk_67_method_7_0 : decode jdk_67_method_7_code 0 = .ok (.aload_n 0, 1) := by decide +kernel
theorem d_jdk_67_method_7_1 : decode jdk_67_method_7_code 1 = .ok (.aload_n 1, 1) := by decide +kernel
theorem d_jdk_67_method_7_2 : decode jdk_67_method_7_code 2 = .ok (.invokespecial 29, 3) := by decide +kernel
theorem d_jdk_67_method_7_5 : decode jdk_67_method_7_code 5 = .ok (.pop, 1) := by decide +kernel
theorem d_jdk_67_method_7_6 : decode jdk_67_method_7_code 6 = .ok (.aload_n 0, 1) := by decide +kernel
theorem d_jdk_67_method_7_7 : decode jdk_67_method_7_code 7 = .ok (.areturn, 1) := by decide +kernel
theorem d_jdk_67_method_93_0 : decode jdk_67_method_93_code 0 = .ok (.aload_n 0, 1) := by decide +kernel
theorem d_jdk_67_method_93_1 : decode jdk_67_method_93_code 1 = .ok (.invokespecial 343, 3) := by decide +kernel
theorem d_jdk_67_method_93_4 : decode jdk_67_method_93_code 4 = .ok (.ireturn, 1) := by decide +kernel
theorem d_jdk_67_method_42_0 : decode jdk_67_method_42_code 0 = .ok (.new 18, 3) := by decide +kernel
theorem d_jdk_67_method_42_3 : decode jdk_67_method_42_code 3 = .ok (.dup, 1) := by decide +kernel
theorem d_jdk_67_method_42_4 : decode jdk_67_method_42_code 4 = .ok (.aload_n 0, 1) := by decide +kernel
theorem d_jdk_67_method_42_5 : decode jdk_67_method_42_code 5 = .ok (.invokespecial 137, 3) := by decide +kernel
theorem d_jdk_67_method_42_8 : decode jdk_67_method_42_code 8 = .ok (.areturn, 1) := by decide +kernel
theorem d_jdk_43_method_13_0 : decode jdk_43_method_13_code 0 = .ok (.aload_n 0, 1) := by decide +kernel
theorem d_jdk_43_method_13_1 : decode jdk_43_method_13_code 1 = .ok (.arraylength, 1) := by decide +kernel
theorem d_jdk_43_method_13_2 : decode jdk_43_method_13_code 2 = .ok (.aload_n 1, 1) := by decide +kernel
theorem d_jdk_43_method_13_3 : decode jdk_43_method_13_code 3 = .ok (.arraylength, 1) := by decide +kernel
theorem d_jdk_43_method_13_4 : decode jdk_43_method_13_code 4 = .ok (.if_icmp .ne 30, 3) := by decide +kernel
theorem d_jdk_43_method_13_7 : decode jdk_43_method_13_code 7 = .ok (.iconst 0, 1) := by decide +kernel
theorem d_jdk_43_method_13_8 : decode jdk_43_method_13_code 8 = .ok (.istore_n 2, 1) := by decide +kernel
theorem d_jdk_43_method_13_9 : decode jdk_43_method_13_code 9 = .ok (.iload_n 2, 1) := by decide +kernel
theorem d_jdk_43_method_13_10 : decode jdk_43_method_13_code 10 = .ok (.aload_n 0, 1) := by decide +kernel
theorem d_jdk_43_method_13_11 : decode jdk_43_method_13_code 11 = .ok (.arraylength, 1) := by decide +kernel
theorem d_jdk_43_method_13_12 : decode jdk_43_method_13_code 12 = .ok (.if_icmp .ge 20, 3) := by decide +kernel
theorem d_jdk_43_method_13_15 : decode jdk_43_method_13_code 15 = .ok (.aload_n 0, 1) := by decide +kernel
theorem d_jdk_43_method_13_16 : decode jdk_43_method_13_code 16 = .ok (.iload_n 2, 1) := by decide +kernel
theorem d_jdk_43_method_13_17 : decode jdk_43_method_13_code 17 = .ok (.baload, 1) := by decide +kernel
theorem d_jdk_43_method_13_18 : decode jdk_43_method_13_code 18 = .ok (.aload_n 1, 1) := by decide +kernel
theorem d_jdk_43_method_13_19 : decode jdk_43_method_13_code 19 = .ok (.iload_n 2, 1) := by decide +kernel
theorem d_jdk_43_method_13_20 : decode jdk_43_method_13_code 20 = .ok (.baload, 1) := by decide +kernel
theorem d_jdk_43_method_13_21 : decode jdk_43_method_13_code 21 = .ok (.if_icmp .eq 5, 3) := by decide +kernel
theorem d_jdk_43_method_13_24 : decode jdk_43_method_13_code 24 = .ok (.iconst 0, 1) := by decide +kernel
theorem d_jdk_43_method_13_25 : decode jdk_43_method_13_code 25 = .ok (.ireturn, 1) := by decide +kernel
theorem d_jdk_43_method_13_26 : decode jdk_43_method_13_code 26 = .ok (.iinc 2 1, 3) := by decide +kernel
theorem d_jdk_43_method_13_29 : decode jdk_43_method_13_code 29 = .ok (.goto (-20), 3) := by decide +kernel
theorem d_jdk_43_method_13_32 : decode jdk_43_method_13_code 32 = .ok (.iconst 1, 1) := by decide +kernel
theorem d_jdk_43_method_13_33 : decode jdk_43_method_13_code 33 = .ok (.ireturn, 1) := by decide +kernel
theorem d_jdk_43_method_13_34 : decode jdk_43_method_13_code 34 = .ok (.iconst 0, 1) := by decide +kernel
theorem d_jdk_43_method_13_35 : decode jdk_43_method_13_code 35 = .ok (.ireturn, 1) := by decide +kernel
theorem d_jdk_52_method_15_0 : decode jdk_52_method_15_code 0 = .ok (.iload_n 1, 1) := by decide +kernel
theorem d_jdk_52_method_15_1 : decode jdk_52_method_15_code 1 = .ok (.aload_n 0, 1) := by decide +kernel
theorem d_jdk_52_method_15_2 : decode jdk_52_method_15_code 2 = .ok (.arraylength, 1) := by decide +kernel
theorem d_jdk_52_method_15_3 : decode jdk_52_method_15_code 3 = .ok (.isub, 1) := by decide +kernel
theorem d_jdk_52_method_15_4 : decode jdk_52_method_15_code 4 = .ok (.bipush 31, 2) := by decide +kernel
theorem d_jdk_52_method_15_6 : decode jdk_52_method_15_code 6 = .ok (.iushr, 1) := by decide +kernel
theorem d_jdk_52_method_15_7 : decode jdk_52_method_15_code 7 = .ok (.i2b, 1) := by decide +kernel
theorem d_jdk_52_method_15_8 : decode jdk_52_method_15_code 8 = .ok (.ireturn, 1) := by decide +kernel
theorem d_jdk_52_method_16_0 : decode jdk_52_method_16_code 0 = .ok (.iload_n 2, 1) := by decide +kernel
theorem d_jdk_52_method_16_1 : decode jdk_52_method_16_code 1 = .ok (.newarray .byte, 2) := by decide +kernel
theorem d_jdk_52_method_16_3 : decode jdk_52_method_16_code 3 = .ok (.astore_n 3, 1) := by decide +kernel
theorem d_jdk_52_method_16_4 : decode jdk_52_method_16_code 4 = .ok (.aload_n 0, 1) := by decide +kernel
theorem d_jdk_52_method_16_5 : decode jdk_52_method_16_code 5 = .ok (.iload_n 1, 1) := by decide +kernel
theorem d_jdk_52_method_16_6 : decode jdk_52_method_16_code 6 = .ok (.aload_n 3, 1) := by decide +kernel
theorem d_jdk_52_method_16_7 : decode jdk_52_method_16_code 7 = .ok (.iconst 0, 1) := by decide +kernel
theorem d_jdk_52_method_16_8 : decode jdk_52_method_16_code 8 = .ok (.iload_n 2, 1) := by decide +kernel
theorem d_jdk_52_method_16_9 : decode jdk_52_method_16_code 9 = .ok (.invokestatic 115, 3) := by decide +kernel
theorem d_jdk_52_method_16_12 : decode jdk_52_method_16_code 12 = .ok (.istore 4, 2) := by decide +kernel
theorem d_jdk_52_method_16_14 : decode jdk_52_method_16_code 14 = .ok (.iload 4, 2) := by decide +kernel
theorem d_jdk_52_method_16_16 : decode jdk_52_method_16_code 16 = .ok (.iload_n 2, 1) := by decide +kernel
theorem d_jdk_52_method_16_17 : decode jdk_52_method_16_code 17 = .ok (.if_icmp .eq 40, 3) := by decide +kernel
theorem d_jdk_52_method_16_57 : decode jdk_52_method_16_code 57 = .ok (.aload_n 3, 1) := by decide +kernel
theorem d_jdk_52_method_16_58 : decode jdk_52_method_16_code 58 = .ok (.areturn, 1) := by decide +kernel
theorem d_jdk_52_method_21_0 : decode jdk_52_method_21_code 0 = .ok (.iconst 0, 1) := by decide +kernel
theorem d_jdk_52_method_21_1 : decode jdk_52_method_21_code 1 = .ok (.istore 5, 2) := by decide +kernel
theorem d_jdk_52_method_21_3 : decode jdk_52_method_21_code 3 = .ok (.iload 5, 2) := by decide +kernel
theorem d_jdk_52_method_21_5 : decode jdk_52_method_21_code 5 = .ok (.iload 4, 2) := by decide +kernel
theorem d_jdk_52_method_21_7 : decode jdk_52_method_21_code 7 = .ok (.if_icmp .ge 37, 3) := by decide +kernel
theorem d_jdk_52_method_21_10 : decode jdk_52_method_21_code 10 = .ok (.aload_n 0, 1) := by decide +kernel
theorem d_jdk_52_method_21_11 : decode jdk_52_method_21_code 11 = .ok (.iload_n 1, 1) := by decide +kernel
theorem d_jdk_52_method_21_12 : decode jdk_52_method_21_code 12 = .ok (.caload, 1) := by decide +kernel
theorem d_jdk_52_method_21_13 : decode jdk_52_method_21_code 13 = .ok (.istore 6, 2) := by decide +kernel
theorem d_jdk_52_method_21_15 : decode jdk_52_method_21_code 15 = .ok (.iload 6, 2) := by decide +kernel
theorem d_jdk_52_method_21_17 : decode jdk_52_method_21_code 17 = .ok (.sipush 255, 3) := by decide +kernel
theorem d_jdk_52_method_21_20 : decode jdk_52_method_21_code 20 = .ok (.if_icmp .le 6, 3) := by decide +kernel
theorem d_jdk_52_method_21_26 : decode jdk_52_method_21_code 26 = .ok (.aload_n 2, 1) := by decide +kernel
theorem d_jdk_52_method_21_27 : decode jdk_52_method_21_code 27 = .ok (.iload_n 3, 1) := by decide +kernel
theorem d_jdk_52_method_21_28 : decode jdk_52_method_21_code 28 = .ok (.iload 6, 2) := by decide +kernel
theorem d_jdk_52_method_21_30 : decode jdk_52_method_21_code 30 = .ok (.i2b, 1) := by decide +kernel
theorem d_jdk_52_method_21_31 : decode jdk_52_method_21_code 31 = .ok (.bastore, 1) := by decide +kernel
theorem d_jdk_52_method_21_32 : decode jdk_52_method_21_code 32 = .ok (.iinc 1 1, 3) := by decide +kernel
theorem d_jdk_52_method_21_35 : decode jdk_52_method_21_code 35 = .ok (.iinc 3 1, 3) := by decide +kernel
theorem d_jdk_52_method_21_38 : decode jdk_52_method_21_code 38 = .ok (.iinc 5 1, 3) := by decide +kernel
theorem d_jdk_52_method_21_41 : decode jdk_52_method_21_code 41 = .ok (.goto (-38), 3) := by decide +kernel
theorem d_jdk_52_method_21_44 : decode jdk_52_method_21_code 44 = .ok (.iload 4, 2) := by decide +kernel
theorem d_jdk_52_method_21_46 : decode jdk_52_method_21_code 46 = .ok (.ireturn, 1) := by decide +kernel
theorem d_jdk_78_method_2_0 : decode jdk_78_method_2_code 0 = .ok (.aload_n 0, 1) := by decide +kernel
theorem d_jdk_78_method_2_1 : decode jdk_78_method_2_code 1 = .ok (.invokespecial 1, 3) := by decide +kernel
theorem d_jdk_78_method_2_4 : decode jdk_78_method_2_code 4 = .ok (.aload_n 0, 1) := by decide +kernel
theorem d_jdk_78_method_2_5 : decode jdk_78_method_2_code 5 = .ok (.aload_n 0, 1) := by decide +kernel
theorem d_jdk_78_method_2_6 : decode jdk_78_method_2_code 6 = .ok (.putfield 7, 3) := by decide +kernel
theorem d_jdk_78_method_2_9 : decode jdk_78_method_2_code 9 = .ok (.aload_n 0, 1) := by decide +kernel
theorem d_jdk_78_method_2_10 : decode jdk_78_method_2_code 10 = .ok (.getstatic 13, 3) := by decide +kernel
theorem d_jdk_78_method_2_13 : decode jdk_78_method_2_code 13 = .ok (.putfield 17, 3) := by decide +kernel
theorem d_jdk_78_method_2_16 : decode jdk_78_method_2_code 16 = .ok (.aload_n 0, 1) := by decide +kernel
theorem d_jdk_78_method_2_17 : decode jdk_78_method_2_code 17 = .ok (.getstatic 20, 3) := by decide +kernel
theorem d_jdk_78_method_2_20 : decode jdk_78_method_2_code 20 = .ok (.putfield 24, 3) := by decide +kernel
theorem d_jdk_78_method_2_23 : decode jdk_78_method_2_code 23 = .ok (.aload_n 0, 1) := by decide +kernel
theorem d_jdk_78_method_2_24 : decode jdk_78_method_2_code 24 = .ok (.invokevirtual 27, 3) := by decide +kernel
theorem d_jdk_78_method_2_27 : decode jdk_78_method_2_code 27 = .ok (.pop, 1) := by decide +kernel
theorem d_jdk_78_method_2_28 : decode jdk_78_method_2_code 28 = .ok (.aload_n 0, 1) := by decide +kernel
theorem d_jdk_78_method_2_29 : decode jdk_78_method_2_code 29 = .ok (.aload_n 1, 1) := by decide +kernel
theorem d_jdk_78_method_2_30 : decode jdk_78_method_2_code 30 = .ok (.putfield 31, 3) := by decide +kernel
theorem d_jdk_78_method_2_33 : decode jdk_78_method_2_code 33 = .ok (.return_, 1) := by decide +kernel
theorem d_jdk_78_method_6_0 : decode jdk_78_method_6_code 0 = .ok (.aload_n 0, 1) := by decide +kernel
theorem d_jdk_78_method_6_1 : decode jdk_78_method_6_code 1 = .ok (.getfield 31, 3) := by decide +kernel
theorem d_jdk_78_method_6_4 : decode jdk_78_method_6_code 4 = .ok (.areturn, 1) := by decide +kernel
theorem d_jdk_65_method_131_0 : decode jdk_65_method_131_code 0 = .ok (.iload_n 1, 1) := by decide +kernel
theorem d_jdk_65_method_131_1 : decode jdk_65_method_131_code 1 = .ok (.iload_n 0, 1) := by decide +kernel
theorem d_jdk_65_method_131_2 : decode jdk_65_method_131_code 2 = .ok (.if_icmp .ge 35, 3) := by decide +kernel
theorem d_jdk_65_method_131_37 : decode jdk_65_method_131_code 37 = .ok (.return_, 1) := by decide +kernel
theorem d_jdk_65_method_121_0 : decode jdk_65_method_121_code 0 = .ok (.iload_n 1, 1) := by decide +kernel
theorem d_jdk_65_method_121_1 : decode jdk_65_method_121_code 1 = .ok (.aload_n 0, 1) := by decide +kernel
theorem d_jdk_65_method_121_2 : decode jdk_65_method_121_code 2 = .ok (.arraylength, 1) := by decide +kernel
theorem d_jdk_65_method_121_3 : decode jdk_65_method_121_code 3 = .ok (.if_icmp .ne 11, 3) := by decide +kernel
theorem d_jdk_65_method_121_14 : decode jdk_65_method_121_code 14 = .ok (.iload_n 1, 1) := by decide +kernel
theorem d_jdk_65_method_121_15 : decode jdk_65_method_121_code 15 = .ok (.newarray .byte, 2) := by decide +kernel
theorem d_jdk_65_method_121_17 : decode jdk_65_method_121_code 17 = .ok (.astore_n 2, 1) := by decide +kernel
theorem d_jdk_65_method_121_18 : decode jdk_65_method_121_code 18 = .ok (.aload_n 0, 1) := by decide +kernel
theorem d_jdk_65_method_121_19 : decode jdk_65_method_121_code 19 = .ok (.iconst 0, 1) := by decide +kernel
theorem d_jdk_65_method_121_20 : decode jdk_65_method_121_code 20 = .ok (.aload_n 2, 1) := by decide +kernel
theorem d_jdk_65_method_121_21 : decode jdk_65_method_121_code 21 = .ok (.iconst 0, 1) := by decide +kernel
theorem d_jdk_65_method_121_22 : decode jdk_65_method_121_code 22 = .ok (.aload_n 0, 1) := by decide +kernel
theorem d_jdk_65_method_121_23 : decode jdk_65_method_121_code 23 = .ok (.arraylength, 1) := by decide +kernel
theorem d_jdk_65_method_121_24 : decode jdk_65_method_121_code 24 = .ok (.iload_n 1, 1) := by decide +kernel
theorem d_jdk_65_method_121_25 : decode jdk_65_method_121_code 25 = .ok (.invokestatic 304, 3) := by decide +kernel
theorem d_jdk_65_method_121_28 : decode jdk_65_method_121_code 28 = .ok (.invokestatic 150, 3) := by decide +kernel
theorem d_jdk_65_method_121_31 : decode jdk_65_method_121_code 31 = .ok (.aload_n 2, 1) := by decide +kernel
theorem d_jdk_65_method_121_32 : decode jdk_65_method_121_code 32 = .ok (.areturn, 1) := by decide +kernel
theorem d_jdk_65_method_132_0 : decode jdk_65_method_132_code 0 = .ok (.iload_n 1, 1) := by decide +kernel
theorem d_jdk_65_method_132_1 : decode jdk_65_method_132_code 1 = .ok (.ifCond .ne 9, 3) := by decide +kernel
theorem d_jdk_65_method_132_4 : decode jdk_65_method_132_code 4 = .ok (.iload_n 2, 1) := by decide +kernel
theorem d_jdk_65_method_132_5 : decode jdk_65_method_132_code 5 = .ok (.aload_n 0, 1) := by decide +kernel
theorem d_jdk_65_method_132_6 : decode jdk_65_method_132_code 6 = .ok (.arraylength, 1) := by decide +kernel
theorem d_jdk_65_method_132_7 : decode jdk_65_method_132_code 7 = .ok (.if_icmp .eq 10, 3) := by decide +kernel
theorem d_jdk_65_method_132_10 : decode jdk_65_method_132_code 10 = .ok (.aload_n 0, 1) := by decide +kernel
theorem d_jdk_65_method_132_11 : decode jdk_65_method_132_code 11 = .ok (.iload_n 1, 1) := by decide +kernel
theorem d_jdk_65_method_132_12 : decode jdk_65_method_132_code 12 = .ok (.iload_n 2, 1) := by decide +kernel
theorem d_jdk_65_method_132_13 : decode jdk_65_method_132_code 13 = .ok (.invokestatic 339, 3) := by decide +kernel
theorem d_jdk_65_method_132_16 : decode jdk_65_method_132_code 16 = .ok (.areturn, 1) := by decide +kernel
theorem d_jdk_65_method_133_0 : decode jdk_65_method_133_code 0 = .ok (.iload_n 1, 1) := by decide +kernel
theorem d_jdk_65_method_133_1 : decode jdk_65_method_133_code 1 = .ok (.iload_n 2, 1) := by decide +kernel
theorem d_jdk_65_method_133_2 : decode jdk_65_method_133_code 2 = .ok (.invokestatic 343, 3) := by decide +kernel
theorem d_jdk_65_method_133_5 : decode jdk_65_method_133_code 5 = .ok (.iload_n 2, 1) := by decide +kernel
theorem d_jdk_65_method_133_6 : decode jdk_65_method_133_code 6 = .ok (.iload_n 1, 1) := by decide +kernel
theorem d_jdk_65_method_133_7 : decode jdk_65_method_133_code 7 = .ok (.isub, 1) := by decide +kernel
theorem d_jdk_65_method_133_8 : decode jdk_65_method_133_code 8 = .ok (.istore_n 3, 1) := by decide +kernel
theorem d_jdk_65_method_133_9 : decode jdk_65_method_133_code 9 = .ok (.iload_n 3, 1) := by decide +kernel
theorem d_jdk_65_method_133_10 : decode jdk_65_method_133_code 10 = .ok (.newarray .byte, 2) := by decide +kernel
theorem d_jdk_65_method_133_12 : decode jdk_65_method_133_code 12 = .ok (.astore 4, 2) := by decide +kernel
theorem d_jdk_65_method_133_14 : decode jdk_65_method_133_code 14 = .ok (.aload_n 0, 1) := by decide +kernel
theorem d_jdk_65_method_133_15 : decode jdk_65_method_133_code 15 = .ok (.iload_n 1, 1) := by decide +kernel
theorem d_jdk_65_method_133_16 : decode jdk_65_method_133_code 16 = .ok (.aload 4, 2) := by decide +kernel
theorem d_jdk_65_method_133_18 : decode jdk_65_method_133_code 18 = .ok (.iconst 0, 1) := by decide +kernel
theorem d_jdk_65_method_133_19 : decode jdk_65_method_133_code 19 = .ok (.aload_n 0, 1) := by decide +kernel
theorem d_jdk_65_method_133_20 : decode jdk_65_method_133_code 20 = .ok (.arraylength, 1) := by decide +kernel
theorem d_jdk_65_method_133_21 : decode jdk_65_method_133_code 21 = .ok (.iload_n 1, 1) := by decide +kernel
theorem d_jdk_65_method_133_22 : decode jdk_65_method_133_code 22 = .ok (.isub, 1) := by decide +kernel
theorem d_jdk_65_method_133_23 : decode jdk_65_method_133_code 23 = .ok (.iload_n 3, 1) := by decide +kernel
theorem d_jdk_65_method_133_24 : decode jdk_65_method_133_code 24 = .ok (.invokestatic 304, 3) := by decide +kernel
theorem d_jdk_65_method_133_27 : decode jdk_65_method_133_code 27 = .ok (.invokestatic 150, 3) := by decide +kernel
theorem d_jdk_65_method_133_30 : decode jdk_65_method_133_code 30 = .ok (.aload 4, 2) := by decide +kernel
theorem d_jdk_65_method_133_32 : decode jdk_65_method_133_code 32 = .ok (.areturn, 1) := by decide +kernel
theorem d_jdk_48_method_27_0 : decode jdk_48_method_27_code 0 = .ok (.iload_n 0, 1) := by decide +kernel
theorem d_jdk_48_method_27_1 : decode jdk_48_method_27_code 1 = .ok (.iload_n 1, 1) := by decide +kernel
theorem d_jdk_48_method_27_2 : decode jdk_48_method_27_code 2 = .ok (.iload_n 2, 1) := by decide +kernel
theorem d_jdk_48_method_27_3 : decode jdk_48_method_27_code 3 = .ok (.invokestatic 194, 3) := by decide +kernel
theorem d_jdk_48_method_27_6 : decode jdk_48_method_27_code 6 = .ok (.iadd, 1) := by decide +kernel
theorem d_jdk_48_method_27_7 : decode jdk_48_method_27_code 7 = .ok (.istore_n 3, 1) := by decide +kernel
theorem d_jdk_48_method_27_8 : decode jdk_48_method_27_code 8 = .ok (.iconst 0, 1) := by decide +kernel
theorem d_jdk_48_method_27_9 : decode jdk_48_method_27_code 9 = .ok (.iload_n 3, 1) := by decide +kernel
theorem d_jdk_48_method_27_10 : decode jdk_48_method_27_code 10 = .ok (.if_icmp .ge 11, 3) := by decide +kernel
theorem d_jdk_48_method_27_13 : decode jdk_48_method_27_code 13 = .ok (.iload_n 3, 1) := by decide +kernel
theorem d_jdk_48_method_27_14 : decode jdk_48_method_27_code 14 = .ok (.ldc 200, 2) := by decide +kernel
theorem d_jdk_48_method_27_16 : decode jdk_48_method_27_code 16 = .ok (.if_icmp .gt 5, 3) := by decide +kernel
theorem d_jdk_48_method_27_19 : decode jdk_48_method_27_code 19 = .ok (.iload_n 3, 1) := by decide +kernel
theorem d_jdk_48_method_27_20 : decode jdk_48_method_27_code 20 = .ok (.ireturn, 1) := by decide +kernel
theorem w_0 {Z : State} {a0 : Array Value} (hw : ∀ d ∈ tables_1, d.before a0 Z = true) : (Jvm.Cond.methodLink "com/example/slackline/slackline/UsageExceptionUnrecognizedOptionPinLaw" (7 : Nat) ({ cls := "com/example/slackline/slackline/UsageExceptionUnrecognizedOptionPinLaw", name := "opt", desc := "(CCCI)Ljava/lang/String;" } : Jvm.MethodName)).before a0 Z = true := hw _ (List.mem_of_getElem? (i := 0) rfl)
theorem w_1 {Z : State} {a0 : Array Value} (hw : ∀ d ∈ tables_1, d.before a0 Z = true) : (Jvm.Cond.static ({ cls := "com/example/slackline/slackline/UsageExceptionUnrecognizedOptionPinLaw", name := "opt", desc := "(CCCI)Ljava/lang/String;" } : Jvm.MethodName)).before a0 Z = true := hw _ (List.mem_of_getElem? (i := 1) rfl)
theorem w_2 {Z : State} {a0 : Array Value} (hw : ∀ d ∈ tables_1, d.before a0 Z = true) : (Jvm.Cond.initialized "com/example/slackline/slackline/UsageExceptionUnrecognizedOptionPinLaw").before a0 Z = true := hw _ (List.mem_of_getElem? (i := 2) rfl)
theorem w_3 {Z : State} {a0 : Array Value} (hw : ∀ d ∈ tables_1, d.before a0 Z = true) : (Jvm.Cond.code ({ cls := "com/example/slackline/slackline/UsageExceptionUnrecognizedOptionPinLaw", name := "opt", desc := "(CCCI)Ljava/lang/String;" } : Jvm.MethodName) method_3_code (4 : Nat) (Option.some (Jvm.ClassFile.FieldType.object "java/lang/String"))).before a0 Z = true := hw _ (List.mem_of_getElem? (i := 3) rfl)
theorem w_4 {Z : State} {a0 : Array Value} (hw : ∀ d ∈ tables_1, d.before a0 Z = true) : (Jvm.Cond.classLink "com/example/slackline/slackline/UsageExceptionUnrecognizedOptionPinLaw" (27 : Nat) "java/lang/String").before a0 Z = true := hw _ (List.mem_of_getElem? (i := 4) rfl)
theorem w_5 {Z : State} {a0 : Array Value} (hw : ∀ d ∈ tables_1, d.before a0 Z = true) : (Jvm.Cond.instantiable "java/lang/String" (4 : Nat)).before a0 Z = true := hw _ (List.mem_of_getElem? (i := 5) rfl)
theorem w_6 {Z : State} {a0 : Array Value} (hw : ∀ d ∈ tables_1, d.before a0 Z = true) : (Jvm.Cond.initialized "java/lang/String").before a0 Z = true := hw _ (List.mem_of_getElem? (i := 6) rfl)
theorem w_7 {Z : State} {a0 : Array Value} (hw : ∀ d ∈ tables_1, d.before a0 Z = true) : (Jvm.Cond.arrayClass Jvm.ClassFile.FieldType.char).before a0 Z = true := hw _ (List.mem_of_getElem? (i := 7) rfl)
theorem w_8 {Z : State} {a0 : Array Value} (hw : ∀ d ∈ tables_1, d.before a0 Z = true) : (Jvm.Cond.methodLink "com/example/slackline/slackline/UsageExceptionUnrecognizedOptionPinLaw" (32 : Nat) ({ cls := "java/lang/String", name := "<init>", desc := "([C)V" } : Jvm.MethodName)).before a0 Z = true := hw _ (List.mem_of_getElem? (i := 8) rfl)
theorem w_9 {Z : State} {a0 : Array Value} (hw : ∀ d ∈ tables_1, d.before a0 Z = true) : (Jvm.Cond.instanceMethod ({ cls := "java/lang/String", name := "<init>", desc := "([C)V" } : Jvm.MethodName)).before a0 Z = true := hw _ (List.mem_of_getElem? (i := 9) rfl)
theorem w_10 {Z : State} {a0 : Array Value} (hw : ∀ d ∈ tables_1, d.before a0 Z = true) : (Jvm.Cond.code ({ cls := "java/lang/String", name := "<init>", desc := "([C)V" } : Jvm.MethodName) jdk_42_method_3_code (2 : Nat) (Option.none : Option Jvm.ClassFile.FieldType)).before a0 Z = true := hw _ (List.mem_of_getElem? (i := 10) rfl)
theorem w_11 {Z : State} {a0 : Array Value} (hw : ∀ d ∈ tables_1, d.before a0 Z = true) : (Jvm.Cond.methodLink "java/lang/String" (27 : Nat) ({ cls := "java/lang/String", name := "<init>", desc := "([CIILjava/lang/Void;)V" } : Jvm.MethodName)).before a0 Z = true := hw _ (List.mem_of_getElem? (i := 11) rfl)
theorem w_12 {Z : State} {a0 : Array Value} (hw : ∀ d ∈ tables_1, d.before a0 Z = true) : (Jvm.Cond.instanceMethod ({ cls := "java/lang/String", name := "<init>", desc := "([CIILjava/lang/Void;)V" } : Jvm.MethodName)).before a0 Z = true := hw _ (List.mem_of_getElem? (i := 12) rfl)
theorem w_14 {Z : State} {a0 : Array Value} (hw : ∀ d ∈ tables_1, d.before a0 Z = true) : (Jvm.Cond.code ({ cls := "java/lang/String", name := "<init>", desc := "([CIILjava/lang/Void;)V" } : Jvm.MethodName) jdk_42_method_149_code (6 : Nat) (Option.none : Option Jvm.ClassFile.FieldType)).before a0 Z = true := hw _ (List.mem_of_getElem? (i := 14) rfl)
theorem w_15 {Z : State} {a0 : Array Value} (hw : ∀ d ∈ tables_1, d.before a0 Z = true) : (Jvm.Cond.methodLink "java/lang/String" (1 : Nat) ({ cls := "java/lang/Object", name := "<init>", desc := "()V" } : Jvm.MethodName)).before a0 Z = true := hw _ (List.mem_of_getElem? (i := 15) rfl)
theorem w_16 {Z : State} {a0 : Array Value} (hw : ∀ d ∈ tables_1, d.before a0 Z = true) : (Jvm.Cond.instanceMethod ({ cls := "java/lang/Object", name := "<init>", desc := "()V" } : Jvm.MethodName)).before a0 Z = true := hw _ (List.mem_of_getElem? (i := 16) rfl)
theorem w_17 {Z : State} {a0 : Array Value} (hw : ∀ d ∈ tables_1, d.before a0 Z = true) : (Jvm.Cond.code ({ cls := "java/lang/Object", name := "<init>", desc := "()V" } : Jvm.MethodName) object_method_1_code (1 : Nat) (Option.none : Option Jvm.ClassFile.FieldType)).before a0 Z = true := hw _ (List.mem_of_getElem? (i := 17) rfl)
theorem w_18 {Z : State} {a0 : Array Value} (hw : ∀ d ∈ tables_1, d.before a0 Z = true) : (Jvm.Cond.fieldLink "java/lang/String" (38 : Nat) "java/lang/String" "COMPACT_STRINGS" "Z").before a0 Z = true := hw _ (List.mem_of_getElem? (i := 18) rfl)
theorem w_19 {Z : State} {a0 : Array Value} (hw : ∀ d ∈ tables_1, d.before a0 Z = true) : (Jvm.Cond.methodLink "java/lang/String" (177 : Nat) ({ cls := "java/lang/StringUTF16", name := "compress", desc := "([CII)[B" } : Jvm.MethodName)).before a0 Z = true := hw _ (List.mem_of_getElem? (i := 19) rfl)
theorem w_20 {Z : State} {a0 : Array Value} (hw : ∀ d ∈ tables_1, d.before a0 Z = true) : (Jvm.Cond.static ({ cls := "java/lang/StringUTF16", name := "compress", desc := "([CII)[B" } : Jvm.MethodName)).before a0 Z = true := hw _ (List.mem_of_getElem? (i := 20) rfl)
theorem w_21 {Z : State} {a0 : Array Value} (hw : ∀ d ∈ tables_1, d.before a0 Z = true) : (Jvm.Cond.initialized "java/lang/StringUTF16").before a0 Z = true := hw _ (List.mem_of_getElem? (i := 21) rfl)
theorem w_22 {Z : State} {a0 : Array Value} (hw : ∀ d ∈ tables_1, d.before a0 Z = true) : (Jvm.Cond.code ({ cls := "java/lang/StringUTF16", name := "compress", desc := "([CII)[B" } : Jvm.MethodName) jdk_52_method_16_code (6 : Nat) (Option.some (Jvm.ClassFile.FieldType.array Jvm.ClassFile.FieldType.byte))).before a0 Z = true := hw _ (List.mem_of_getElem? (i := 22) rfl)
theorem w_23 {Z : State} {a0 : Array Value} (hw : ∀ d ∈ tables_1, d.before a0 Z = true) : (Jvm.Cond.arrayClass Jvm.ClassFile.FieldType.byte).before a0 Z = true := hw _ (List.mem_of_getElem? (i := 23) rfl)
theorem w_24 {Z : State} {a0 : Array Value} (hw : ∀ d ∈ tables_1, d.before a0 Z = true) : (Jvm.Cond.methodLink "java/lang/StringUTF16" (115 : Nat) ({ cls := "java/lang/StringUTF16", name := "compress", desc := "([CI[BII)I" } : Jvm.MethodName)).before a0 Z = true := hw _ (List.mem_of_getElem? (i := 24) rfl)
theorem w_25 {Z : State} {a0 : Array Value} (hw : ∀ d ∈ tables_1, d.before a0 Z = true) : (Jvm.Cond.static ({ cls := "java/lang/StringUTF16", name := "compress", desc := "([CI[BII)I" } : Jvm.MethodName)).before a0 Z = true := hw _ (List.mem_of_getElem? (i := 25) rfl)
theorem w_26 {Z : State} {a0 : Array Value} (hw : ∀ d ∈ tables_1, d.before a0 Z = true) : (Jvm.Cond.code ({ cls := "java/lang/StringUTF16", name := "compress", desc := "([CI[BII)I" } : Jvm.MethodName) jdk_52_method_21_code (7 : Nat) (Option.some Jvm.ClassFile.FieldType.int)).before a0 Z = true := hw _ (List.mem_of_getElem? (i := 26) rfl)
theorem w_27 {Z : State} {a0 : Array Value} (hw : ∀ d ∈ tables_1, d.before a0 Z = true) : (Jvm.Cond.methodLink "java/lang/String" (47 : Nat) ({ cls := "java/lang/StringUTF16", name := "coderFromArrayLen", desc := "([BI)B" } : Jvm.MethodName)).before a0 Z = true := hw _ (List.mem_of_getElem? (i := 27) rfl)
theorem w_28 {Z : State} {a0 : Array Value} (hw : ∀ d ∈ tables_1, d.before a0 Z = true) : (Jvm.Cond.static ({ cls := "java/lang/StringUTF16", name := "coderFromArrayLen", desc := "([BI)B" } : Jvm.MethodName)).before a0 Z = true := hw _ (List.mem_of_getElem? (i := 28) rfl)
theorem w_29 {Z : State} {a0 : Array Value} (hw : ∀ d ∈ tables_1, d.before a0 Z = true) : (Jvm.Cond.code ({ cls := "java/lang/StringUTF16", name := "coderFromArrayLen", desc := "([BI)B" } : Jvm.MethodName) jdk_52_method_15_code (2 : Nat) (Option.some Jvm.ClassFile.FieldType.byte)).before a0 Z = true := hw _ (List.mem_of_getElem? (i := 29) rfl)
theorem w_30 {Z : State} {a0 : Array Value} (hw : ∀ d ∈ tables_1, d.before a0 Z = true) : (Jvm.Cond.fieldLink "java/lang/String" (15 : Nat) "java/lang/String" "coder" "B").before a0 Z = true := hw _ (List.mem_of_getElem? (i := 30) rfl)
theorem w_31 {Z : State} {a0 : Array Value} (hw : ∀ d ∈ tables_1, d.before a0 Z = true) : (Jvm.Cond.laysFinal "java/lang/String" "java/lang/String" "coder" "B").before a0 Z = true := hw _ (List.mem_of_getElem? (i := 31) rfl)
theorem w_32 {Z : State} {a0 : Array Value} (hw : ∀ d ∈ tables_1, d.before a0 Z = true) : (Jvm.Cond.fieldLink "java/lang/String" (9 : Nat) "java/lang/String" "value" "[B").before a0 Z = true := hw _ (List.mem_of_getElem? (i := 32) rfl)
theorem w_33 {Z : State} {a0 : Array Value} (hw : ∀ d ∈ tables_1, d.before a0 Z = true) : (Jvm.Cond.laysFinal "java/lang/String" "java/lang/String" "value" "[B").before a0 Z = true := hw _ (List.mem_of_getElem? (i := 33) rfl)
theorem w_34 {Z : State} {a0 : Array Value} (hw : ∀ d ∈ tables_1, d.before a0 Z = true) : (Jvm.Cond.methodLink "com/example/slackline/slackline/UsageExceptionUnrecognizedOptionPinLaw" (13 : Nat) ({ cls := "com/example/slackline/slackline/UsageException", name := "unrecognizedOption", desc := "(Ljava/lang/String;)Lcom/example/slackline/slackline/UsageException;" } : Jvm.MethodName)).before a0 Z = true := hw _ (List.mem_of_getElem? (i := 34) rfl)
theorem w_35 {Z : State} {a0 : Array Value} (hw : ∀ d ∈ tables_1, d.before a0 Z = true) : (Jvm.Cond.static ({ cls := "com/example/slackline/slackline/UsageException", name := "unrecognizedOption", desc := "(Ljava/lang/String;)Lcom/example/slackline/slackline/UsageException;" } : Jvm.MethodName)).before a0 Z = true := hw _ (List.mem_of_getElem? (i := 35) rfl)
theorem w_36 {Z : State} {a0 : Array Value} (hw : ∀ d ∈ tables_1, d.before a0 Z = true) : (Jvm.Cond.initialized "com/example/slackline/slackline/UsageException").before a0 Z = true := hw _ (List.mem_of_getElem? (i := 36) rfl)
theorem w_37 {Z : State} {a0 : Array Value} (hw : ∀ d ∈ tables_1, d.before a0 Z = true) : (Jvm.Cond.code ({ cls := "com/example/slackline/slackline/UsageException", name := "unrecognizedOption", desc := "(Ljava/lang/String;)Lcom/example/slackline/slackline/UsageException;" } : Jvm.MethodName) prog_53_method_2_code (1 : Nat) (Option.some (Jvm.ClassFile.FieldType.object "com/example/slackline/slackline/UsageException"))).before a0 Z = true := hw _ (List.mem_of_getElem? (i := 37) rfl)
theorem w_38 {Z : State} {a0 : Array Value} (hw : ∀ d ∈ tables_1, d.before a0 Z = true) : (Jvm.Cond.classLink "com/example/slackline/slackline/UsageException" (7 : Nat) "com/example/slackline/slackline/UsageException").before a0 Z = true := hw _ (List.mem_of_getElem? (i := 38) rfl)
theorem w_39 {Z : State} {a0 : Array Value} (hw : ∀ d ∈ tables_1, d.before a0 Z = true) : (Jvm.Cond.instantiable "com/example/slackline/slackline/UsageException" (6 : Nat)).before a0 Z = true := hw _ (List.mem_of_getElem? (i := 39) rfl)
theorem w_40 {Z : State} {a0 : Array Value} (hw : ∀ d ∈ tables_1, d.before a0 Z = true) : (Jvm.Cond.classLink "com/example/slackline/slackline/UsageException" (9 : Nat) "java/lang/StringBuilder").before a0 Z = true := hw _ (List.mem_of_getElem? (i := 40) rfl)
theorem w_41 {Z : State} {a0 : Array Value} (hw : ∀ d ∈ tables_1, d.before a0 Z = true) : (Jvm.Cond.instantiable "java/lang/StringBuilder" (4 : Nat)).before a0 Z = true := hw _ (List.mem_of_getElem? (i := 41) rfl)
theorem w_42 {Z : State} {a0 : Array Value} (hw : ∀ d ∈ tables_1, d.before a0 Z = true) : (Jvm.Cond.initialized "java/lang/StringBuilder").before a0 Z = true := hw _ (List.mem_of_getElem? (i := 42) rfl)
theorem w_43 {Z : State} {a0 : Array Value} (hw : ∀ d ∈ tables_1, d.before a0 Z = true) : (Jvm.Cond.methodLink "com/example/slackline/slackline/UsageException" (11 : Nat) ({ cls := "java/lang/StringBuilder", name := "<init>", desc := "()V" } : Jvm.MethodName)).before a0 Z = true := hw _ (List.mem_of_getElem? (i := 43) rfl)
theorem w_44 {Z : State} {a0 : Array Value} (hw : ∀ d ∈ tables_1, d.before a0 Z = true) : (Jvm.Cond.instanceMethod ({ cls := "java/lang/StringBuilder", name := "<init>", desc := "()V" } : Jvm.MethodName)).before a0 Z = true := hw _ (List.mem_of_getElem? (i := 44) rfl)
theorem w_45 {Z : State} {a0 : Array Value} (hw : ∀ d ∈ tables_1, d.before a0 Z = true) : (Jvm.Cond.code ({ cls := "java/lang/StringBuilder", name := "<init>", desc := "()V" } : Jvm.MethodName) jdk_67_method_1_code (1 : Nat) (Option.none : Option Jvm.ClassFile.FieldType)).before a0 Z = true := hw _ (List.mem_of_getElem? (i := 45) rfl)
theorem w_46 {Z : State} {a0 : Array Value} (hw : ∀ d ∈ tables_1, d.before a0 Z = true) : (Jvm.Cond.methodLink "java/lang/StringBuilder" (1 : Nat) ({ cls := "java/lang/AbstractStringBuilder", name := "<init>", desc := "(I)V" } : Jvm.MethodName)).before a0 Z = true := hw _ (List.mem_of_getElem? (i := 46) rfl)
theorem w_47 {Z : State} {a0 : Array Value} (hw : ∀ d ∈ tables_1, d.before a0 Z = true) : (Jvm.Cond.instanceMethod ({ cls := "java/lang/AbstractStringBuilder", name := "<init>", desc := "(I)V" } : Jvm.MethodName)).before a0 Z = true := hw _ (List.mem_of_getElem? (i := 47) rfl)
theorem w_50 {Z : State} {a0 : Array Value} (hw : ∀ d ∈ tables_1, d.before a0 Z = true) : (Jvm.Cond.initialized "java/lang/AbstractStringBuilder").before a0 Z = true := hw _ (List.mem_of_getElem? (i := 50) rfl)
theorem w_51 {Z : State} {a0 : Array Value} (hw : ∀ d ∈ tables_1, d.before a0 Z = true) : (Jvm.Cond.code ({ cls := "java/lang/AbstractStringBuilder", name := "<init>", desc := "(I)V" } : Jvm.MethodName) jdk_68_method_2_code (2 : Nat) (Option.none : Option Jvm.ClassFile.FieldType)).before a0 Z = true := hw _ (List.mem_of_getElem? (i := 51) rfl)
theorem w_52 {Z : State} {a0 : Array Value} (hw : ∀ d ∈ tables_1, d.before a0 Z = true) : (Jvm.Cond.methodLink "java/lang/AbstractStringBuilder" (3 : Nat) ({ cls := "java/lang/Object", name := "<init>", desc := "()V" } : Jvm.MethodName)).before a0 Z = true := hw _ (List.mem_of_getElem? (i := 52) rfl)
theorem w_53 {Z : State} {a0 : Array Value} (hw : ∀ d ∈ tables_1, d.before a0 Z = true) : (Jvm.Cond.fieldLink "java/lang/AbstractStringBuilder" (18 : Nat) "java/lang/String" "COMPACT_STRINGS" "Z").before a0 Z = true := hw _ (List.mem_of_getElem? (i := 53) rfl)
theorem w_54 {Z : State} {a0 : Array Value} (hw : ∀ d ∈ tables_1, d.before a0 Z = true) : (Jvm.Cond.fieldLink "java/lang/AbstractStringBuilder" (15 : Nat) "java/lang/AbstractStringBuilder" "value" "[B").before a0 Z = true := hw _ (List.mem_of_getElem? (i := 54) rfl)
theorem w_55 {Z : State} {a0 : Array Value} (hw : ∀ d ∈ tables_1, d.before a0 Z = true) : (Jvm.Cond.lays "java/lang/StringBuilder" "java/lang/AbstractStringBuilder" "value" "[B").before a0 Z = true := hw _ (List.mem_of_getElem? (i := 55) rfl)
theorem w_56 {Z : State} {a0 : Array Value} (hw : ∀ d ∈ tables_1, d.before a0 Z = true) : (Jvm.Cond.fieldLink "java/lang/AbstractStringBuilder" (22 : Nat) "java/lang/AbstractStringBuilder" "coder" "B").before a0 Z = true := hw _ (List.mem_of_getElem? (i := 56) rfl)
theorem w_57 {Z : State} {a0 : Array Value} (hw : ∀ d ∈ tables_1, d.before a0 Z = true) : (Jvm.Cond.lays "java/lang/StringBuilder" "java/lang/AbstractStringBuilder" "coder" "B").before a0 Z = true := hw _ (List.mem_of_getElem? (i := 57) rfl)
theorem w_58 {Z : State} {a0 : Array Value} (hw : ∀ d ∈ tables_1, d.before a0 Z = true) : (Jvm.Cond.stringLink "com/example/slackline/slackline/UsageException" (14 : Nat) "unrecognized option '").before a0 Z = true := hw _ (List.mem_of_getElem? (i := 58) rfl)
theorem w_59 {Z : State} {a0 : Array Value} (hw : ∀ d ∈ tables_1, d.before a0 Z = true) : (Jvm.Cond.soleField "java/lang/String" "value").before a0 Z = true := hw _ (List.mem_of_getElem? (i := 59) rfl)
theorem w_60 {Z : State} {a0 : Array Value} (hw : ∀ d ∈ tables_1, d.before a0 Z = true) : (Jvm.Cond.soleField "java/lang/String" "coder").before a0 Z = true := hw _ (List.mem_of_getElem? (i := 60) rfl)
theorem w_61 {Z : State} {a0 : Array Value} (hw : ∀ d ∈ tables_1, d.before a0 Z = true) : (Jvm.Cond.methodLink "com/example/slackline/slackline/UsageException" (16 : Nat) ({ cls := "java/lang/StringBuilder", name := "append", desc := "(Ljava/lang/String;)Ljava/lang/StringBuilder;" } : Jvm.MethodName)).before a0 Z = true := hw _ (List.mem_of_getElem? (i := 61) rfl)
theorem w_62 {Z : State} {a0 : Array Value} (hw : ∀ d ∈ tables_1, d.before a0 Z = true) : (Jvm.Cond.declares ({ cls := "java/lang/StringBuilder", name := "append", desc := "(Ljava/lang/String;)Ljava/lang/StringBuilder;" } : Jvm.MethodName)).before a0 Z = true := hw _ (List.mem_of_getElem? (i := 62) rfl)
theorem w_63 {Z : State} {a0 : Array Value} (hw : ∀ d ∈ tables_1, d.before a0 Z = true) : (Jvm.Cond.instanceMethod ({ cls := "java/lang/StringBuilder", name := "append", desc := "(Ljava/lang/String;)Ljava/lang/StringBuilder;" } : Jvm.MethodName)).before a0 Z = true := hw _ (List.mem_of_getElem? (i := 63) rfl)
theorem w_64 {Z : State} {a0 : Array Value} (hw : ∀ d ∈ tables_1, d.before a0 Z = true) : (Jvm.Cond.selects "java/lang/StringBuilder" ({ cls := "java/lang/StringBuilder", name := "append", desc := "(Ljava/lang/String;)Ljava/lang/StringBuilder;" } : Jvm.MethodName) ({ cls := "java/lang/StringBuilder", name := "append", desc := "(Ljava/lang/String;)Ljava/lang/StringBuilder;" } : Jvm.MethodName)).before a0 Z = true := hw _ (List.mem_of_getElem? (i := 64) rfl)
theorem w_65 {Z : State} {a0 : Array Value} (hw : ∀ d ∈ tables_1, d.before a0 Z = true) : (Jvm.Cond.code ({ cls := "java/lang/StringBuilder", name := "append", desc := "(Ljava/lang/String;)Ljava/lang/StringBuilder;" } : Jvm.MethodName) jdk_67_method_7_code (2 : Nat) (Option.some (Jvm.ClassFile.FieldType.object "java/lang/StringBuilder"))).before a0 Z = true := hw _ (List.mem_of_getElem? (i := 65) rfl)
theorem w_66 {Z : State} {a0 : Array Value} (hw : ∀ d ∈ tables_1, d.before a0 Z = true) : (Jvm.Cond.methodLink "java/lang/StringBuilder" (29 : Nat) ({ cls := "java/lang/AbstractStringBuilder", name := "append", desc := "(Ljava/lang/String;)Ljava/lang/AbstractStringBuilder;" } : Jvm.MethodName)).before a0 Z = true := hw _ (List.mem_of_getElem? (i := 66) rfl)
theorem w_67 {Z : State} {a0 : Array Value} (hw : ∀ d ∈ tables_1, d.before a0 Z = true) : (Jvm.Cond.instanceMethod ({ cls := "java/lang/AbstractStringBuilder", name := "append", desc := "(Ljava/lang/String;)Ljava/lang/AbstractStringBuilder;" } : Jvm.MethodName)).before a0 Z = true := hw _ (List.mem_of_getElem? (i := 67) rfl)
theorem w_68 {Z : State} {a0 : Array Value} (hw : ∀ d ∈ tables_1, d.before a0 Z = true) : (Jvm.Cond.superclass "java/lang/StringBuilder" "java/lang/AbstractStringBuilder").before a0 Z = true := hw _ (List.mem_of_getElem? (i := 68) rfl)
theorem w_70 {Z : State} {a0 : Array Value} (hw : ∀ d ∈ tables_1, d.before a0 Z = true) : (Jvm.Cond.code ({ cls := "java/lang/AbstractStringBuilder", name := "append", desc := "(Ljava/lang/String;)Ljava/lang/AbstractStringBuilder;" } : Jvm.MethodName) jdk_68_method_22_code (3 : Nat) (Option.some (Jvm.ClassFile.FieldType.object "java/lang/AbstractStringBuilder"))).before a0 Z = true := hw _ (List.mem_of_getElem? (i := 70) rfl)
theorem w_71 {Z : State} {a0 : Array Value} (hw : ∀ d ∈ tables_1, d.before a0 Z = true) : (Jvm.Cond.methodLink "java/lang/AbstractStringBuilder" (32 : Nat) ({ cls := "java/lang/String", name := "length", desc := "()I" } : Jvm.MethodName)).before a0 Z = true := hw _ (List.mem_of_getElem? (i := 71) rfl)
theorem w_72 {Z : State} {a0 : Array Value} (hw : ∀ d ∈ tables_1, d.before a0 Z = true) : (Jvm.Cond.declares ({ cls := "java/lang/String", name := "length", desc := "()I" } : Jvm.MethodName)).before a0 Z = true := hw _ (List.mem_of_getElem? (i := 72) rfl)
theorem w_73 {Z : State} {a0 : Array Value} (hw : ∀ d ∈ tables_1, d.before a0 Z = true) : (Jvm.Cond.instanceMethod ({ cls := "java/lang/String", name := "length", desc := "()I" } : Jvm.MethodName)).before a0 Z = true := hw _ (List.mem_of_getElem? (i := 73) rfl)
theorem w_74 {Z : State} {a0 : Array Value} (hw : ∀ d ∈ tables_1, d.before a0 Z = true) : (Jvm.Cond.selects "java/lang/String" ({ cls := "java/lang/String", name := "length", desc := "()I" } : Jvm.MethodName) ({ cls := "java/lang/String", name := "length", desc := "()I" } : Jvm.MethodName)).before a0 Z = true := hw _ (List.mem_of_getElem? (i := 74) rfl)
theorem w_75 {Z : State} {a0 : Array Value} (hw : ∀ d ∈ tables_1, d.before a0 Z = true) : (Jvm.Cond.code ({ cls := "java/lang/String", name := "length", desc := "()I" } : Jvm.MethodName) jdk_42_method_54_code (1 : Nat) (Option.some Jvm.ClassFile.FieldType.int)).before a0 Z = true := hw _ (List.mem_of_getElem? (i := 75) rfl)
theorem w_76 {Z : State} {a0 : Array Value} (hw : ∀ d ∈ tables_1, d.before a0 Z = true) : (Jvm.Cond.methodLink "java/lang/String" (335 : Nat) ({ cls := "java/lang/String", name := "coder", desc := "()B" } : Jvm.MethodName)).before a0 Z = true := hw _ (List.mem_of_getElem? (i := 76) rfl)
theorem w_77 {Z : State} {a0 : Array Value} (hw : ∀ d ∈ tables_1, d.before a0 Z = true) : (Jvm.Cond.declares ({ cls := "java/lang/String", name := "coder", desc := "()B" } : Jvm.MethodName)).before a0 Z = true := hw _ (List.mem_of_getElem? (i := 77) rfl)
theorem w_78 {Z : State} {a0 : Array Value} (hw : ∀ d ∈ tables_1, d.before a0 Z = true) : (Jvm.Cond.instanceMethod ({ cls := "java/lang/String", name := "coder", desc := "()B" } : Jvm.MethodName)).before a0 Z = true := hw _ (List.mem_of_getElem? (i := 78) rfl)
theorem w_79 {Z : State} {a0 : Array Value} (hw : ∀ d ∈ tables_1, d.before a0 Z = true) : (Jvm.Cond.selects "java/lang/String" ({ cls := "java/lang/String", name := "coder", desc := "()B" } : Jvm.MethodName) ({ cls := "java/lang/String", name := "coder", desc := "()B" } : Jvm.MethodName)).before a0 Z = true := hw _ (List.mem_of_getElem? (i := 79) rfl)
theorem w_80 {Z : State} {a0 : Array Value} (hw : ∀ d ∈ tables_1, d.before a0 Z = true) : (Jvm.Cond.code ({ cls := "java/lang/String", name := "coder", desc := "()B" } : Jvm.MethodName) jdk_42_method_152_code (1 : Nat) (Option.some Jvm.ClassFile.FieldType.byte)).before a0 Z = true := hw _ (List.mem_of_getElem? (i := 80) rfl)
theorem w_81 {Z : State} {a0 : Array Value} (hw : ∀ d ∈ tables_1, d.before a0 Z = true) : (Jvm.Cond.fieldLink "java/lang/AbstractStringBuilder" (79 : Nat) "java/lang/AbstractStringBuilder" "count" "I").before a0 Z = true := hw _ (List.mem_of_getElem? (i := 81) rfl)
theorem w_82 {Z : State} {a0 : Array Value} (hw : ∀ d ∈ tables_1, d.before a0 Z = true) : (Jvm.Cond.lays "java/lang/StringBuilder" "java/lang/AbstractStringBuilder" "count" "I").before a0 Z = true := hw _ (List.mem_of_getElem? (i := 82) rfl)
theorem w_83 {Z : State} {a0 : Array Value} (hw : ∀ d ∈ tables_1, d.before a0 Z = true) : (Jvm.Cond.methodLink "java/lang/AbstractStringBuilder" (100 : Nat) ({ cls := "java/lang/AbstractStringBuilder", name := "ensureCapacityInternal", desc := "(I)V" } : Jvm.MethodName)).before a0 Z = true := hw _ (List.mem_of_getElem? (i := 83) rfl)
theorem w_84 {Z : State} {a0 : Array Value} (hw : ∀ d ∈ tables_1, d.before a0 Z = true) : (Jvm.Cond.instanceMethod ({ cls := "java/lang/AbstractStringBuilder", name := "ensureCapacityInternal", desc := "(I)V" } : Jvm.MethodName)).before a0 Z = true := hw _ (List.mem_of_getElem? (i := 84) rfl)
theorem w_85 {Z : State} {a0 : Array Value} (hw : ∀ d ∈ tables_1, d.before a0 Z = true) : (Jvm.Cond.privateMethod ({ cls := "java/lang/AbstractStringBuilder", name := "ensureCapacityInternal", desc := "(I)V" } : Jvm.MethodName)).before a0 Z = true := hw _ (List.mem_of_getElem? (i := 85) rfl)
theorem w_86 {Z : State} {a0 : Array Value} (hw : ∀ d ∈ tables_1, d.before a0 Z = true) : (Jvm.Cond.selects "java/lang/StringBuilder" ({ cls := "java/lang/AbstractStringBuilder", name := "ensureCapacityInternal", desc := "(I)V" } : Jvm.MethodName) ({ cls := "java/lang/AbstractStringBuilder", name := "ensureCapacityInternal", desc := "(I)V" } : Jvm.MethodName)).before a0 Z = true := hw _ (List.mem_of_getElem? (i := 86) rfl)
theorem w_87 {Z : State} {a0 : Array Value} (hw : ∀ d ∈ tables_1, d.before a0 Z = true) : (Jvm.Cond.code ({ cls := "java/lang/AbstractStringBuilder", name := "ensureCapacityInternal", desc := "(I)V" } : Jvm.MethodName) jdk_68_method_9_code (3 : Nat) (Option.none : Option Jvm.ClassFile.FieldType)).before a0 Z = true := hw _ (List.mem_of_getElem? (i := 87) rfl)
theorem w_88 {Z : State} {a0 : Array Value} (hw : ∀ d ∈ tables_1, d.before a0 Z = true) : (Jvm.Cond.methodLink "java/lang/AbstractStringBuilder" (104 : Nat) ({ cls := "java/lang/AbstractStringBuilder", name := "newCapacity", desc := "(I)I" } : Jvm.MethodName)).before a0 Z = true := hw _ (List.mem_of_getElem? (i := 88) rfl)
theorem w_89 {Z : State} {a0 : Array Value} (hw : ∀ d ∈ tables_1, d.before a0 Z = true) : (Jvm.Cond.instanceMethod ({ cls := "java/lang/AbstractStringBuilder", name := "newCapacity", desc := "(I)I" } : Jvm.MethodName)).before a0 Z = true := hw _ (List.mem_of_getElem? (i := 89) rfl)
theorem w_90 {Z : State} {a0 : Array Value} (hw : ∀ d ∈ tables_1, d.before a0 Z = true) : (Jvm.Cond.privateMethod ({ cls := "java/lang/AbstractStringBuilder", name := "newCapacity", desc := "(I)I" } : Jvm.MethodName)).before a0 Z = true := hw _ (List.mem_of_getElem? (i := 90) rfl)
theorem w_92 {Z : State} {a0 : Array Value} (hw : ∀ d ∈ tables_1, d.before a0 Z = true) : (Jvm.Cond.code ({ cls := "java/lang/AbstractStringBuilder", name := "newCapacity", desc := "(I)I" } : Jvm.MethodName) jdk_68_method_10_code (6 : Nat) (Option.some Jvm.ClassFile.FieldType.int)).before a0 Z = true := hw _ (List.mem_of_getElem? (i := 92) rfl)
theorem w_93 {Z : State} {a0 : Array Value} (hw : ∀ d ∈ tables_1, d.before a0 Z = true) : (Jvm.Cond.methodLink "java/lang/AbstractStringBuilder" (114 : Nat) ({ cls := "jdk/internal/util/ArraysSupport", name := "newLength", desc := "(III)I" } : Jvm.MethodName)).before a0 Z = true := hw _ (List.mem_of_getElem? (i := 93) rfl)
theorem w_94 {Z : State} {a0 : Array Value} (hw : ∀ d ∈ tables_1, d.before a0 Z = true) : (Jvm.Cond.static ({ cls := "jdk/internal/util/ArraysSupport", name := "newLength", desc := "(III)I" } : Jvm.MethodName)).before a0 Z = true := hw _ (List.mem_of_getElem? (i := 94) rfl)
theorem w_95 {Z : State} {a0 : Array Value} (hw : ∀ d ∈ tables_1, d.before a0 Z = true) : (Jvm.Cond.initialized "jdk/internal/util/ArraysSupport").before a0 Z = true := hw _ (List.mem_of_getElem? (i := 95) rfl)
theorem w_96 {Z : State} {a0 : Array Value} (hw : ∀ d ∈ tables_1, d.before a0 Z = true) : (Jvm.Cond.code ({ cls := "jdk/internal/util/ArraysSupport", name := "newLength", desc := "(III)I" } : Jvm.MethodName) jdk_48_method_27_code (4 : Nat) (Option.some Jvm.ClassFile.FieldType.int)).before a0 Z = true := hw _ (List.mem_of_getElem? (i := 96) rfl)
theorem w_97 {Z : State} {a0 : Array Value} (hw : ∀ d ∈ tables_1, d.before a0 Z = true) : (Jvm.Cond.methodLink "jdk/internal/util/ArraysSupport" (194 : Nat) ({ cls := "java/lang/Math", name := "max", desc := "(II)I" } : Jvm.MethodName)).before a0 Z = true := hw _ (List.mem_of_getElem? (i := 97) rfl)
theorem w_98 {Z : State} {a0 : Array Value} (hw : ∀ d ∈ tables_1, d.before a0 Z = true) : (Jvm.Cond.static ({ cls := "java/lang/Math", name := "max", desc := "(II)I" } : Jvm.MethodName)).before a0 Z = true := hw _ (List.mem_of_getElem? (i := 98) rfl)
theorem w_99 {Z : State} {a0 : Array Value} (hw : ∀ d ∈ tables_1, d.before a0 Z = true) : (Jvm.Cond.initialized "java/lang/Math").before a0 Z = true := hw _ (List.mem_of_getElem? (i := 99) rfl)
theorem w_100 {Z : State} {a0 : Array Value} (hw : ∀ d ∈ tables_1, d.before a0 Z = true) : (Jvm.Cond.code ({ cls := "java/lang/Math", name := "max", desc := "(II)I" } : Jvm.MethodName) jdk_29_method_65_code (2 : Nat) (Option.some Jvm.ClassFile.FieldType.int)).before a0 Z = true := hw _ (List.mem_of_getElem? (i := 100) rfl)
theorem w_101 {Z : State} {a0 : Array Value} (hw : ∀ d ∈ tables_1, d.before a0 Z = true) : (Jvm.Cond.constant "jdk/internal/util/ArraysSupport" (200 : Nat) (2147483639 : Int32)).before a0 Z = true := hw _ (List.mem_of_getElem? (i := 101) rfl)
theorem w_102 {Z : State} {a0 : Array Value} (hw : ∀ d ∈ tables_1, d.before a0 Z = true) : (Jvm.Cond.constant "java/lang/AbstractStringBuilder" (39 : Nat) (2147483647 : Int32)).before a0 Z = true := hw _ (List.mem_of_getElem? (i := 102) rfl)
theorem w_103 {Z : State} {a0 : Array Value} (hw : ∀ d ∈ tables_1, d.before a0 Z = true) : (Jvm.Cond.methodLink "java/lang/AbstractStringBuilder" (108 : Nat) ({ cls := "java/util/Arrays", name := "copyOf", desc := "([BI)[B" } : Jvm.MethodName)).before a0 Z = true := hw _ (List.mem_of_getElem? (i := 103) rfl)
theorem w_104 {Z : State} {a0 : Array Value} (hw : ∀ d ∈ tables_1, d.before a0 Z = true) : (Jvm.Cond.static ({ cls := "java/util/Arrays", name := "copyOf", desc := "([BI)[B" } : Jvm.MethodName)).before a0 Z = true := hw _ (List.mem_of_getElem? (i := 104) rfl)
theorem w_105 {Z : State} {a0 : Array Value} (hw : ∀ d ∈ tables_1, d.before a0 Z = true) : (Jvm.Cond.initialized "java/util/Arrays").before a0 Z = true := hw _ (List.mem_of_getElem? (i := 105) rfl)
theorem w_106 {Z : State} {a0 : Array Value} (hw : ∀ d ∈ tables_1, d.before a0 Z = true) : (Jvm.Cond.code ({ cls := "java/util/Arrays", name := "copyOf", desc := "([BI)[B" } : Jvm.MethodName) jdk_65_method_121_code (3 : Nat) (Option.some (Jvm.ClassFile.FieldType.array Jvm.ClassFile.FieldType.byte))).before a0 Z = true := hw _ (List.mem_of_getElem? (i := 106) rfl)
theorem w_107 {Z : State} {a0 : Array Value} (hw : ∀ d ∈ tables_1, d.before a0 Z = true) : (Jvm.Cond.methodLink "java/util/Arrays" (304 : Nat) ({ cls := "java/lang/Math", name := "min", desc := "(II)I" } : Jvm.MethodName)).before a0 Z = true := hw _ (List.mem_of_getElem? (i := 107) rfl)
theorem w_108 {Z : State} {a0 : Array Value} (hw : ∀ d ∈ tables_1, d.before a0 Z = true) : (Jvm.Cond.static ({ cls := "java/lang/Math", name := "min", desc := "(II)I" } : Jvm.MethodName)).before a0 Z = true := hw _ (List.mem_of_getElem? (i := 108) rfl)
theorem w_109 {Z : State} {a0 : Array Value} (hw : ∀ d ∈ tables_1, d.before a0 Z = true) : (Jvm.Cond.code ({ cls := "java/lang/Math", name := "min", desc := "(II)I" } : Jvm.MethodName) jdk_29_method_69_code (2 : Nat) (Option.some Jvm.ClassFile.FieldType.int)).before a0 Z = true := hw _ (List.mem_of_getElem? (i := 109) rfl)
theorem w_110 {Z : State} {a0 : Array Value} (hw : ∀ d ∈ tables_1, d.before a0 Z = true) : (Jvm.Cond.methodLink "java/util/Arrays" (150 : Nat) ({ cls := "java/lang/System", name := "arraycopy", desc := "(Ljava/lang/Object;ILjava/lang/Object;II)V" } : Jvm.MethodName)).before a0 Z = true := hw _ (List.mem_of_getElem? (i := 110) rfl)
theorem w_111 {Z : State} {a0 : Array Value} (hw : ∀ d ∈ tables_1, d.before a0 Z = true) : (Jvm.Cond.static ({ cls := "java/lang/System", name := "arraycopy", desc := "(Ljava/lang/Object;ILjava/lang/Object;II)V" } : Jvm.MethodName)).before a0 Z = true := hw _ (List.mem_of_getElem? (i := 111) rfl)
theorem w_112 {Z : State} {a0 : Array Value} (hw : ∀ d ∈ tables_1, d.before a0 Z = true) : (Jvm.Cond.initialized "java/lang/System").before a0 Z = true := hw _ (List.mem_of_getElem? (i := 112) rfl)
theorem w_113 {Z : State} {a0 : Array Value} (hw : ∀ d ∈ tables_1, d.before a0 Z = true) : (Jvm.Cond.native ({ cls := "java/lang/System", name := "arraycopy", desc := "(Ljava/lang/Object;ILjava/lang/Object;II)V" } : Jvm.MethodName)).before a0 Z = true := hw _ (List.mem_of_getElem? (i := 113) rfl)
theorem w_114 {Z : State} {a0 : Array Value} (hw : ∀ d ∈ tables_1, d.before a0 Z = true) : (Jvm.Cond.methodLink "java/lang/AbstractStringBuilder" (208 : Nat) ({ cls := "java/lang/AbstractStringBuilder", name := "putStringAt", desc := "(ILjava/lang/String;)V" } : Jvm.MethodName)).before a0 Z = true := hw _ (List.mem_of_getElem? (i := 114) rfl)
theorem w_115 {Z : State} {a0 : Array Value} (hw : ∀ d ∈ tables_1, d.before a0 Z = true) : (Jvm.Cond.instanceMethod ({ cls := "java/lang/AbstractStringBuilder", name := "putStringAt", desc := "(ILjava/lang/String;)V" } : Jvm.MethodName)).before a0 Z = true := hw _ (List.mem_of_getElem? (i := 115) rfl)
theorem w_116 {Z : State} {a0 : Array Value} (hw : ∀ d ∈ tables_1, d.before a0 Z = true) : (Jvm.Cond.privateMethod ({ cls := "java/lang/AbstractStringBuilder", name := "putStringAt", desc := "(ILjava/lang/String;)V" } : Jvm.MethodName)).before a0 Z = true := hw _ (List.mem_of_getElem? (i := 116) rfl)
theorem w_118 {Z : State} {a0 : Array Value} (hw : ∀ d ∈ tables_1, d.before a0 Z = true) : (Jvm.Cond.code ({ cls := "java/lang/AbstractStringBuilder", name := "putStringAt", desc := "(ILjava/lang/String;)V" } : Jvm.MethodName) jdk_68_method_73_code (3 : Nat) (Option.none : Option Jvm.ClassFile.FieldType)).before a0 Z = true := hw _ (List.mem_of_getElem? (i := 118) rfl)
theorem w_119 {Z : State} {a0 : Array Value} (hw : ∀ d ∈ tables_1, d.before a0 Z = true) : (Jvm.Cond.methodLink "java/lang/AbstractStringBuilder" (397 : Nat) ({ cls := "java/lang/AbstractStringBuilder", name := "inflateIfNeededFor", desc := "(Ljava/lang/String;)V" } : Jvm.MethodName)).before a0 Z = true := hw _ (List.mem_of_getElem? (i := 119) rfl)
theorem w_120 {Z : State} {a0 : Array Value} (hw : ∀ d ∈ tables_1, d.before a0 Z = true) : (Jvm.Cond.instanceMethod ({ cls := "java/lang/AbstractStringBuilder", name := "inflateIfNeededFor", desc := "(Ljava/lang/String;)V" } : Jvm.MethodName)).before a0 Z = true := hw _ (List.mem_of_getElem? (i := 120) rfl)
theorem w_121 {Z : State} {a0 : Array Value} (hw : ∀ d ∈ tables_1, d.before a0 Z = true) : (Jvm.Cond.privateMethod ({ cls := "java/lang/AbstractStringBuilder", name := "inflateIfNeededFor", desc := "(Ljava/lang/String;)V" } : Jvm.MethodName)).before a0 Z = true := hw _ (List.mem_of_getElem? (i := 121) rfl)
theorem w_123 {Z : State} {a0 : Array Value} (hw : ∀ d ∈ tables_1, d.before a0 Z = true) : (Jvm.Cond.code ({ cls := "java/lang/AbstractStringBuilder", name := "inflateIfNeededFor", desc := "(Ljava/lang/String;)V" } : Jvm.MethodName) jdk_68_method_71_code (2 : Nat) (Option.none : Option Jvm.ClassFile.FieldType)).before a0 Z = true := hw _ (List.mem_of_getElem? (i := 123) rfl)
theorem w_124 {Z : State} {a0 : Array Value} (hw : ∀ d ∈ tables_1, d.before a0 Z = true) : (Jvm.Cond.methodLink "java/lang/AbstractStringBuilder" (40 : Nat) ({ cls := "java/lang/String", name := "coder", desc := "()B" } : Jvm.MethodName)).before a0 Z = true := hw _ (List.mem_of_getElem? (i := 124) rfl)
theorem w_125 {Z : State} {a0 : Array Value} (hw : ∀ d ∈ tables_1, d.before a0 Z = true) : (Jvm.Cond.methodLink "java/lang/AbstractStringBuilder" (399 : Nat) ({ cls := "java/lang/String", name := "getBytes", desc := "([BIB)V" } : Jvm.MethodName)).before a0 Z = true := hw _ (List.mem_of_getElem? (i := 125) rfl)
theorem w_126 {Z : State} {a0 : Array Value} (hw : ∀ d ∈ tables_1, d.before a0 Z = true) : (Jvm.Cond.declares ({ cls := "java/lang/String", name := "getBytes", desc := "([BIB)V" } : Jvm.MethodName)).before a0 Z = true := hw _ (List.mem_of_getElem? (i := 126) rfl)
theorem w_127 {Z : State} {a0 : Array Value} (hw : ∀ d ∈ tables_1, d.before a0 Z = true) : (Jvm.Cond.instanceMethod ({ cls := "java/lang/String", name := "getBytes", desc := "([BIB)V" } : Jvm.MethodName)).before a0 Z = true := hw _ (List.mem_of_getElem? (i := 127) rfl)
theorem w_128 {Z : State} {a0 : Array Value} (hw : ∀ d ∈ tables_1, d.before a0 Z = true) : (Jvm.Cond.selects "java/lang/String" ({ cls := "java/lang/String", name := "getBytes", desc := "([BIB)V" } : Jvm.MethodName) ({ cls := "java/lang/String", name := "getBytes", desc := "([BIB)V" } : Jvm.MethodName)).before a0 Z = true := hw _ (List.mem_of_getElem? (i := 128) rfl)
theorem w_129 {Z : State} {a0 : Array Value} (hw : ∀ d ∈ tables_1, d.before a0 Z = true) : (Jvm.Cond.code ({ cls := "java/lang/String", name := "getBytes", desc := "([BIB)V" } : Jvm.MethodName) jdk_42_method_147_code (4 : Nat) (Option.none : Option Jvm.ClassFile.FieldType)).before a0 Z = true := hw _ (List.mem_of_getElem? (i := 129) rfl)
theorem w_130 {Z : State} {a0 : Array Value} (hw : ∀ d ∈ tables_1, d.before a0 Z = true) : (Jvm.Cond.methodLink "java/lang/String" (212 : Nat) ({ cls := "java/lang/System", name := "arraycopy", desc := "(Ljava/lang/Object;ILjava/lang/Object;II)V" } : Jvm.MethodName)).before a0 Z = true := hw _ (List.mem_of_getElem? (i := 130) rfl)
theorem w_131 {Z : State} {a0 : Array Value} (hw : ∀ d ∈ tables_1, d.before a0 Z = true) : (Jvm.Cond.stringLink "com/example/slackline/slackline/UsageException" (20 : Nat) "'").before a0 Z = true := hw _ (List.mem_of_getElem? (i := 131) rfl)
theorem w_132 {Z : State} {a0 : Array Value} (hw : ∀ d ∈ tables_1, d.before a0 Z = true) : (Jvm.Cond.methodLink "com/example/slackline/slackline/UsageException" (22 : Nat) ({ cls := "java/lang/StringBuilder", name := "toString", desc := "()Ljava/lang/String;" } : Jvm.MethodName)).before a0 Z = true := hw _ (List.mem_of_getElem? (i := 132) rfl)
theorem w_133 {Z : State} {a0 : Array Value} (hw : ∀ d ∈ tables_1, d.before a0 Z = true) : (Jvm.Cond.declares ({ cls := "java/lang/StringBuilder", name := "toString", desc := "()Ljava/lang/String;" } : Jvm.MethodName)).before a0 Z = true := hw _ (List.mem_of_getElem? (i := 133) rfl)
theorem w_134 {Z : State} {a0 : Array Value} (hw : ∀ d ∈ tables_1, d.before a0 Z = true) : (Jvm.Cond.instanceMethod ({ cls := "java/lang/StringBuilder", name := "toString", desc := "()Ljava/lang/String;" } : Jvm.MethodName)).before a0 Z = true := hw _ (List.mem_of_getElem? (i := 134) rfl)
theorem w_135 {Z : State} {a0 : Array Value} (hw : ∀ d ∈ tables_1, d.before a0 Z = true) : (Jvm.Cond.selects "java/lang/StringBuilder" ({ cls := "java/lang/StringBuilder", name := "toString", desc := "()Ljava/lang/String;" } : Jvm.MethodName) ({ cls := "java/lang/StringBuilder", name := "toString", desc := "()Ljava/lang/String;" } : Jvm.MethodName)).before a0 Z = true := hw _ (List.mem_of_getElem? (i := 135) rfl)
theorem w_136 {Z : State} {a0 : Array Value} (hw : ∀ d ∈ tables_1, d.before a0 Z = true) : (Jvm.Cond.code ({ cls := "java/lang/StringBuilder", name := "toString", desc := "()Ljava/lang/String;" } : Jvm.MethodName) jdk_67_method_42_code (1 : Nat) (Option.some (Jvm.ClassFile.FieldType.object "java/lang/String"))).before a0 Z = true := hw _ (List.mem_of_getElem? (i := 136) rfl)
theorem w_137 {Z : State} {a0 : Array Value} (hw : ∀ d ∈ tables_1, d.before a0 Z = true) : (Jvm.Cond.classLink "java/lang/StringBuilder" (18 : Nat) "java/lang/String").before a0 Z = true := hw _ (List.mem_of_getElem? (i := 137) rfl)
theorem w_138 {Z : State} {a0 : Array Value} (hw : ∀ d ∈ tables_1, d.before a0 Z = true) : (Jvm.Cond.methodLink "java/lang/StringBuilder" (137 : Nat) ({ cls := "java/lang/String", name := "<init>", desc := "(Ljava/lang/StringBuilder;)V" } : Jvm.MethodName)).before a0 Z = true := hw _ (List.mem_of_getElem? (i := 138) rfl)
theorem w_139 {Z : State} {a0 : Array Value} (hw : ∀ d ∈ tables_1, d.before a0 Z = true) : (Jvm.Cond.instanceMethod ({ cls := "java/lang/String", name := "<init>", desc := "(Ljava/lang/StringBuilder;)V" } : Jvm.MethodName)).before a0 Z = true := hw _ (List.mem_of_getElem? (i := 139) rfl)
theorem w_140 {Z : State} {a0 : Array Value} (hw : ∀ d ∈ tables_1, d.before a0 Z = true) : (Jvm.Cond.code ({ cls := "java/lang/String", name := "<init>", desc := "(Ljava/lang/StringBuilder;)V" } : Jvm.MethodName) jdk_42_method_53_code (2 : Nat) (Option.none : Option Jvm.ClassFile.FieldType)).before a0 Z = true := hw _ (List.mem_of_getElem? (i := 140) rfl)
theorem w_141 {Z : State} {a0 : Array Value} (hw : ∀ d ∈ tables_1, d.before a0 Z = true) : (Jvm.Cond.methodLink "java/lang/String" (489 : Nat) ({ cls := "java/lang/String", name := "<init>", desc := "(Ljava/lang/AbstractStringBuilder;Ljava/lang/Void;)V" } : Jvm.MethodName)).before a0 Z = true := hw _ (List.mem_of_getElem? (i := 141) rfl)
theorem w_142 {Z : State} {a0 : Array Value} (hw : ∀ d ∈ tables_1, d.before a0 Z = true) : (Jvm.Cond.instanceMethod ({ cls := "java/lang/String", name := "<init>", desc := "(Ljava/lang/AbstractStringBuilder;Ljava/lang/Void;)V" } : Jvm.MethodName)).before a0 Z = true := hw _ (List.mem_of_getElem? (i := 142) rfl)
theorem w_143 {Z : State} {a0 : Array Value} (hw : ∀ d ∈ tables_1, d.before a0 Z = true) : (Jvm.Cond.code ({ cls := "java/lang/String", name := "<init>", desc := "(Ljava/lang/AbstractStringBuilder;Ljava/lang/Void;)V" } : Jvm.MethodName) jdk_42_method_150_code (5 : Nat) (Option.none : Option Jvm.ClassFile.FieldType)).before a0 Z = true := hw _ (List.mem_of_getElem? (i := 143) rfl)
theorem w_144 {Z : State} {a0 : Array Value} (hw : ∀ d ∈ tables_1, d.before a0 Z = true) : (Jvm.Cond.methodLink "java/lang/String" (552 : Nat) ({ cls := "java/lang/AbstractStringBuilder", name := "getValue", desc := "()[B" } : Jvm.MethodName)).before a0 Z = true := hw _ (List.mem_of_getElem? (i := 144) rfl)
theorem w_145 {Z : State} {a0 : Array Value} (hw : ∀ d ∈ tables_1, d.before a0 Z = true) : (Jvm.Cond.declares ({ cls := "java/lang/AbstractStringBuilder", name := "getValue", desc := "()[B" } : Jvm.MethodName)).before a0 Z = true := hw _ (List.mem_of_getElem? (i := 145) rfl)
theorem w_146 {Z : State} {a0 : Array Value} (hw : ∀ d ∈ tables_1, d.before a0 Z = true) : (Jvm.Cond.instanceMethod ({ cls := "java/lang/AbstractStringBuilder", name := "getValue", desc := "()[B" } : Jvm.MethodName)).before a0 Z = true := hw _ (List.mem_of_getElem? (i := 146) rfl)
theorem w_147 {Z : State} {a0 : Array Value} (hw : ∀ d ∈ tables_1, d.before a0 Z = true) : (Jvm.Cond.selects "java/lang/StringBuilder" ({ cls := "java/lang/AbstractStringBuilder", name := "getValue", desc := "()[B" } : Jvm.MethodName) ({ cls := "java/lang/AbstractStringBuilder", name := "getValue", desc := "()[B" } : Jvm.MethodName)).before a0 Z = true := hw _ (List.mem_of_getElem? (i := 147) rfl)
theorem w_148 {Z : State} {a0 : Array Value} (hw : ∀ d ∈ tables_1, d.before a0 Z = true) : (Jvm.Cond.code ({ cls := "java/lang/AbstractStringBuilder", name := "getValue", desc := "()[B" } : Jvm.MethodName) jdk_68_method_64_code (1 : Nat) (Option.some (Jvm.ClassFile.FieldType.array Jvm.ClassFile.FieldType.byte))).before a0 Z = true := hw _ (List.mem_of_getElem? (i := 148) rfl)
theorem w_149 {Z : State} {a0 : Array Value} (hw : ∀ d ∈ tables_1, d.before a0 Z = true) : (Jvm.Cond.methodLink "java/lang/String" (549 : Nat) ({ cls := "java/lang/AbstractStringBuilder", name := "length", desc := "()I" } : Jvm.MethodName)).before a0 Z = true := hw _ (List.mem_of_getElem? (i := 149) rfl)
theorem w_150 {Z : State} {a0 : Array Value} (hw : ∀ d ∈ tables_1, d.before a0 Z = true) : (Jvm.Cond.declares ({ cls := "java/lang/AbstractStringBuilder", name := "length", desc := "()I" } : Jvm.MethodName)).before a0 Z = true := hw _ (List.mem_of_getElem? (i := 150) rfl)
theorem w_151 {Z : State} {a0 : Array Value} (hw : ∀ d ∈ tables_1, d.before a0 Z = true) : (Jvm.Cond.instanceMethod ({ cls := "java/lang/AbstractStringBuilder", name := "length", desc := "()I" } : Jvm.MethodName)).before a0 Z = true := hw _ (List.mem_of_getElem? (i := 151) rfl)
theorem w_152 {Z : State} {a0 : Array Value} (hw : ∀ d ∈ tables_1, d.before a0 Z = true) : (Jvm.Cond.selects "java/lang/StringBuilder" ({ cls := "java/lang/AbstractStringBuilder", name := "length", desc := "()I" } : Jvm.MethodName) ({ cls := "java/lang/StringBuilder", name := "length", desc := "()I" } : Jvm.MethodName)).before a0 Z = true := hw _ (List.mem_of_getElem? (i := 152) rfl)
theorem w_153 {Z : State} {a0 : Array Value} (hw : ∀ d ∈ tables_1, d.before a0 Z = true) : (Jvm.Cond.instanceMethod ({ cls := "java/lang/StringBuilder", name := "length", desc := "()I" } : Jvm.MethodName)).before a0 Z = true := hw _ (List.mem_of_getElem? (i := 153) rfl)
theorem w_154 {Z : State} {a0 : Array Value} (hw : ∀ d ∈ tables_1, d.before a0 Z = true) : (Jvm.Cond.code ({ cls := "java/lang/StringBuilder", name := "length", desc := "()I" } : Jvm.MethodName) jdk_67_method_93_code (1 : Nat) (Option.some Jvm.ClassFile.FieldType.int)).before a0 Z = true := hw _ (List.mem_of_getElem? (i := 154) rfl)
theorem w_155 {Z : State} {a0 : Array Value} (hw : ∀ d ∈ tables_1, d.before a0 Z = true) : (Jvm.Cond.methodLink "java/lang/StringBuilder" (343 : Nat) ({ cls := "java/lang/AbstractStringBuilder", name := "length", desc := "()I" } : Jvm.MethodName)).before a0 Z = true := hw _ (List.mem_of_getElem? (i := 155) rfl)
theorem w_156 {Z : State} {a0 : Array Value} (hw : ∀ d ∈ tables_1, d.before a0 Z = true) : (Jvm.Cond.code ({ cls := "java/lang/AbstractStringBuilder", name := "length", desc := "()I" } : Jvm.MethodName) jdk_68_method_6_code (1 : Nat) (Option.some Jvm.ClassFile.FieldType.int)).before a0 Z = true := hw _ (List.mem_of_getElem? (i := 156) rfl)
theorem w_157 {Z : State} {a0 : Array Value} (hw : ∀ d ∈ tables_1, d.before a0 Z = true) : (Jvm.Cond.methodLink "java/lang/String" (1047 : Nat) ({ cls := "java/lang/AbstractStringBuilder", name := "isLatin1", desc := "()Z" } : Jvm.MethodName)).before a0 Z = true := hw _ (List.mem_of_getElem? (i := 157) rfl)
theorem w_158 {Z : State} {a0 : Array Value} (hw : ∀ d ∈ tables_1, d.before a0 Z = true) : (Jvm.Cond.declares ({ cls := "java/lang/AbstractStringBuilder", name := "isLatin1", desc := "()Z" } : Jvm.MethodName)).before a0 Z = true := hw _ (List.mem_of_getElem? (i := 158) rfl)
theorem w_159 {Z : State} {a0 : Array Value} (hw : ∀ d ∈ tables_1, d.before a0 Z = true) : (Jvm.Cond.instanceMethod ({ cls := "java/lang/AbstractStringBuilder", name := "isLatin1", desc := "()Z" } : Jvm.MethodName)).before a0 Z = true := hw _ (List.mem_of_getElem? (i := 159) rfl)
theorem w_160 {Z : State} {a0 : Array Value} (hw : ∀ d ∈ tables_1, d.before a0 Z = true) : (Jvm.Cond.selects "java/lang/StringBuilder" ({ cls := "java/lang/AbstractStringBuilder", name := "isLatin1", desc := "()Z" } : Jvm.MethodName) ({ cls := "java/lang/AbstractStringBuilder", name := "isLatin1", desc := "()Z" } : Jvm.MethodName)).before a0 Z = true := hw _ (List.mem_of_getElem? (i := 160) rfl)
theorem w_161 {Z : State} {a0 : Array Value} (hw : ∀ d ∈ tables_1, d.before a0 Z = true) : (Jvm.Cond.code ({ cls := "java/lang/AbstractStringBuilder", name := "isLatin1", desc := "()Z" } : Jvm.MethodName) jdk_68_method_68_code (1 : Nat) (Option.some Jvm.ClassFile.FieldType.boolean)).before a0 Z = true := hw _ (List.mem_of_getElem? (i := 161) rfl)
theorem w_162 {Z : State} {a0 : Array Value} (hw : ∀ d ∈ tables_1, d.before a0 Z = true) : (Jvm.Cond.methodLink "java/lang/String" (54 : Nat) ({ cls := "java/util/Arrays", name := "copyOfRange", desc := "([BII)[B" } : Jvm.MethodName)).before a0 Z = true := hw _ (List.mem_of_getElem? (i := 162) rfl)
theorem w_163 {Z : State} {a0 : Array Value} (hw : ∀ d ∈ tables_1, d.before a0 Z = true) : (Jvm.Cond.static ({ cls := "java/util/Arrays", name := "copyOfRange", desc := "([BII)[B" } : Jvm.MethodName)).before a0 Z = true := hw _ (List.mem_of_getElem? (i := 163) rfl)
theorem w_164 {Z : State} {a0 : Array Value} (hw : ∀ d ∈ tables_1, d.before a0 Z = true) : (Jvm.Cond.code ({ cls := "java/util/Arrays", name := "copyOfRange", desc := "([BII)[B" } : Jvm.MethodName) jdk_65_method_132_code (3 : Nat) (Option.some (Jvm.ClassFile.FieldType.array Jvm.ClassFile.FieldType.byte))).before a0 Z = true := hw _ (List.mem_of_getElem? (i := 164) rfl)
theorem w_165 {Z : State} {a0 : Array Value} (hw : ∀ d ∈ tables_1, d.before a0 Z = true) : (Jvm.Cond.methodLink "java/util/Arrays" (339 : Nat) ({ cls := "java/util/Arrays", name := "copyOfRangeByte", desc := "([BII)[B" } : Jvm.MethodName)).before a0 Z = true := hw _ (List.mem_of_getElem? (i := 165) rfl)
theorem w_166 {Z : State} {a0 : Array Value} (hw : ∀ d ∈ tables_1, d.before a0 Z = true) : (Jvm.Cond.static ({ cls := "java/util/Arrays", name := "copyOfRangeByte", desc := "([BII)[B" } : Jvm.MethodName)).before a0 Z = true := hw _ (List.mem_of_getElem? (i := 166) rfl)
theorem w_167 {Z : State} {a0 : Array Value} (hw : ∀ d ∈ tables_1, d.before a0 Z = true) : (Jvm.Cond.code ({ cls := "java/util/Arrays", name := "copyOfRangeByte", desc := "([BII)[B" } : Jvm.MethodName) jdk_65_method_133_code (5 : Nat) (Option.some (Jvm.ClassFile.FieldType.array Jvm.ClassFile.FieldType.byte))).before a0 Z = true := hw _ (List.mem_of_getElem? (i := 167) rfl)
theorem w_168 {Z : State} {a0 : Array Value} (hw : ∀ d ∈ tables_1, d.before a0 Z = true) : (Jvm.Cond.methodLink "java/util/Arrays" (343 : Nat) ({ cls := "java/util/Arrays", name := "checkLength", desc := "(II)V" } : Jvm.MethodName)).before a0 Z = true := hw _ (List.mem_of_getElem? (i := 168) rfl)
theorem w_169 {Z : State} {a0 : Array Value} (hw : ∀ d ∈ tables_1, d.before a0 Z = true) : (Jvm.Cond.static ({ cls := "java/util/Arrays", name := "checkLength", desc := "(II)V" } : Jvm.MethodName)).before a0 Z = true := hw _ (List.mem_of_getElem? (i := 169) rfl)
theorem w_170 {Z : State} {a0 : Array Value} (hw : ∀ d ∈ tables_1, d.before a0 Z = true) : (Jvm.Cond.code ({ cls := "java/util/Arrays", name := "checkLength", desc := "(II)V" } : Jvm.MethodName) jdk_65_method_131_code (2 : Nat) (Option.none : Option Jvm.ClassFile.FieldType)).before a0 Z = true := hw _ (List.mem_of_getElem? (i := 170) rfl)
theorem w_171 {Z : State} {a0 : Array Value} (hw : ∀ d ∈ tables_1, d.before a0 Z = true) : (Jvm.Cond.methodLink "com/example/slackline/slackline/UsageException" (26 : Nat) ({ cls := "com/example/slackline/slackline/UsageException", name := "<init>", desc := "(Ljava/lang/String;)V" } : Jvm.MethodName)).before a0 Z = true := hw _ (List.mem_of_getElem? (i := 171) rfl)
theorem w_172 {Z : State} {a0 : Array Value} (hw : ∀ d ∈ tables_1, d.before a0 Z = true) : (Jvm.Cond.instanceMethod ({ cls := "com/example/slackline/slackline/UsageException", name := "<init>", desc := "(Ljava/lang/String;)V" } : Jvm.MethodName)).before a0 Z = true := hw _ (List.mem_of_getElem? (i := 172) rfl)
theorem w_173 {Z : State} {a0 : Array Value} (hw : ∀ d ∈ tables_1, d.before a0 Z = true) : (Jvm.Cond.code ({ cls := "com/example/slackline/slackline/UsageException", name := "<init>", desc := "(Ljava/lang/String;)V" } : Jvm.MethodName) prog_53_method_1_code (2 : Nat) (Option.none : Option Jvm.ClassFile.FieldType)).before a0 Z = true := hw _ (List.mem_of_getElem? (i := 173) rfl)
theorem w_174 {Z : State} {a0 : Array Value} (hw : ∀ d ∈ tables_1, d.before a0 Z = true) : (Jvm.Cond.methodLink "com/example/slackline/slackline/UsageException" (1 : Nat) ({ cls := "java/lang/Exception", name := "<init>", desc := "(Ljava/lang/String;)V" } : Jvm.MethodName)).before a0 Z = true := hw _ (List.mem_of_getElem? (i := 174) rfl)
theorem w_175 {Z : State} {a0 : Array Value} (hw : ∀ d ∈ tables_1, d.before a0 Z = true) : (Jvm.Cond.instanceMethod ({ cls := "java/lang/Exception", name := "<init>", desc := "(Ljava/lang/String;)V" } : Jvm.MethodName)).before a0 Z = true := hw _ (List.mem_of_getElem? (i := 175) rfl)
theorem w_177 {Z : State} {a0 : Array Value} (hw : ∀ d ∈ tables_1, d.before a0 Z = true) : (Jvm.Cond.initialized "java/lang/Exception").before a0 Z = true := hw _ (List.mem_of_getElem? (i := 177) rfl)
theorem w_178 {Z : State} {a0 : Array Value} (hw : ∀ d ∈ tables_1, d.before a0 Z = true) : (Jvm.Cond.code ({ cls := "java/lang/Exception", name := "<init>", desc := "(Ljava/lang/String;)V" } : Jvm.MethodName) jdk_59_method_2_code (2 : Nat) (Option.none : Option Jvm.ClassFile.FieldType)).before a0 Z = true := hw _ (List.mem_of_getElem? (i := 178) rfl)
theorem w_179 {Z : State} {a0 : Array Value} (hw : ∀ d ∈ tables_1, d.before a0 Z = true) : (Jvm.Cond.methodLink "java/lang/Exception" (7 : Nat) ({ cls := "java/lang/Throwable", name := "<init>", desc := "(Ljava/lang/String;)V" } : Jvm.MethodName)).before a0 Z = true := hw _ (List.mem_of_getElem? (i := 179) rfl)
theorem w_180 {Z : State} {a0 : Array Value} (hw : ∀ d ∈ tables_1, d.before a0 Z = true) : (Jvm.Cond.instanceMethod ({ cls := "java/lang/Throwable", name := "<init>", desc := "(Ljava/lang/String;)V" } : Jvm.MethodName)).before a0 Z = true := hw _ (List.mem_of_getElem? (i := 180) rfl)
theorem w_183 {Z : State} {a0 : Array Value} (hw : ∀ d ∈ tables_1, d.before a0 Z = true) : (Jvm.Cond.initialized "java/lang/Throwable").before a0 Z = true := hw _ (List.mem_of_getElem? (i := 183) rfl)
theorem w_184 {Z : State} {a0 : Array Value} (hw : ∀ d ∈ tables_1, d.before a0 Z = true) : (Jvm.Cond.code ({ cls := "java/lang/Throwable", name := "<init>", desc := "(Ljava/lang/String;)V" } : Jvm.MethodName) jdk_78_method_2_code (2 : Nat) (Option.none : Option Jvm.ClassFile.FieldType)).before a0 Z = true := hw _ (List.mem_of_getElem? (i := 184) rfl)
theorem w_185 {Z : State} {a0 : Array Value} (hw : ∀ d ∈ tables_1, d.before a0 Z = true) : (Jvm.Cond.methodLink "java/lang/Throwable" (1 : Nat) ({ cls := "java/lang/Object", name := "<init>", desc := "()V" } : Jvm.MethodName)).before a0 Z = true := hw _ (List.mem_of_getElem? (i := 185) rfl)
theorem w_186 {Z : State} {a0 : Array Value} (hw : ∀ d ∈ tables_1, d.before a0 Z = true) : (Jvm.Cond.fieldLink "java/lang/Throwable" (7 : Nat) "java/lang/Throwable" "cause" "Ljava/lang/Throwable;").before a0 Z = true := hw _ (List.mem_of_getElem? (i := 186) rfl)
theorem w_187 {Z : State} {a0 : Array Value} (hw : ∀ d ∈ tables_1, d.before a0 Z = true) : (Jvm.Cond.lays "com/example/slackline/slackline/UsageException" "java/lang/Throwable" "cause" "Ljava/lang/Throwable;").before a0 Z = true := hw _ (List.mem_of_getElem? (i := 187) rfl)
theorem w_188 {Z : State} {a0 : Array Value} (hw : ∀ d ∈ tables_1, d.before a0 Z = true) : (Jvm.Cond.fieldLink "java/lang/Throwable" (13 : Nat) "java/lang/Throwable" "UNASSIGNED_STACK" "[Ljava/lang/StackTraceElement;").before a0 Z = true := hw _ (List.mem_of_getElem? (i := 188) rfl)
theorem w_189 {Z : State} {a0 : Array Value} (hw : ∀ d ∈ tables_1, d.before a0 Z = true) : (Jvm.Cond.fieldLink "java/lang/Throwable" (17 : Nat) "java/lang/Throwable" "stackTrace" "[Ljava/lang/StackTraceElement;").before a0 Z = true := hw _ (List.mem_of_getElem? (i := 189) rfl)
theorem w_190 {Z : State} {a0 : Array Value} (hw : ∀ d ∈ tables_1, d.before a0 Z = true) : (Jvm.Cond.lays "com/example/slackline/slackline/UsageException" "java/lang/Throwable" "stackTrace" "[Ljava/lang/StackTraceElement;").before a0 Z = true := hw _ (List.mem_of_getElem? (i := 190) rfl)
theorem w_191 {Z : State} {a0 : Array Value} (hw : ∀ d ∈ tables_1, d.before a0 Z = true) : (Jvm.Cond.fieldLink "java/lang/Throwable" (20 : Nat) "java/lang/Throwable" "SUPPRESSED_SENTINEL" "Ljava/util/List;").before a0 Z = true := hw _ (List.mem_of_getElem? (i := 191) rfl)
theorem w_192 {Z : State} {a0 : Array Value} (hw : ∀ d ∈ tables_1, d.before a0 Z = true) : (Jvm.Cond.fieldLink "java/lang/Throwable" (24 : Nat) "java/lang/Throwable" "suppressedExceptions" "Ljava/util/List;").before a0 Z = true := hw _ (List.mem_of_getElem? (i := 192) rfl)
theorem w_193 {Z : State} {a0 : Array Value} (hw : ∀ d ∈ tables_1, d.before a0 Z = true) : (Jvm.Cond.lays "com/example/slackline/slackline/UsageException" "java/lang/Throwable" "suppressedExceptions" "Ljava/util/List;").before a0 Z = true := hw _ (List.mem_of_getElem? (i := 193) rfl)
theorem w_194 {Z : State} {a0 : Array Value} (hw : ∀ d ∈ tables_1, d.before a0 Z = true) : (Jvm.Cond.methodLink "java/lang/Throwable" (27 : Nat) ({ cls := "java/lang/Throwable", name := "fillInStackTrace", desc := "()Ljava/lang/Throwable;" } : Jvm.MethodName)).before a0 Z = true := hw _ (List.mem_of_getElem? (i := 194) rfl)
theorem w_195 {Z : State} {a0 : Array Value} (hw : ∀ d ∈ tables_1, d.before a0 Z = true) : (Jvm.Cond.declares ({ cls := "java/lang/Throwable", name := "fillInStackTrace", desc := "()Ljava/lang/Throwable;" } : Jvm.MethodName)).before a0 Z = true := hw _ (List.mem_of_getElem? (i := 195) rfl)
theorem w_196 {Z : State} {a0 : Array Value} (hw : ∀ d ∈ tables_1, d.before a0 Z = true) : (Jvm.Cond.instanceMethod ({ cls := "java/lang/Throwable", name := "fillInStackTrace", desc := "()Ljava/lang/Throwable;" } : Jvm.MethodName)).before a0 Z = true := hw _ (List.mem_of_getElem? (i := 196) rfl)
theorem w_197 {Z : State} {a0 : Array Value} (hw : ∀ d ∈ tables_1, d.before a0 Z = true) : (Jvm.Cond.selects "com/example/slackline/slackline/UsageException" ({ cls := "java/lang/Throwable", name := "fillInStackTrace", desc := "()Ljava/lang/Throwable;" } : Jvm.MethodName) ({ cls := "java/lang/Throwable", name := "fillInStackTrace", desc := "()Ljava/lang/Throwable;" } : Jvm.MethodName)).before a0 Z = true := hw _ (List.mem_of_getElem? (i := 197) rfl)
theorem w_198 {Z : State} {a0 : Array Value} (hw : ∀ d ∈ tables_1, d.before a0 Z = true) : (Jvm.Cond.arrayOver (Jvm.ClassFile.FieldType.object "java/lang/Object")).before a0 Z = true := hw _ (List.mem_of_getElem? (i := 198) rfl)
theorem w_199 {Z : State} {a0 : Array Value} (hw : ∀ d ∈ tables_1, d.before a0 Z = true) : (Jvm.Cond.soleField "java/lang/Throwable" "backtrace").before a0 Z = true := hw _ (List.mem_of_getElem? (i := 199) rfl)
theorem w_200 {Z : State} {a0 : Array Value} (hw : ∀ d ∈ tables_1, d.before a0 Z = true) : (Jvm.Cond.soleField "java/lang/Throwable" "depth").before a0 Z = true := hw _ (List.mem_of_getElem? (i := 200) rfl)
theorem w_201 {Z : State} {a0 : Array Value} (hw : ∀ d ∈ tables_1, d.before a0 Z = true) : (Jvm.Cond.superclass "java/lang/Throwable" "java/lang/Object").before a0 Z = true := hw _ (List.mem_of_getElem? (i := 201) rfl)
theorem w_202 {Z : State} {a0 : Array Value} (hw : ∀ d ∈ tables_1, d.before a0 Z = true) : (Jvm.Cond.codeSync ({ cls := "java/lang/Throwable", name := "fillInStackTrace", desc := "()Ljava/lang/Throwable;" } : Jvm.MethodName) jdk_78_method_18_code (1 : Nat) (Option.some (Jvm.ClassFile.FieldType.object "java/lang/Throwable"))).before a0 Z = true := hw _ (List.mem_of_getElem? (i := 202) rfl)
theorem w_203 {Z : State} {a0 : Array Value} (hw : ∀ d ∈ tables_1, d.before a0 Z = true) : (Jvm.Cond.instanceMethod ({ cls := "java/lang/Throwable", name := "fillInStackTrace", desc := "(I)Ljava/lang/Throwable;" } : Jvm.MethodName)).before a0 Z = true := hw _ (List.mem_of_getElem? (i := 203) rfl)
theorem w_204 {Z : State} {a0 : Array Value} (hw : ∀ d ∈ tables_1, d.before a0 Z = true) : (Jvm.Cond.native ({ cls := "java/lang/Throwable", name := "fillInStackTrace", desc := "(I)Ljava/lang/Throwable;" } : Jvm.MethodName)).before a0 Z = true := hw _ (List.mem_of_getElem? (i := 204) rfl)
theorem w_207 {Z : State} {a0 : Array Value} (hw : ∀ d ∈ tables_1, d.before a0 Z = true) : (Jvm.Cond.methodLink "java/lang/Throwable" (202 : Nat) ({ cls := "java/lang/Throwable", name := "fillInStackTrace", desc := "(I)Ljava/lang/Throwable;" } : Jvm.MethodName)).before a0 Z = true := hw _ (List.mem_of_getElem? (i := 207) rfl)
theorem w_212 {Z : State} {a0 : Array Value} (hw : ∀ d ∈ tables_1, d.before a0 Z = true) : (Jvm.Cond.fieldLink "java/lang/Throwable" (198 : Nat) "java/lang/Throwable" "backtrace" "Ljava/lang/Object;").before a0 Z = true := hw _ (List.mem_of_getElem? (i := 212) rfl)
theorem w_214 {Z : State} {a0 : Array Value} (hw : ∀ d ∈ tables_1, d.before a0 Z = true) : (Jvm.Cond.laysStatic "java/lang/Throwable" "UNASSIGNED_STACK" "[Ljava/lang/StackTraceElement;").before a0 Z = true := hw _ (List.mem_of_getElem? (i := 214) rfl)
theorem w_215 {Z : State} {a0 : Array Value} (hw : ∀ d ∈ tables_1, d.before a0 Z = true) : (Jvm.Cond.laysStatic "java/lang/Throwable" "SUPPRESSED_SENTINEL" "Ljava/util/List;").before a0 Z = true := hw _ (List.mem_of_getElem? (i := 215) rfl)
theorem w_216 {Z : State} {a0 : Array Value} (hw : ∀ d ∈ tables_1, d.before a0 Z = true) : (Jvm.Cond.selects "com/example/slackline/slackline/UsageException" ({ cls := "java/lang/Throwable", name := "fillInStackTrace", desc := "(I)Ljava/lang/Throwable;" } : Jvm.MethodName) ({ cls := "java/lang/Throwable", name := "fillInStackTrace", desc := "(I)Ljava/lang/Throwable;" } : Jvm.MethodName)).before a0 Z = true := hw _ (List.mem_of_getElem? (i := 216) rfl)
theorem w_217 {Z : State} {a0 : Array Value} (hw : ∀ d ∈ tables_1, d.before a0 Z = true) : (Jvm.Cond.lays "com/example/slackline/slackline/UsageException" "java/lang/Throwable" "detailMessage" "Ljava/lang/String;").before a0 Z = true := hw _ (List.mem_of_getElem? (i := 217) rfl)
theorem w_218 {Z : State} {a0 : Array Value} (hw : ∀ d ∈ tables_1, d.before a0 Z = true) : (Jvm.Cond.lays "com/example/slackline/slackline/UsageException" "java/lang/Throwable" "backtrace" "Ljava/lang/Object;").before a0 Z = true := hw _ (List.mem_of_getElem? (i := 218) rfl)
theorem w_219 {Z : State} {a0 : Array Value} (hw : ∀ d ∈ tables_1, d.before a0 Z = true) : (Jvm.Cond.lays "com/example/slackline/slackline/UsageException" "java/lang/Throwable" "depth" "I").before a0 Z = true := hw _ (List.mem_of_getElem? (i := 219) rfl)
theorem w_221 {Z : State} {a0 : Array Value} (hw : ∀ d ∈ tables_1, d.before a0 Z = true) : (Jvm.Cond.fieldLink "java/lang/Throwable" (31 : Nat) "java/lang/Throwable" "detailMessage" "Ljava/lang/String;").before a0 Z = true := hw _ (List.mem_of_getElem? (i := 221) rfl)
theorem w_222 {Z : State} {a0 : Array Value} (hw : ∀ d ∈ tables_1, d.before a0 Z = true) : (Jvm.Cond.methodLink "com/example/slackline/slackline/UsageExceptionUnrecognizedOptionPinLaw" (19 : Nat) ({ cls := "com/example/slackline/slackline/UsageException", name := "getMessage", desc := "()Ljava/lang/String;" } : Jvm.MethodName)).before a0 Z = true := hw _ (List.mem_of_getElem? (i := 222) rfl)
theorem w_223 {Z : State} {a0 : Array Value} (hw : ∀ d ∈ tables_1, d.before a0 Z = true) : (Jvm.Cond.sameMethod "com/example/slackline/slackline/UsageException" "java/lang/Throwable" "getMessage" "()Ljava/lang/String;").before a0 Z = true := hw _ (List.mem_of_getElem? (i := 223) rfl)
theorem w_224 {Z : State} {a0 : Array Value} (hw : ∀ d ∈ tables_1, d.before a0 Z = true) : (Jvm.Cond.declares ({ cls := "java/lang/Throwable", name := "getMessage", desc := "()Ljava/lang/String;" } : Jvm.MethodName)).before a0 Z = true := hw _ (List.mem_of_getElem? (i := 224) rfl)
theorem w_225 {Z : State} {a0 : Array Value} (hw : ∀ d ∈ tables_1, d.before a0 Z = true) : (Jvm.Cond.instanceMethod ({ cls := "java/lang/Throwable", name := "getMessage", desc := "()Ljava/lang/String;" } : Jvm.MethodName)).before a0 Z = true := hw _ (List.mem_of_getElem? (i := 225) rfl)
theorem w_226 {Z : State} {a0 : Array Value} (hw : ∀ d ∈ tables_1, d.before a0 Z = true) : (Jvm.Cond.selects "com/example/slackline/slackline/UsageException" ({ cls := "com/example/slackline/slackline/UsageException", name := "getMessage", desc := "()Ljava/lang/String;" } : Jvm.MethodName) ({ cls := "java/lang/Throwable", name := "getMessage", desc := "()Ljava/lang/String;" } : Jvm.MethodName)).before a0 Z = true := hw _ (List.mem_of_getElem? (i := 226) rfl)
theorem w_227 {Z : State} {a0 : Array Value} (hw : ∀ d ∈ tables_1, d.before a0 Z = true) : (Jvm.Cond.code ({ cls := "java/lang/Throwable", name := "getMessage", desc := "()Ljava/lang/String;" } : Jvm.MethodName) jdk_78_method_6_code (1 : Nat) (Option.some (Jvm.ClassFile.FieldType.object "java/lang/String"))).before a0 Z = true := hw _ (List.mem_of_getElem? (i := 227) rfl)
theorem w_228 {Z : State} {a0 : Array Value} (hw : ∀ d ∈ tables_1, d.before a0 Z = true) : (Jvm.Cond.methodLink "com/example/slackline/slackline/UsageExceptionUnrecognizedOptionPinLaw" (23 : Nat) ({ cls := "com/example/slackline/slackline/UsageExceptionUnrecognizedOptionPinLaw", name := "expected", desc := "(CCCI)Ljava/lang/String;" } : Jvm.MethodName)).before a0 Z = true := hw _ (List.mem_of_getElem? (i := 228) rfl)
theorem w_229 {Z : State} {a0 : Array Value} (hw : ∀ d ∈ tables_1, d.before a0 Z = true) : (Jvm.Cond.static ({ cls := "com/example/slackline/slackline/UsageExceptionUnrecognizedOptionPinLaw", name := "expected", desc := "(CCCI)Ljava/lang/String;" } : Jvm.MethodName)).before a0 Z = true := hw _ (List.mem_of_getElem? (i := 229) rfl)
theorem w_230 {Z : State} {a0 : Array Value} (hw : ∀ d ∈ tables_1, d.before a0 Z = true) : (Jvm.Cond.code ({ cls := "com/example/slackline/slackline/UsageExceptionUnrecognizedOptionPinLaw", name := "expected", desc := "(CCCI)Ljava/lang/String;" } : Jvm.MethodName) method_4_code (4 : Nat) (Option.some (Jvm.ClassFile.FieldType.object "java/lang/String"))).before a0 Z = true := hw _ (List.mem_of_getElem? (i := 230) rfl)
theorem w_231 {Z : State} {a0 : Array Value} (hw : ∀ d ∈ tables_1, d.before a0 Z = true) : (Jvm.Cond.methodLink "com/example/slackline/slackline/UsageExceptionUnrecognizedOptionPinLaw" (26 : Nat) ({ cls := "java/lang/String", name := "equals", desc := "(Ljava/lang/Object;)Z" } : Jvm.MethodName)).before a0 Z = true := hw _ (List.mem_of_getElem? (i := 231) rfl)
theorem w_232 {Z : State} {a0 : Array Value} (hw : ∀ d ∈ tables_1, d.before a0 Z = true) : (Jvm.Cond.declares ({ cls := "java/lang/String", name := "equals", desc := "(Ljava/lang/Object;)Z" } : Jvm.MethodName)).before a0 Z = true := hw _ (List.mem_of_getElem? (i := 232) rfl)
theorem w_233 {Z : State} {a0 : Array Value} (hw : ∀ d ∈ tables_1, d.before a0 Z = true) : (Jvm.Cond.instanceMethod ({ cls := "java/lang/String", name := "equals", desc := "(Ljava/lang/Object;)Z" } : Jvm.MethodName)).before a0 Z = true := hw _ (List.mem_of_getElem? (i := 233) rfl)
theorem w_234 {Z : State} {a0 : Array Value} (hw : ∀ d ∈ tables_1, d.before a0 Z = true) : (Jvm.Cond.selects "java/lang/String" ({ cls := "java/lang/String", name := "equals", desc := "(Ljava/lang/Object;)Z" } : Jvm.MethodName) ({ cls := "java/lang/String", name := "equals", desc := "(Ljava/lang/Object;)Z" } : Jvm.MethodName)).before a0 Z = true := hw _ (List.mem_of_getElem? (i := 234) rfl)
theorem w_235 {Z : State} {a0 : Array Value} (hw : ∀ d ∈ tables_1, d.before a0 Z = true) : (Jvm.Cond.code ({ cls := "java/lang/String", name := "equals", desc := "(Ljava/lang/Object;)Z" } : Jvm.MethodName) jdk_42_method_66_code (3 : Nat) (Option.some Jvm.ClassFile.FieldType.boolean)).before a0 Z = true := hw _ (List.mem_of_getElem? (i := 235) rfl)
theorem w_236 {Z : State} {a0 : Array Value} (hw : ∀ d ∈ tables_1, d.before a0 Z = true) : (Jvm.Cond.classLink "java/lang/String" (10 : Nat) "java/lang/String").before a0 Z = true := hw _ (List.mem_of_getElem? (i := 236) rfl)
theorem w_237 {Z : State} {a0 : Array Value} (hw : ∀ d ∈ tables_1, d.before a0 Z = true) : (Jvm.Cond.methodLink "java/lang/String" (541 : Nat) ({ cls := "java/lang/StringLatin1", name := "equals", desc := "([B[B)Z" } : Jvm.MethodName)).before a0 Z = true := hw _ (List.mem_of_getElem? (i := 237) rfl)
theorem w_238 {Z : State} {a0 : Array Value} (hw : ∀ d ∈ tables_1, d.before a0 Z = true) : (Jvm.Cond.static ({ cls := "java/lang/StringLatin1", name := "equals", desc := "([B[B)Z" } : Jvm.MethodName)).before a0 Z = true := hw _ (List.mem_of_getElem? (i := 238) rfl)
theorem w_239 {Z : State} {a0 : Array Value} (hw : ∀ d ∈ tables_1, d.before a0 Z = true) : (Jvm.Cond.initialized "java/lang/StringLatin1").before a0 Z = true := hw _ (List.mem_of_getElem? (i := 239) rfl)
theorem w_240 {Z : State} {a0 : Array Value} (hw : ∀ d ∈ tables_1, d.before a0 Z = true) : (Jvm.Cond.code ({ cls := "java/lang/StringLatin1", name := "equals", desc := "([B[B)Z" } : Jvm.MethodName) jdk_43_method_13_code (3 : Nat) (Option.some Jvm.ClassFile.FieldType.boolean)).before a0 Z = true := hw _ (List.mem_of_getElem? (i := 240) rfl)
theorem w_241 {Z : State} {a0 : Array Value} (hw : ∀ d ∈ tables_1, d.before a0 Z = true) : (Jvm.Cond.stringLink "java/lang/String" (7 : Nat) "").before a0 Z = true := hw _ (List.mem_of_getElem? (i := 241) rfl)
theorem sA {Z : State} {a0 : Array Value} (hw : ∀ d ∈ tables_1, d.before a0 Z = true) : ∀ a ∈ Bundle.stringAtoms, a.before a0 Z = true := fun a ha => by
  simp only [Bundle.stringAtoms, List.mem_cons, List.not_mem_nil, or_false] at ha
  rcases ha with rfl | rfl | rfl | rfl | rfl | rfl | rfl
  · exact w_6 hw
  · exact w_5 hw
  · exact w_23 hw
  · exact w_33 hw
  · exact w_31 hw
  · exact w_59 hw
  · exact w_60 hw
abbrev R_m_asb : Room := { frames := 1, cells := 1, slots := 16, locals := 12 }
theorem pn_m_asb : plainFor (⟨"java/lang/AbstractStringBuilder", "<init>", "(I)V"⟩ : MethodName) = true := by first | (refine plainFor_of_name ?_; simp [plainName, overriddenIn]; done) | decide +kernel
abbrev Q_m_asb (Z : State) (a : Addr) (h0 : Heap) : Option Value → Heap → List Addr → Prop := fun res h' SN => ∃ (v : Addr) (kv : ClassId), res = none ∧ SN = [v] ∧ Exa Z h' a "java/lang/StringBuilder" ∧ Fld Z h' a "java/lang/AbstractStringBuilder" "value" "[B" (.ref v) ∧ Fld Z h' a "java/lang/AbstractStringBuilder" "coder" "B" (.int (0 : Int32)) ∧ Fld Z h' a "java/lang/AbstractStringBuilder" "count" "I" (.int (0 : Int32)) ∧ h0.size ≤ v ∧ Arv Z h' v kv .byte (16 : Int32) (([] : List Int32).map Value.int) (.int (0 : Int32))
theorem ef_m_asb (mid : MethodId) (a : Addr) : entryFrame mid #[(.ref a), (.int (16 : Int32))] 2 = mkF mid 0 #[.val (.ref a), .val (.int (16 : Int32))] [] := by first | (simp [entryFrame, mkF, argsToLocals, Value.category]; done) | rfl
set_option maxRecDepth 65536 in
set_option maxHeartbeats 40000000 in
theorem m_asb {l : Launch} {Z : State} {a0 : Array Value} {n0 : Nat} (hw : ∀ d ∈ tables_1, d.before a0 Z = true) (hs : Stat Z) (a : Addr) (h0 : Heap) (E_a : Exa Z h0 a "java/lang/StringBuilder") (F_a_value : Fld Z h0 a "java/lang/AbstractStringBuilder" "value" "[B" .null) (F_a_coder : Fld Z h0 a "java/lang/AbstractStringBuilder" "coder" "B" (.int (0 : Int32))) (F_a_count : Fld Z h0 a "java/lang/AbstractStringBuilder" "count" "I" (.int (0 : Int32))) :
    Met l Z EL0 n0 NR0 KN0 N_0 jdk_68_method_2_code 2 (Option.none : Option Jvm.ClassFile.FieldType) R_m_asb [a] #[(.ref a), (.int (16 : Int32))] h0 (Q_m_asb Z a h0) := by
  refine Met.of_go pn_m_asb (fun mid => ef_m_asb mid a ) ?_
  intro hO hWS
  obtain ⟨zc, S_c, hzc⟩ := hs_c hs
  refine Go.aload_n (pc' := 1) d_jdk_68_method_2_0 rfl rfl rfl ?_
  refine Go.initO (pc' := 4) (W := 0) d_jdk_68_method_2_1 rfl (w_52 hw) (w_16 hw) (w_17 hw) rfl (by decide) (Nat.le_of_eq rfl) (by decide) ?_
  refine Go.getS (pc' := 7) d_jdk_68_method_2_4 rfl (host := "") (Or.inl (w_53 hw)) Via.refl S_c ?_
  refine Go.ifN (pc' := 10) d_jdk_68_method_2_7 rfl ((if0 _ _).trans (feq (hzc : ¬ (zc = (0 : Int32)))).1) ?_
  refine Go.aload_n (pc' := 11) d_jdk_68_method_2_10 rfl rfl rfl ?_
  refine Go.iload_n (pc' := 12) d_jdk_68_method_2_11 rfl rfl ?_
  refine Go.newP (pc' := 14) (cap := 16) (ad := "[B") d_jdk_68_method_2_12 rfl (w_23 hw) (by decide) (by decide) (by decide) (by decide) (by decide) (by decide) ?_
  intro h1 b2 g3 ge_b2 q5 x4 V_b2 E_b2
  have o_a_b2 : a ≠ b2 := Nat.ne_of_lt (Nat.lt_of_lt_of_le E_a.lt (Nat.le_of_eq g3))
  replace E_a := E_a.ext x4
  replace F_a_value := F_a_value.ext x4
  replace F_a_coder := F_a_coder.ext x4
  replace F_a_count := F_a_count.ext x4
  replace V_b2 : Arv Z h1 b2 q5 .byte (16 : Int32) [] (.int (0 : Int32)) := V_b2
  change Go _ _ _ _ _ _ _ _ _ _ _ _ _ _ [b2, a] h1 1 16 14 #[.val (.ref a), .val (.int (16 : Int32))] [(.ref b2), (.ref a)]
  replace V_b2 : Arv Z h1 b2 q5 .byte (16 : Int32) (([] : List Int32).map Value.int) (.int (0 : Int32)) := V_b2
  refine Go.putF (pc' := 17) d_jdk_68_method_2_14 rfl (List.mem_of_getElem? (i := 1) rfl) (host := "") (Or.inl (w_54 hw)) Via.refl F_a_value E_a (Or.inl (w_55 hw)) (w_41 hw) (ty := (.array .byte)) (by decide) rfl rfl ?_
  intro h6 W7
  replace F_a_value := F_a_value.same W7
  replace E_a := E_a.wr W7
  replace F_a_coder := F_a_coder.other W7 (Or.inr (slot_ne (Or.inl (w_57 hw)) (Or.inl (w_55 hw)) (by decide) (t := .byte) (t' := (.array .byte)) (by decide) (by decide)))
  replace F_a_count := F_a_count.other W7 (Or.inr (slot_ne (Or.inl (w_82 hw)) (Or.inl (w_55 hw)) (by decide) (t := .int) (t' := (.array .byte)) (by decide) (by decide)))
  replace V_b2 := V_b2.other W7 (Ne.symm o_a_b2)
  replace E_b2 := E_b2.wr W7
  change Go _ _ _ _ _ _ _ _ _ _ _ _ _ _ [b2, a] h6 1 16 17 #[.val (.ref a), .val (.int (16 : Int32))] []
  refine Go.aload_n (pc' := 18) d_jdk_68_method_2_17 rfl rfl rfl ?_
  refine Go.iconst (pc' := 19) d_jdk_68_method_2_18 rfl ic_0 ?_
  refine Go.putFN (pc' := 22) (v' := (.int (0 : Int32))) d_jdk_68_method_2_19 rfl (List.mem_of_getElem? (i := 1) rfl) (w_56 hw) Via.refl F_a_coder E_a (Or.inl (w_57 hw)) (w_41 hw) (ty := .byte) (by decide) rfl rfl ?_
  intro h8 W9
  replace F_a_coder := F_a_coder.same W9
  replace E_a := E_a.wr W9
  replace F_a_count := F_a_count.other W9 (Or.inr (slot_ne (Or.inl (w_82 hw)) (Or.inl (w_57 hw)) (by decide) (t := .int) (t' := .byte) (by decide) (by decide)))
  replace V_b2 := V_b2.other W9 (Ne.symm o_a_b2)
  replace E_b2 := E_b2.wr W9
  replace F_a_value := F_a_value.other W9 (Or.inr (slot_ne (Or.inl (w_55 hw)) (Or.inl (w_57 hw)) (by decide) (t := (.array .byte)) (t' := .byte) (by decide) (by decide)))
  change Go _ _ _ _ _ _ _ _ _ _ _ _ _ _ [b2, a] h8 1 16 22 #[.val (.ref a), .val (.int (16 : Int32))] []
  refine Go.goto (pc' := 38) d_jdk_68_method_2_22 (by decide) (by decide) ?_
  exact Go.retV d_jdk_68_method_2_38 rfl (by decide) (by decide) [b2] (snS ⟨(List.mem_of_getElem? (i := 0) rfl), ge_b2⟩ sn0) ⟨b2, _, rfl, rfl, E_a, F_a_value, F_a_coder, F_a_count, ge_b2, V_b2⟩
abbrev R_m_sb : Room := { frames := 2, cells := 1, slots := 16, locals := 25 }
theorem pn_m_sb : plainFor (⟨"java/lang/StringBuilder", "<init>", "()V"⟩ : MethodName) = true := by first | (refine plainFor_of_name ?_; simp [plainName, overriddenIn]; done) | decide +kernel
abbrev Q_m_sb (Z : State) (a : Addr) (h0 : Heap) : Option Value → Heap → List Addr → Prop := fun res h' SN => ∃ (v : Addr) (kv : ClassId), res = none ∧ SN = [v] ∧ Exa Z h' a "java/lang/StringBuilder" ∧ Fld Z h' a "java/lang/AbstractStringBuilder" "value" "[B" (.ref v) ∧ Fld Z h' a "java/lang/AbstractStringBuilder" "coder" "B" (.int (0 : Int32)) ∧ Fld Z h' a "java/lang/AbstractStringBuilder" "count" "I" (.int (0 : Int32)) ∧ h0.size ≤ v ∧ Arv Z h' v kv .byte (16 : Int32) (([] : List Int32).map Value.int) (.int (0 : Int32))
theorem ef_m_sb (mid : MethodId) (a : Addr) : entryFrame mid #[(.ref a)] 1 = mkF mid 0 #[.val (.ref a)] [] := by first | (simp [entryFrame, mkF, argsToLocals, Value.category]; done) | rfl
set_option maxRecDepth 65536 in
set_option maxHeartbeats 40000000 in
theorem m_sb {l : Launch} {Z : State} {a0 : Array Value} {n0 : Nat} (hw : ∀ d ∈ tables_1, d.before a0 Z = true) (hs : Stat Z) (a : Addr) (h0 : Heap) (E_a : Exa Z h0 a "java/lang/StringBuilder") (F_a_value : Fld Z h0 a "java/lang/AbstractStringBuilder" "value" "[B" .null) (F_a_coder : Fld Z h0 a "java/lang/AbstractStringBuilder" "coder" "B" (.int (0 : Int32))) (F_a_count : Fld Z h0 a "java/lang/AbstractStringBuilder" "count" "I" (.int (0 : Int32))) :
    Met l Z EL0 n0 NR0 KN0 N_1 jdk_67_method_1_code 1 (Option.none : Option Jvm.ClassFile.FieldType) R_m_sb [a] #[(.ref a)] h0 (Q_m_sb Z a h0) := by
  refine Met.of_go pn_m_sb (fun mid => ef_m_sb mid a ) ?_
  intro hO hWS
  refine Go.aload_n (pc' := 1) d_jdk_67_method_1_0 rfl rfl rfl ?_
  refine Go.bipush (pc' := 3) d_jdk_67_method_1_1 rfl icb_16 ?_
  refine Go.callI (pc' := 6) (z := N_0) (a := a) d_jdk_67_method_1_3 rfl rfl (w_46 hw) (w_47 hw) (w_51 hw) (by decide) (argsL := [(.int (16 : Int32))]) (rest := []) (Pays.of_met (W := 0) (len := 3) (m_asb hw hs a h0 E_a F_a_value F_a_coder F_a_count) (w_51 hw) (w_50 hw) (by decide) (by decide)) rfl rfl (lenOf pd_0 rfl) rfl (Nat.le_of_eq rfl) (memS (List.mem_of_getElem? (i := 0) rfl) mem0) (by decide) (by decide) ?_
  rintro _ h12 _ K13 le14 ⟨b10, q11, rfl, rfl, p15, p16, p17, p18, p19, p20⟩
  have o_a_b10 : a ≠ b10 := Nat.ne_of_lt (Nat.lt_of_lt_of_le E_a.lt p19)
  have ge_b10 := Nat.le_trans le14 p19
  replace E_a := E_a.keep K13
  have F_a_value := p16
  have F_a_coder := p17
  have F_a_count := p18
  have V_b10 := p20
  change Go _ _ _ _ _ _ _ _ _ _ _ _ _ _ [b10, a] h12 1 16 6 #[.val (.ref a)] []
  exact Go.retV d_jdk_67_method_1_6 rfl (by decide) (by decide) [b10] (snS ⟨(List.mem_of_getElem? (i := 0) rfl), ge_b10⟩ sn0) ⟨b10, _, rfl, rfl, E_a, F_a_value, F_a_coder, F_a_count, ge_b10, V_b10⟩
abbrev R_m_max : Room := { frames := 0, cells := 0, slots := 0, locals := 0 }
theorem pn_m_max : plainFor (⟨"java/lang/Math", "max", "(II)I"⟩ : MethodName) = true := by first | (refine plainFor_of_name ?_; simp [plainName, overriddenIn]; done) | decide +kernel
abbrev Q_m_max (Z : State) (x : Int32) (z : Int32) (h0 : Heap) : Option Value → Heap → List Addr → Prop := fun res h' SN => res = some (.int (if x < z then z else x)) ∧ SN = [] ∧ h0 = h'
theorem ef_m_max (mid : MethodId) (x : Int32) (z : Int32) : entryFrame mid #[(.int x), (.int z)] 2 = mkF mid 0 #[.val (.int x), .val (.int z)] [] := by first | (simp [entryFrame, mkF, argsToLocals, Value.category]; done) | rfl
set_option maxRecDepth 65536 in
set_option maxHeartbeats 40000000 in
theorem m_max {l : Launch} {Z : State} {a0 : Array Value} {n0 : Nat} (hw : ∀ d ∈ tables_1, d.before a0 Z = true) (hs : Stat Z) (x : Int32) (z : Int32) (h0 : Heap) :
    Met l Z EL0 n0 NR0 KN0 N_2 jdk_29_method_65_code 2 (Option.some Jvm.ClassFile.FieldType.int) R_m_max [] #[(.int x), (.int z)] h0 (Q_m_max Z x z h0) := by
  refine Met.of_go pn_m_max (fun mid => ef_m_max mid x z ) ?_
  intro hO hWS
  refine Go.iload_n (pc' := 1) d_jdk_29_method_65_0 rfl rfl ?_
  refine Go.iload_n (pc' := 2) d_jdk_29_method_65_1 rfl rfl ?_
  by_cases h1 : x < z
  · skip
    refine Go.icmpY (pc' := 9) d_jdk_29_method_65_2 (by decide) (by decide) (tlt (h1 : x < z)).1 ?_
    refine Go.iload_n (pc' := 10) d_jdk_29_method_65_9 rfl rfl ?_
    exact Go.retI d_jdk_29_method_65_10 rfl (by decide) (by decide) [] sn0 ⟨by rw [if_pos h1], rfl, rfl⟩
  · skip
    refine Go.icmpN (pc' := 5) d_jdk_29_method_65_2 rfl (flt (h1 : ¬ (x < z))).1 ?_
    refine Go.iload_n (pc' := 6) d_jdk_29_method_65_5 rfl rfl ?_
    refine Go.goto (pc' := 10) d_jdk_29_method_65_6 (by decide) (by decide) ?_
    exact Go.retI d_jdk_29_method_65_10 rfl (by decide) (by decide) [] sn0 ⟨by rw [if_neg h1], rfl, rfl⟩
abbrev R_m_min : Room := { frames := 0, cells := 0, slots := 0, locals := 0 }
theorem pn_m_min : plainFor (⟨"java/lang/Math", "min", "(II)I"⟩ : MethodName) = true := by first | (refine plainFor_of_name ?_; simp [plainName, overriddenIn]; done) | decide +kernel
abbrev Q_m_min (Z : State) (x : Int32) (z : Int32) (h0 : Heap) : Option Value → Heap → List Addr → Prop := fun res h' SN => res = some (.int (if z < x then z else x)) ∧ SN = [] ∧ h0 = h'
theorem ef_m_min (mid : MethodId) (x : Int32) (z : Int32) : entryFrame mid #[(.int x), (.int z)] 2 = mkF mid 0 #[.val (.int x), .val (.int z)] [] := by first | (simp [entryFrame, mkF, argsToLocals, Value.category]; done) | rfl
set_option maxRecDepth 65536 in
set_option maxHeartbeats 40000000 in
theorem m_min {l : Launch} {Z : State} {a0 : Array Value} {n0 : Nat} (hw : ∀ d ∈ tables_1, d.before a0 Z = true) (hs : Stat Z) (x : Int32) (z : Int32) (h0 : Heap) :
    Met l Z EL0 n0 NR0 KN0 N_3 jdk_29_method_69_code 2 (Option.some Jvm.ClassFile.FieldType.int) R_m_min [] #[(.int x), (.int z)] h0 (Q_m_min Z x z h0) := by
  refine Met.of_go pn_m_min (fun mid => ef_m_min mid x z ) ?_
  intro hO hWS
  refine Go.iload_n (pc' := 1) d_jdk_29_method_69_0 rfl rfl ?_
  refine Go.iload_n (pc' := 2) d_jdk_29_method_69_1 rfl rfl ?_
  by_cases h1 : z < x
  · skip
    refine Go.icmpY (pc' := 9) d_jdk_29_method_69_2 (by decide) (by decide) (tlt (h1 : z < x)).2.2.1 ?_
    refine Go.iload_n (pc' := 10) d_jdk_29_method_69_9 rfl rfl ?_
    exact Go.retI d_jdk_29_method_69_10 rfl (by decide) (by decide) [] sn0 ⟨by rw [if_pos h1], rfl, rfl⟩
  · skip
    refine Go.icmpN (pc' := 5) d_jdk_29_method_69_2 rfl (flt (h1 : ¬ (z < x))).2.2.1 ?_
    refine Go.iload_n (pc' := 6) d_jdk_29_method_69_5 rfl rfl ?_
    refine Go.goto (pc' := 10) d_jdk_29_method_69_6 (by decide) (by decide) ?_
    exact Go.retI d_jdk_29_method_69_10 rfl (by decide) (by decide) [] sn0 ⟨by rw [if_neg h1], rfl, rfl⟩
abbrev R_m_ec0 : Room := { frames := 0, cells := 0, slots := 0, locals := 0 }
theorem pn_m_ec0 : plainFor (⟨"java/lang/AbstractStringBuilder", "ensureCapacityInternal", "(I)V"⟩ : MethodName) = true := by first | (refine plainFor_of_name ?_; simp [plainName, overriddenIn]; done) | decide +kernel
abbrev Q_m_ec0 (Z : State) (a : Addr) (v : Addr) (kv : ClassId) (us : List Int32) (m : Int32) (h0 : Heap) : Option Value → Heap → List Addr → Prop := fun res h' SN => res = none ∧ SN = [] ∧ h0 = h'
theorem ef_m_ec0 (mid : MethodId) (a : Addr) (v : Addr) (kv : ClassId) (us : List Int32) (m : Int32) : entryFrame mid #[(.ref a), (.int m)] 3 = mkF mid 0 #[.val (.ref a), .val (.int m), .unset] [] := by first | (simp [entryFrame, mkF, argsToLocals, Value.category]; done) | rfl
set_option maxRecDepth 65536 in
set_option maxHeartbeats 40000000 in
theorem m_ec0 {l : Launch} {Z : State} {a0 : Array Value} {n0 : Nat} (hw : ∀ d ∈ tables_1, d.before a0 Z = true) (hs : Stat Z) (a : Addr) (v : Addr) (kv : ClassId) (us : List Int32) (m : Int32) (h0 : Heap) (F_a_value : Fld Z h0 a "java/lang/AbstractStringBuilder" "value" "[B" (.ref v)) (F_a_coder : Fld Z h0 a "java/lang/AbstractStringBuilder" "coder" "B" (.int (0 : Int32))) (V_v : Arv Z h0 v kv .byte (34 : Int32) (us.map Value.int) (.int (0 : Int32))) (hm : ¬ ((0 : Int32) < (m - (34 : Int32)))) :
    Met l Z EL0 n0 NR0 KN0 N_4 jdk_68_method_9_code 3 (Option.none : Option Jvm.ClassFile.FieldType) R_m_ec0 [] #[(.ref a), (.int m)] h0 (Q_m_ec0 Z a v kv us m h0) := by
  refine Met.of_go pn_m_ec0 (fun mid => ef_m_ec0 mid a v kv us m ) ?_
  intro hO hWS
  refine Go.aload_n (pc' := 1) d_jdk_68_method_9_0 rfl rfl rfl ?_
  refine Go.getF (pc' := 4) d_jdk_68_method_9_1 rfl (host := "") (Or.inl (w_54 hw)) Via.refl F_a_value ?_
  refine Go.lenV (pc' := 5) d_jdk_68_method_9_4 rfl V_v ?_
  refine Go.aload_n (pc' := 6) d_jdk_68_method_9_5 rfl rfl rfl ?_
  refine Go.getF (pc' := 9) d_jdk_68_method_9_6 rfl (host := "") (Or.inl (w_56 hw)) Via.refl F_a_coder ?_
  refine Go.ishr (pc' := 10) d_jdk_68_method_9_9 rfl ?_
  rw [show ((34 : Int32) >>> ((0 : Int32) &&& 31)) = (34 : Int32) from by decide]
  refine Go.istore_n (pc' := 11) (Ls' := #[.val (.ref a), .val (.int m), .val (.int (34 : Int32))]) d_jdk_68_method_9_10 rfl rfl ?_
  refine Go.iload_n (pc' := 12) d_jdk_68_method_9_11 rfl rfl ?_
  refine Go.iload_n (pc' := 13) d_jdk_68_method_9_12 rfl rfl ?_
  refine Go.isub (pc' := 14) d_jdk_68_method_9_13 rfl ?_
  refine Go.ifY (pc' := 38) d_jdk_68_method_9_14 (by decide) (by decide) ((if0 _ _).trans (flt (hm : ¬ ((0 : Int32) < (m - (34 : Int32))))).2.2.2) ?_
  exact Go.retV d_jdk_68_method_9_38 rfl (by decide) (by decide) [] sn0 ⟨rfl, rfl, rfl⟩
abbrev R_m_nl : Room := { frames := 1, cells := 0, slots := 0, locals := 14 }
theorem pn_m_nl : plainFor (⟨"jdk/internal/util/ArraysSupport", "newLength", "(III)I"⟩ : MethodName) = true := by first | (refine plainFor_of_name ?_; simp [plainName, overriddenIn]; done) | decide +kernel
abbrev Q_m_nl (Z : State)  (h0 : Heap) : Option Value → Heap → List Addr → Prop := fun res h' SN => res = some (.int (34 : Int32)) ∧ SN = [] ∧ h0 = h'
theorem ef_m_nl (mid : MethodId)  : entryFrame mid #[(.int (16 : Int32)), (.int (5 : Int32)), (.int (18 : Int32))] 4 = mkF mid 0 #[.val (.int (16 : Int32)), .val (.int (5 : Int32)), .val (.int (18 : Int32)), .unset] [] := by first | (simp [entryFrame, mkF, argsToLocals, Value.category]; done) | rfl
set_option maxRecDepth 65536 in
set_option maxHeartbeats 40000000 in
theorem m_nl {l : Launch} {Z : State} {a0 : Array Value} {n0 : Nat} (hw : ∀ d ∈ tables_1, d.before a0 Z = true) (hs : Stat Z) (h0 : Heap) :
    Met l Z EL0 n0 NR0 KN0 N_5 jdk_48_method_27_code 4 (Option.some Jvm.ClassFile.FieldType.int) R_m_nl [] #[(.int (16 : Int32)), (.int (5 : Int32)), (.int (18 : Int32))] h0 (Q_m_nl Z  h0) := by
  refine Met.of_go pn_m_nl (fun mid => ef_m_nl mid  ) ?_
  intro hO hWS
  refine Go.iload_n (pc' := 1) d_jdk_48_method_27_0 rfl rfl ?_
  refine Go.iload_n (pc' := 2) d_jdk_48_method_27_1 rfl rfl ?_
  refine Go.iload_n (pc' := 3) d_jdk_48_method_27_2 rfl rfl ?_
  refine Go.callS (pc' := 6) (z := N_2) d_jdk_48_method_27_3 rfl (w_97 hw) (w_98 hw) (w_99 hw) (w_100 hw) (by decide) (argsL := [(.int (5 : Int32)), (.int (18 : Int32))]) (rest := [(.int (16 : Int32))]) (Pays.of_met (W := 1) (len := 3) (m_max hw hs (5 : Int32) (18 : Int32) h0) (w_100 hw) (w_99 hw) (by decide) (by decide)) rfl rfl (lenOf pd_1 rfl) rfl (Nat.le_of_eq rfl) mem0 (by decide) (by decide) ?_
  rintro _ _ _ - - ⟨rfl, rfl, rfl⟩
  change Go _ _ _ _ _ _ _ _ _ _ _ _ _ _ [] h0 0 0 6 #[.val (.int (16 : Int32)), .val (.int (5 : Int32)), .val (.int (18 : Int32)), .unset] [(.int (if (5 : Int32) < (18 : Int32) then (18 : Int32) else (5 : Int32))), (.int (16 : Int32))]
  rw [show (if (5 : Int32) < (18 : Int32) then (18 : Int32) else (5 : Int32)) = (18 : Int32) from by decide]
  refine Go.iadd (pc' := 7) d_jdk_48_method_27_6 rfl ?_
  rw [show ((16 : Int32) + (18 : Int32)) = (34 : Int32) from by decide]
  refine Go.istore_n (pc' := 8) (Ls' := #[.val (.int (16 : Int32)), .val (.int (5 : Int32)), .val (.int (18 : Int32)), .val (.int (34 : Int32))]) d_jdk_48_method_27_7 rfl rfl ?_
  refine Go.iconst (pc' := 9) d_jdk_48_method_27_8 rfl ic_0 ?_
  refine Go.iload_n (pc' := 10) d_jdk_48_method_27_9 rfl rfl ?_
  refine Go.icmpN (pc' := 13) d_jdk_48_method_27_10 rfl (tlt (by decide : (0 : Int32) < (34 : Int32))).2.1 ?_
  refine Go.iload_n (pc' := 14) d_jdk_48_method_27_13 rfl rfl ?_
  refine Go.ldcInt (pc' := 16) d_jdk_48_method_27_14 rfl (w_101 hw) ?_
  refine Go.icmpN (pc' := 19) d_jdk_48_method_27_16 rfl (flt (by decide : ¬ ((2147483639 : Int32) < (34 : Int32)))).2.2.1 ?_
  refine Go.iload_n (pc' := 20) d_jdk_48_method_27_19 rfl rfl ?_
  exact Go.retI d_jdk_48_method_27_20 rfl (by decide) (by decide) [] sn0 ⟨rfl, rfl, rfl⟩
abbrev R_m_nc : Room := { frames := 2, cells := 0, slots := 0, locals := 29 }
theorem pn_m_nc : plainFor (⟨"java/lang/AbstractStringBuilder", "newCapacity", "(I)I"⟩ : MethodName) = true := by first | (refine plainFor_of_name ?_; simp [plainName, overriddenIn]; done) | decide +kernel
abbrev Q_m_nc (Z : State) (a : Addr) (v : Addr) (kv : ClassId) (us : List Int32) (h0 : Heap) : Option Value → Heap → List Addr → Prop := fun res h' SN => res = some (.int (34 : Int32)) ∧ SN = [] ∧ h0 = h'
theorem ef_m_nc (mid : MethodId) (a : Addr) (v : Addr) (kv : ClassId) (us : List Int32) : entryFrame mid #[(.ref a), (.int (21 : Int32))] 6 = mkF mid 0 #[.val (.ref a), .val (.int (21 : Int32)), .unset, .unset, .unset, .unset] [] := by first | (simp [entryFrame, mkF, argsToLocals, Value.category]; done) | rfl
set_option maxRecDepth 65536 in
set_option maxHeartbeats 40000000 in
theorem m_nc {l : Launch} {Z : State} {a0 : Array Value} {n0 : Nat} (hw : ∀ d ∈ tables_1, d.before a0 Z = true) (hs : Stat Z) (a : Addr) (v : Addr) (kv : ClassId) (us : List Int32) (h0 : Heap) (F_a_value : Fld Z h0 a "java/lang/AbstractStringBuilder" "value" "[B" (.ref v)) (F_a_coder : Fld Z h0 a "java/lang/AbstractStringBuilder" "coder" "B" (.int (0 : Int32))) (V_v : Arv Z h0 v kv .byte (16 : Int32) (us.map Value.int) (.int (0 : Int32))) :
    Met l Z EL0 n0 NR0 KN0 N_6 jdk_68_method_10_code 6 (Option.some Jvm.ClassFile.FieldType.int) R_m_nc [] #[(.ref a), (.int (21 : Int32))] h0 (Q_m_nc Z a v kv us h0) := by
  refine Met.of_go pn_m_nc (fun mid => ef_m_nc mid a v kv us ) ?_
  intro hO hWS
  refine Go.aload_n (pc' := 1) d_jdk_68_method_10_0 rfl rfl rfl ?_
  refine Go.getF (pc' := 4) d_jdk_68_method_10_1 rfl (host := "") (Or.inl (w_54 hw)) Via.refl F_a_value ?_
  refine Go.lenV (pc' := 5) d_jdk_68_method_10_4 rfl V_v ?_
  refine Go.istore_n (pc' := 6) (Ls' := #[.val (.ref a), .val (.int (21 : Int32)), .val (.int (16 : Int32)), .unset, .unset, .unset]) d_jdk_68_method_10_5 rfl rfl ?_
  refine Go.iload_n (pc' := 7) d_jdk_68_method_10_6 rfl rfl ?_
  refine Go.aload_n (pc' := 8) d_jdk_68_method_10_7 rfl rfl rfl ?_
  refine Go.getF (pc' := 11) d_jdk_68_method_10_8 rfl (host := "") (Or.inl (w_56 hw)) Via.refl F_a_coder ?_
  refine Go.ishl (pc' := 12) d_jdk_68_method_10_11 rfl ?_
  rw [show ((21 : Int32) <<< ((0 : Int32) &&& 31)) = (21 : Int32) from by decide]
  refine Go.istore_n (pc' := 13) (Ls' := #[.val (.ref a), .val (.int (21 : Int32)), .val (.int (16 : Int32)), .val (.int (21 : Int32)), .unset, .unset]) d_jdk_68_method_10_12 rfl rfl ?_
  refine Go.iload_n (pc' := 14) d_jdk_68_method_10_13 rfl rfl ?_
  refine Go.iload_n (pc' := 15) d_jdk_68_method_10_14 rfl rfl ?_
  refine Go.isub (pc' := 16) d_jdk_68_method_10_15 rfl ?_
  rw [show ((21 : Int32) - (16 : Int32)) = (5 : Int32) from by decide]
  refine Go.istore (pc' := 18) (Ls' := #[.val (.ref a), .val (.int (21 : Int32)), .val (.int (16 : Int32)), .val (.int (21 : Int32)), .val (.int (5 : Int32)), .unset]) d_jdk_68_method_10_16 rfl rfl ?_
  refine Go.iload_n (pc' := 19) d_jdk_68_method_10_18 rfl rfl ?_
  refine Go.iload (pc' := 21) d_jdk_68_method_10_19 rfl rfl ?_
  refine Go.iload_n (pc' := 22) d_jdk_68_method_10_21 rfl rfl ?_
  refine Go.iconst (pc' := 23) d_jdk_68_method_10_22 rfl ic_2 ?_
  refine Go.aload_n (pc' := 24) d_jdk_68_method_10_23 rfl rfl rfl ?_
  refine Go.getF (pc' := 27) d_jdk_68_method_10_24 rfl (host := "") (Or.inl (w_56 hw)) Via.refl F_a_coder ?_
  refine Go.ishl (pc' := 28) d_jdk_68_method_10_27 rfl ?_
  rw [show ((2 : Int32) <<< ((0 : Int32) &&& 31)) = (2 : Int32) from by decide]
  refine Go.iadd (pc' := 29) d_jdk_68_method_10_28 rfl ?_
  rw [show ((16 : Int32) + (2 : Int32)) = (18 : Int32) from by decide]
  refine Go.callS (pc' := 32) (z := N_5) d_jdk_68_method_10_29 rfl (w_93 hw) (w_94 hw) (w_95 hw) (w_96 hw) (by decide) (argsL := [(.int (16 : Int32)), (.int (5 : Int32)), (.int (18 : Int32))]) (rest := []) (Pays.of_met (W := 0) (len := 3) (m_nl hw hs  h0) (w_96 hw) (w_95 hw) (by decide) (by decide)) rfl rfl (lenOf pd_2 rfl) rfl (Nat.le_of_eq rfl) mem0 (by decide) (by decide) ?_
  rintro _ _ _ - - ⟨rfl, rfl, rfl⟩
  change Go _ _ _ _ _ _ _ _ _ _ _ _ _ _ [] h0 0 0 32 #[.val (.ref a), .val (.int (21 : Int32)), .val (.int (16 : Int32)), .val (.int (21 : Int32)), .val (.int (5 : Int32)), .unset] [(.int (34 : Int32))]
  refine Go.istore (pc' := 34) (Ls' := #[.val (.ref a), .val (.int (21 : Int32)), .val (.int (16 : Int32)), .val (.int (21 : Int32)), .val (.int (5 : Int32)), .val (.int (34 : Int32))]) d_jdk_68_method_10_32 rfl rfl ?_
  refine Go.iload (pc' := 36) d_jdk_68_method_10_34 rfl rfl ?_
  refine Go.ldcInt (pc' := 38) d_jdk_68_method_10_36 rfl (w_102 hw) ?_
  refine Go.icmpY (pc' := 51) d_jdk_68_method_10_38 (by decide) (by decide) (feq (by decide : ¬ ((34 : Int32) = (2147483647 : Int32)))).2 ?_
  refine Go.iload (pc' := 53) d_jdk_68_method_10_51 rfl rfl ?_
  refine Go.aload_n (pc' := 54) d_jdk_68_method_10_53 rfl rfl rfl ?_
  refine Go.getF (pc' := 57) d_jdk_68_method_10_54 rfl (host := "") (Or.inl (w_56 hw)) Via.refl F_a_coder ?_
  refine Go.ishr (pc' := 58) d_jdk_68_method_10_57 rfl ?_
  rw [show ((34 : Int32) >>> ((0 : Int32) &&& 31)) = (34 : Int32) from by decide]
  exact Go.retI d_jdk_68_method_10_58 rfl (by decide) (by decide) [] sn0 ⟨rfl, rfl, rfl⟩
abbrev R_m_cpb : Room := { frames := 1, cells := 1, slots := 34, locals := 24 }
theorem pn_m_cpb : plainFor (⟨"java/util/Arrays", "copyOf", "([BI)[B"⟩ : MethodName) = true := by first | (refine plainFor_of_name ?_; simp [plainName, overriddenIn]; done) | decide +kernel
abbrev Q_m_cpb (Z : State) (v : Addr) (kv : ClassId) (h0 : Heap) : Option Value → Heap → List Addr → Prop := fun res h' SN => ∃ (nb : Addr) (kb : ClassId), res = some (.ref nb) ∧ SN = [nb] ∧ h0.size ≤ nb ∧ Arv Z h' nb kb .byte (34 : Int32) (([] : List Int32).map Value.int) (.int (0 : Int32))
theorem ef_m_cpb (mid : MethodId) (v : Addr) (kv : ClassId) : entryFrame mid #[(.ref v), (.int (34 : Int32))] 3 = mkF mid 0 #[.val (.ref v), .val (.int (34 : Int32)), .unset] [] := by first | (simp [entryFrame, mkF, argsToLocals, Value.category]; done) | rfl
set_option maxRecDepth 65536 in
set_option maxHeartbeats 40000000 in
theorem m_cpb {l : Launch} {Z : State} {a0 : Array Value} {n0 : Nat} (hw : ∀ d ∈ tables_1, d.before a0 Z = true) (hs : Stat Z) (v : Addr) (kv : ClassId) (h0 : Heap) (V_v : Arv Z h0 v kv .byte (16 : Int32) (([] : List Int32).map Value.int) (.int (0 : Int32))) :
    Met l Z EL0 n0 NR0 KN0 N_7 jdk_65_method_121_code 3 (Option.some (Jvm.ClassFile.FieldType.array Jvm.ClassFile.FieldType.byte)) R_m_cpb [] #[(.ref v), (.int (34 : Int32))] h0 (Q_m_cpb Z v kv h0) := by
  refine Met.of_go pn_m_cpb (fun mid => ef_m_cpb mid v kv ) ?_
  intro hO hWS
  replace V_v : Arv Z h0 v kv .byte (16 : Int32) (List.replicate 16 (.int (0 : Int32))) (.int (0 : Int32)) := V_v.pad (pad_rep [] _ 16)
  refine Go.iload_n (pc' := 1) d_jdk_65_method_121_0 rfl rfl ?_
  refine Go.aload_n (pc' := 2) d_jdk_65_method_121_1 rfl rfl rfl ?_
  refine Go.lenV (pc' := 3) d_jdk_65_method_121_2 rfl V_v ?_
  refine Go.icmpY (pc' := 14) d_jdk_65_method_121_3 (by decide) (by decide) (feq (by decide : ¬ ((34 : Int32) = (16 : Int32)))).2 ?_
  refine Go.iload_n (pc' := 15) d_jdk_65_method_121_14 rfl rfl ?_
  refine Go.newP (pc' := 17) (cap := 34) (ad := "[B") d_jdk_65_method_121_15 rfl (w_23 hw) (by decide) (by decide) (by decide) (by decide) (by decide) (by decide) ?_
  intro h21 b22 g23 ge_b22 q25 x24 V_b22 E_b22
  have o_v_b22 : v ≠ b22 := Nat.ne_of_lt (Nat.lt_of_lt_of_le V_v.lt (Nat.le_of_eq g23))
  replace V_v := V_v.ext x24
  replace V_b22 : Arv Z h21 b22 q25 .byte (34 : Int32) [] (.int (0 : Int32)) := V_b22
  change Go _ _ _ _ _ _ _ _ _ _ _ _ _ _ [b22] h21 1 34 17 #[.val (.ref v), .val (.int (34 : Int32)), .unset] [(.ref b22)]
  replace V_b22 : Arv Z h21 b22 q25 .byte (34 : Int32) (List.replicate 34 (.int (0 : Int32))) (.int (0 : Int32)) := V_b22.pad (pad_rep [] _ 34)
  refine Go.astore_n (pc' := 18) (Ls' := #[.val (.ref v), .val (.int (34 : Int32)), .val (.ref b22)]) d_jdk_65_method_121_17 rfl rfl rfl ?_
  refine Go.aload_n (pc' := 19) d_jdk_65_method_121_18 rfl rfl rfl ?_
  refine Go.iconst (pc' := 20) d_jdk_65_method_121_19 rfl ic_0 ?_
  refine Go.aload_n (pc' := 21) d_jdk_65_method_121_20 rfl rfl rfl ?_
  refine Go.iconst (pc' := 22) d_jdk_65_method_121_21 rfl ic_0 ?_
  refine Go.aload_n (pc' := 23) d_jdk_65_method_121_22 rfl rfl rfl ?_
  refine Go.lenV (pc' := 24) d_jdk_65_method_121_23 rfl V_v ?_
  refine Go.iload_n (pc' := 25) d_jdk_65_method_121_24 rfl rfl ?_
  refine Go.callS (pc' := 28) (z := N_3) d_jdk_65_method_121_25 rfl (w_107 hw) (w_108 hw) (w_99 hw) (w_109 hw) (by decide) (argsL := [(.int (16 : Int32)), (.int (34 : Int32))]) (rest := [(.int (0 : Int32)), (.ref b22), (.int (0 : Int32)), (.ref v)]) (Pays.of_met (W := 4) (len := 3) (m_min hw hs (16 : Int32) (34 : Int32) h21) (w_109 hw) (w_99 hw) (by decide) (by decide)) rfl rfl (lenOf pd_1 rfl) rfl (Nat.le_of_eq rfl) mem0 (by decide) (by decide) ?_
  rintro _ _ _ - - ⟨rfl, rfl, rfl⟩
  change Go _ _ _ _ _ _ _ _ _ _ _ _ _ _ [b22] h21 1 34 28 #[.val (.ref v), .val (.int (34 : Int32)), .val (.ref b22)] [(.int (if (34 : Int32) < (16 : Int32) then (34 : Int32) else (16 : Int32))), (.int (0 : Int32)), (.ref b22), (.int (0 : Int32)), (.ref v)]
  rw [show (if (34 : Int32) < (16 : Int32) then (34 : Int32) else (16 : Int32)) = (16 : Int32) from by decide]
  refine Go.cpA (pc' := 31) (W := 0) (us := (List.replicate 16 (.int (0 : Int32)))) d_jdk_65_method_121_28 rfl (List.mem_of_getElem? (i := 0) rfl) (w_110 hw) (w_113 hw) (w_111 hw) (w_112 hw) V_v V_b22 (Or.inl ⟨rfl, rfl⟩) (by first | decide | exact Nat.le_of_ble_eq_true rfl) (by first | decide | exact Nat.le_of_ble_eq_true rfl) (by first | decide | exact Nat.le_of_ble_eq_true rfl) (by first | decide | exact Nat.le_of_ble_eq_true rfl) (by first | decide | exact Nat.le_of_ble_eq_true rfl) rfl (by first | decide | exact Nat.le_of_ble_eq_true rfl) rfl (by decide) (Nat.le_of_eq rfl) (by decide) ?_
  intro h26 K27 V_b22'
  replace V_v := V_v.keep K27 (ninS o_v_b22 nin0)
  replace E_b22 := E_b22.keep K27
  replace V_b22 : Arv Z h26 b22 q25 .byte (34 : Int32) (List.replicate 34 (.int (0 : Int32))) (.int (0 : Int32)) := V_b22'
  change Go _ _ _ _ _ _ _ _ _ _ _ _ _ _ [b22] h26 1 34 31 #[.val (.ref v), .val (.int (34 : Int32)), .val (.ref b22)] []
  refine Go.aload_n (pc' := 32) d_jdk_65_method_121_31 rfl rfl rfl ?_
  exact Go.retA d_jdk_65_method_121_32 rfl rfl rfl (by decide) (by decide) [b22] (snS ⟨(List.mem_of_getElem? (i := 0) rfl), ge_b22⟩ sn0) ⟨b22, _, rfl, rfl, ge_b22, V_b22.pad (fun i => (pad_rep [] _ 34 i).symm)⟩
abbrev R_m_ec1 : Room := { frames := 3, cells := 1, slots := 34, locals := 48 }
theorem pn_m_ec1 : plainFor (⟨"java/lang/AbstractStringBuilder", "ensureCapacityInternal", "(I)V"⟩ : MethodName) = true := by first | (refine plainFor_of_name ?_; simp [plainName, overriddenIn]; done) | decide +kernel
abbrev Q_m_ec1 (Z : State) (a : Addr) (v : Addr) (kv : ClassId) (h0 : Heap) : Option Value → Heap → List Addr → Prop := fun res h' SN => ∃ (nb : Addr) (kb : ClassId), res = none ∧ SN = [nb] ∧ Exa Z h' a "java/lang/StringBuilder" ∧ Fld Z h' a "java/lang/AbstractStringBuilder" "value" "[B" (.ref nb) ∧ Fld Z h' a "java/lang/AbstractStringBuilder" "coder" "B" (.int (0 : Int32)) ∧ Fld Z h' a "java/lang/AbstractStringBuilder" "count" "I" (.int (0 : Int32)) ∧ h0.size ≤ nb ∧ Arv Z h' nb kb .byte (34 : Int32) (([] : List Int32).map Value.int) (.int (0 : Int32))
theorem ef_m_ec1 (mid : MethodId) (a : Addr) (v : Addr) (kv : ClassId) : entryFrame mid #[(.ref a), (.int (21 : Int32))] 3 = mkF mid 0 #[.val (.ref a), .val (.int (21 : Int32)), .unset] [] := by first | (simp [entryFrame, mkF, argsToLocals, Value.category]; done) | rfl
set_option maxRecDepth 65536 in
set_option maxHeartbeats 40000000 in
theorem m_ec1 {l : Launch} {Z : State} {a0 : Array Value} {n0 : Nat} (hw : ∀ d ∈ tables_1, d.before a0 Z = true) (hs : Stat Z) (a : Addr) (v : Addr) (kv : ClassId) (h0 : Heap) (E_a : Exa Z h0 a "java/lang/StringBuilder") (F_a_value : Fld Z h0 a "java/lang/AbstractStringBuilder" "value" "[B" (.ref v)) (F_a_coder : Fld Z h0 a "java/lang/AbstractStringBuilder" "coder" "B" (.int (0 : Int32))) (F_a_count : Fld Z h0 a "java/lang/AbstractStringBuilder" "count" "I" (.int (0 : Int32))) (V_v : Arv Z h0 v kv .byte (16 : Int32) (([] : List Int32).map Value.int) (.int (0 : Int32))) (ne_v_a : v ≠ a) :
    Met l Z EL0 n0 NR0 KN0 N_4 jdk_68_method_9_code 3 (Option.none : Option Jvm.ClassFile.FieldType) R_m_ec1 [a] #[(.ref a), (.int (21 : Int32))] h0 (Q_m_ec1 Z a v kv h0) := by
  refine Met.of_go pn_m_ec1 (fun mid => ef_m_ec1 mid a v kv ) ?_
  intro hO hWS
  refine Go.aload_n (pc' := 1) d_jdk_68_method_9_0 rfl rfl rfl ?_
  refine Go.getF (pc' := 4) d_jdk_68_method_9_1 rfl (host := "") (Or.inl (w_54 hw)) Via.refl F_a_value ?_
  refine Go.lenV (pc' := 5) d_jdk_68_method_9_4 rfl V_v ?_
  refine Go.aload_n (pc' := 6) d_jdk_68_method_9_5 rfl rfl rfl ?_
  refine Go.getF (pc' := 9) d_jdk_68_method_9_6 rfl (host := "") (Or.inl (w_56 hw)) Via.refl F_a_coder ?_
  refine Go.ishr (pc' := 10) d_jdk_68_method_9_9 rfl ?_
  rw [show ((16 : Int32) >>> ((0 : Int32) &&& 31)) = (16 : Int32) from by decide]
  refine Go.istore_n (pc' := 11) (Ls' := #[.val (.ref a), .val (.int (21 : Int32)), .val (.int (16 : Int32))]) d_jdk_68_method_9_10 rfl rfl ?_
  refine Go.iload_n (pc' := 12) d_jdk_68_method_9_11 rfl rfl ?_
  refine Go.iload_n (pc' := 13) d_jdk_68_method_9_12 rfl rfl ?_
  refine Go.isub (pc' := 14) d_jdk_68_method_9_13 rfl ?_
  rw [show ((21 : Int32) - (16 : Int32)) = (5 : Int32) from by decide]
  refine Go.ifN (pc' := 17) d_jdk_68_method_9_14 rfl ((if0 _ _).trans (tlt (by decide : (0 : Int32) < (5 : Int32))).2.2.2) ?_
  refine Go.aload_n (pc' := 18) d_jdk_68_method_9_17 rfl rfl rfl ?_
  refine Go.aload_n (pc' := 19) d_jdk_68_method_9_18 rfl rfl rfl ?_
  refine Go.getF (pc' := 22) d_jdk_68_method_9_19 rfl (host := "") (Or.inl (w_54 hw)) Via.refl F_a_value ?_
  refine Go.aload_n (pc' := 23) d_jdk_68_method_9_22 rfl rfl rfl ?_
  refine Go.iload_n (pc' := 24) d_jdk_68_method_9_23 rfl rfl ?_
  refine Go.callP (pc' := 27) (z := N_6) (a := a) d_jdk_68_method_9_24 rfl (w_88 hw) (w_89 hw) (own_selP (z := N_6) (u := ({ cls := "java/lang/AbstractStringBuilder", name := "ensureCapacityInternal", desc := "(I)V" } : Jvm.MethodName)) (v := ({ cls := "java/lang/AbstractStringBuilder", name := "ensureCapacityInternal", desc := "(I)V" } : Jvm.MethodName)) (K := "java/lang/StringBuilder") (w_86 hw) rfl (by decide) (w_89 hw) (w_90 hw)) (w_90 hw) (w_92 hw) (by decide) E_a (argsL := [(.int (21 : Int32))]) (rest := [(.ref v), (.ref a)]) (Pays.of_met (W := 2) (len := 3) (m_nc hw hs a v kv ([] : List Int32) h0 F_a_value F_a_coder V_v) (w_92 hw) (w_50 hw) (by decide) (by decide)) rfl rfl (lenOf pd_3 rfl) rfl (Nat.le_of_eq rfl) mem0 (by decide) (by decide) ?_
  rintro _ _ _ - - ⟨rfl, rfl, rfl⟩
  change Go _ _ _ _ _ _ _ _ _ _ _ _ _ _ [a] h0 0 0 27 #[.val (.ref a), .val (.int (21 : Int32)), .val (.int (16 : Int32))] [(.int (34 : Int32)), (.ref v), (.ref a)]
  refine Go.aload_n (pc' := 28) d_jdk_68_method_9_27 rfl rfl rfl ?_
  refine Go.getF (pc' := 31) d_jdk_68_method_9_28 rfl (host := "") (Or.inl (w_56 hw)) Via.refl F_a_coder ?_
  refine Go.ishl (pc' := 32) d_jdk_68_method_9_31 rfl ?_
  rw [show ((34 : Int32) <<< ((0 : Int32) &&& 31)) = (34 : Int32) from by decide]
  refine Go.callS (pc' := 35) (z := N_7) d_jdk_68_method_9_32 rfl (w_103 hw) (w_104 hw) (w_105 hw) (w_106 hw) (by decide) (argsL := [(.ref v), (.int (34 : Int32))]) (rest := [(.ref a)]) (Pays.of_met (W := 1) (len := 3) (m_cpb hw hs v kv h0 V_v) (w_106 hw) (w_105 hw) (by decide) (by decide)) rfl rfl (lenOf pd_4 rfl) rfl (Nat.le_of_eq rfl) mem0 (by decide) (by decide) ?_
  rintro _ h30 _ K31 le32 ⟨b28, q29, rfl, rfl, p33, p34⟩
  have o_a_b28 : a ≠ b28 := Nat.ne_of_lt (Nat.lt_of_lt_of_le E_a.lt p33)
  have o_v_b28 : v ≠ b28 := Nat.ne_of_lt (Nat.lt_of_lt_of_le V_v.lt p33)
  have ge_b28 := Nat.le_trans le32 p33
  replace E_a := E_a.keep K31
  replace F_a_value := F_a_value.keep K31 nin0
  replace F_a_coder := F_a_coder.keep K31 nin0
  replace F_a_count := F_a_count.keep K31 nin0
  replace V_v := V_v.keep K31 nin0
  have V_b28 := p34
  change Go _ _ _ _ _ _ _ _ _ _ _ _ _ _ [b28, a] h30 1 34 35 #[.val (.ref a), .val (.int (21 : Int32)), .val (.int (16 : Int32))] [(.ref b28), (.ref a)]
  refine Go.putF (pc' := 38) d_jdk_68_method_9_35 rfl (List.mem_of_getElem? (i := 1) rfl) (host := "") (Or.inl (w_54 hw)) Via.refl F_a_value E_a (Or.inl (w_55 hw)) (w_41 hw) (ty := (.array .byte)) (by decide) rfl rfl ?_
  intro h35 W36
  replace F_a_value := F_a_value.same W36
  replace E_a := E_a.wr W36
  replace F_a_coder := F_a_coder.other W36 (Or.inr (slot_ne (Or.inl (w_57 hw)) (Or.inl (w_55 hw)) (by decide) (t := .byte) (t' := (.array .byte)) (by decide) (by decide)))
  replace F_a_count := F_a_count.other W36 (Or.inr (slot_ne (Or.inl (w_82 hw)) (Or.inl (w_55 hw)) (by decide) (t := .int) (t' := (.array .byte)) (by decide) (by decide)))
  replace V_v := V_v.other W36 ne_v_a
  replace V_b28 := V_b28.other W36 (Ne.symm o_a_b28)
  change Go _ _ _ _ _ _ _ _ _ _ _ _ _ _ [b28, a] h35 1 34 38 #[.val (.ref a), .val (.int (21 : Int32)), .val (.int (16 : Int32))] []
  exact Go.retV d_jdk_68_method_9_38 rfl (by decide) (by decide) [b28] (snS ⟨(List.mem_of_getElem? (i := 0) rfl), ge_b28⟩ sn0) ⟨b28, _, rfl, rfl, E_a, F_a_value, F_a_coder, F_a_count, ge_b28, V_b28⟩
abbrev R_m_coder : Room := { frames := 0, cells := 0, slots := 0, locals := 0 }
theorem pn_m_coder : plainFor (⟨"java/lang/String", "coder", "()B"⟩ : MethodName) = true := by first | (refine plainFor_of_name ?_; simp [plainName, overriddenIn]; done) | decide +kernel
abbrev Q_m_coder (Z : State) (a : Addr) (h0 : Heap) : Option Value → Heap → List Addr → Prop := fun res h' SN => res = some (.int (0 : Int32)) ∧ SN = [] ∧ h0 = h'
theorem ef_m_coder (mid : MethodId) (a : Addr) : entryFrame mid #[(.ref a)] 1 = mkF mid 0 #[.val (.ref a)] [] := by first | (simp [entryFrame, mkF, argsToLocals, Value.category]; done) | rfl
set_option maxRecDepth 65536 in
set_option maxHeartbeats 40000000 in
theorem m_coder {l : Launch} {Z : State} {a0 : Array Value} {n0 : Nat} (hw : ∀ d ∈ tables_1, d.before a0 Z = true) (hs : Stat Z) (a : Addr) (h0 : Heap) (F_a_coder : Fld Z h0 a "java/lang/String" "coder" "B" (.int (0 : Int32))) :
    Met l Z EL0 n0 NR0 KN0 N_8 jdk_42_method_152_code 1 (Option.some Jvm.ClassFile.FieldType.byte) R_m_coder [] #[(.ref a)] h0 (Q_m_coder Z a h0) := by
  refine Met.of_go pn_m_coder (fun mid => ef_m_coder mid a ) ?_
  intro hO hWS
  obtain ⟨zc, S_c, hzc⟩ := hs_c hs
  refine Go.getS (pc' := 3) d_jdk_42_method_152_0 rfl (host := "") (Or.inl (w_18 hw)) Via.refl S_c ?_
  refine Go.ifN (pc' := 6) d_jdk_42_method_152_3 rfl ((if0 _ _).trans (feq (hzc : ¬ (zc = (0 : Int32)))).1) ?_
  refine Go.aload_n (pc' := 7) d_jdk_42_method_152_6 rfl rfl rfl ?_
  refine Go.getF (pc' := 10) d_jdk_42_method_152_7 rfl (host := "") (Or.inl (w_30 hw)) Via.refl F_a_coder ?_
  refine Go.goto (pc' := 14) d_jdk_42_method_152_10 (by decide) (by decide) ?_
  exact Go.retS (ty := .byte) d_jdk_42_method_152_14 rfl (by simp) rfl (by decide) (by decide) [] sn0 ⟨rfl, rfl, rfl⟩
abbrev R_m_gb : Room := { frames := 1, cells := 0, slots := 0, locals := 24 }
theorem pn_m_gb : plainFor (⟨"java/lang/String", "getBytes", "([BIB)V"⟩ : MethodName) = true := by first | (refine plainFor_of_name ?_; simp [plainName, overriddenIn]; done) | decide +kernel
abbrev Q_m_gb (Z : State) (s : Addr) (t : Addr) (kt : ClassId) (ws : List Int32) (z2 : Int32) (v : Addr) (kv : ClassId) (us : List Int32) (cnt : Int32) (h0 : Heap) : Option Value → Heap → List Addr → Prop := fun res h' SN => res = none ∧ SN = [] ∧ Arv Z h' v kv .byte (34 : Int32) ((us ++ ws).map Value.int) (.int (0 : Int32))
theorem ef_m_gb (mid : MethodId) (s : Addr) (t : Addr) (kt : ClassId) (ws : List Int32) (z2 : Int32) (v : Addr) (kv : ClassId) (us : List Int32) (cnt : Int32) : entryFrame mid #[(.ref s), (.ref v), (.int cnt), (.int (0 : Int32))] 4 = mkF mid 0 #[.val (.ref s), .val (.ref v), .val (.int cnt), .val (.int (0 : Int32))] [] := by first | (simp [entryFrame, mkF, argsToLocals, Value.category]; done) | rfl
set_option maxRecDepth 65536 in
set_option maxHeartbeats 40000000 in
theorem m_gb {l : Launch} {Z : State} {a0 : Array Value} {n0 : Nat} (hw : ∀ d ∈ tables_1, d.before a0 Z = true) (hs : Stat Z) (s : Addr) (t : Addr) (kt : ClassId) (ws : List Int32) (z2 : Int32) (v : Addr) (kv : ClassId) (us : List Int32) (cnt : Int32) (h0 : Heap) (E_s : Exa Z h0 s "java/lang/String") (F_s_coder : Fld Z h0 s "java/lang/String" "coder" "B" (.int (0 : Int32))) (F_s_value : Fld Z h0 s "java/lang/String" "value" "[B" (.ref t)) (V_t : Arv Z h0 t kt .byte z2 (ws.map Value.int) (.int (0 : Int32))) (V_v : Arv Z h0 v kv .byte (34 : Int32) (us.map Value.int) (.int (0 : Int32))) (hz2 : z2.toNatClampNeg = ws.length) (hc0 : ¬ cnt < 0) (hcnt : cnt.toNatClampNeg = us.length) (hfit : us.length + ws.length ≤ 34) (ne_t_v : t ≠ v) :
    Met l Z EL0 n0 NR0 KN0 N_9 jdk_42_method_147_code 4 (Option.none : Option Jvm.ClassFile.FieldType) R_m_gb [v] #[(.ref s), (.ref v), (.int cnt), (.int (0 : Int32))] h0 (Q_m_gb Z s t kt ws z2 v kv us cnt h0) := by
  refine Met.of_go pn_m_gb (fun mid => ef_m_gb mid s t kt ws z2 v kv us cnt ) ?_
  intro hO hWS
  have e34 : (34 : Int32).toNatClampNeg = 34 := by decide
  have e00 : (0 : Int32).toNatClampNeg = 0 := by decide
  replace V_v : Arv Z h0 v kv .byte (34 : Int32) ((us.map Value.int) ++ List.replicate (34 - us.length) (.int (0 : Int32))) (.int (0 : Int32)) := V_v.pad (pad_rep _ _ _)
  refine Go.aload_n (pc' := 1) d_jdk_42_method_147_0 rfl rfl rfl ?_
  refine Go.callV (pc' := 4) (u := N_8) (z := N_8) (a := s) d_jdk_42_method_147_1 rfl (w_76 hw) (w_77 hw) (nf (w_79 hw) rfl) (w_79 hw) (w_78 hw) (by decide) E_s (argsL := []) (rest := []) (Pays.of_met (W := 0) (len := 3) (m_coder hw hs s h0 F_s_coder) (w_80 hw) (w_6 hw) (by decide) (by decide)) rfl rfl (lenOf pd_5 rfl) rfl (Nat.le_of_eq rfl) mem0 (by decide) (by decide) ?_
  rintro _ _ _ - - ⟨rfl, rfl, rfl⟩
  change Go _ _ _ _ _ _ _ _ _ _ _ _ _ _ [v] h0 0 0 4 #[.val (.ref s), .val (.ref v), .val (.int cnt), .val (.int (0 : Int32))] [(.int (0 : Int32))]
  refine Go.iload_n (pc' := 5) d_jdk_42_method_147_4 rfl rfl ?_
  refine Go.icmpN (pc' := 8) d_jdk_42_method_147_5 rfl (teq (rfl : (0 : Int32) = (0 : Int32))).2 ?_
  refine Go.aload_n (pc' := 9) d_jdk_42_method_147_8 rfl rfl rfl ?_
  refine Go.getF (pc' := 12) d_jdk_42_method_147_9 rfl (host := "") (Or.inl (w_32 hw)) Via.refl F_s_value ?_
  refine Go.iconst (pc' := 13) d_jdk_42_method_147_12 rfl ic_0 ?_
  refine Go.aload_n (pc' := 14) d_jdk_42_method_147_13 rfl rfl rfl ?_
  refine Go.iload_n (pc' := 15) d_jdk_42_method_147_14 rfl rfl ?_
  refine Go.iload_n (pc' := 16) d_jdk_42_method_147_15 rfl rfl ?_
  refine Go.ishl (pc' := 17) d_jdk_42_method_147_16 rfl ?_
  refine Go.aload_n (pc' := 18) d_jdk_42_method_147_17 rfl rfl rfl ?_
  rw [own_shl0]
  refine Go.getF (pc' := 21) d_jdk_42_method_147_18 rfl (host := "") (Or.inl (w_32 hw)) Via.refl F_s_value ?_
  refine Go.lenV (pc' := 22) d_jdk_42_method_147_21 rfl V_t ?_
  refine Go.cpA (pc' := 25) (W := 0) (us := (ws.map Value.int)) d_jdk_42_method_147_22 rfl (List.mem_of_getElem? (i := 0) rfl) (w_130 hw) (w_113 hw) (w_111 hw) (w_112 hw) V_t V_v (Or.inl ⟨rfl, rfl⟩) (by decide) hc0 (arv_nn V_t) (by omega) (by omega) (own_range_all ws _ hz2.symm) (by simp; omega) rfl (by decide) (Nat.le_of_eq rfl) (by decide) ?_
  intro h9 K9 V9
  change Go _ _ _ _ _ _ _ _ _ _ _ _ _ _ [v] h9 0 0 25 #[.val (.ref s), .val (.ref v), .val (.int cnt), .val (.int (0 : Int32))] []
  refine Go.goto (pc' := 43) d_jdk_42_method_147_25 (by decide) (by decide) ?_
  exact Go.retV d_jdk_42_method_147_43 rfl (by decide) (by decide) [] sn0 ⟨rfl, rfl, V9.pad (own_sbcat hcnt hz2)⟩
abbrev R_m_inn : Room := { frames := 1, cells := 0, slots := 0, locals := 13 }
theorem pn_m_inn : plainFor (⟨"java/lang/AbstractStringBuilder", "inflateIfNeededFor", "(Ljava/lang/String;)V"⟩ : MethodName) = true := by first | (refine plainFor_of_name ?_; simp [plainName, overriddenIn]; done) | decide +kernel
abbrev Q_m_inn (Z : State) (a : Addr) (s : Addr) (h0 : Heap) : Option Value → Heap → List Addr → Prop := fun res h' SN => res = none ∧ SN = [] ∧ h0 = h'
theorem ef_m_inn (mid : MethodId) (a : Addr) (s : Addr) : entryFrame mid #[(.ref a), (.ref s)] 2 = mkF mid 0 #[.val (.ref a), .val (.ref s)] [] := by first | (simp [entryFrame, mkF, argsToLocals, Value.category]; done) | rfl
set_option maxRecDepth 65536 in
set_option maxHeartbeats 40000000 in
theorem m_inn {l : Launch} {Z : State} {a0 : Array Value} {n0 : Nat} (hw : ∀ d ∈ tables_1, d.before a0 Z = true) (hs : Stat Z) (a : Addr) (s : Addr) (h0 : Heap) (F_a_coder : Fld Z h0 a "java/lang/AbstractStringBuilder" "coder" "B" (.int (0 : Int32))) (E_s : Exa Z h0 s "java/lang/String") (F_s_coder : Fld Z h0 s "java/lang/String" "coder" "B" (.int (0 : Int32))) :
    Met l Z EL0 n0 NR0 KN0 N_10 jdk_68_method_71_code 2 (Option.none : Option Jvm.ClassFile.FieldType) R_m_inn [] #[(.ref a), (.ref s)] h0 (Q_m_inn Z a s h0) := by
  refine Met.of_go pn_m_inn (fun mid => ef_m_inn mid a s ) ?_
  intro hO hWS
  obtain ⟨zc, S_c, hzc⟩ := hs_c hs
  refine Go.getS (pc' := 3) d_jdk_68_method_71_0 rfl (host := "") (Or.inl (w_53 hw)) Via.refl S_c ?_
  refine Go.ifN (pc' := 6) d_jdk_68_method_71_3 rfl ((if0 _ _).trans (feq (hzc : ¬ (zc = (0 : Int32)))).1) ?_
  refine Go.aload_n (pc' := 7) d_jdk_68_method_71_6 rfl rfl rfl ?_
  refine Go.getF (pc' := 10) d_jdk_68_method_71_7 rfl (host := "") (Or.inl (w_56 hw)) Via.refl F_a_coder ?_
  refine Go.aload_n (pc' := 11) d_jdk_68_method_71_10 rfl rfl rfl ?_
  refine Go.callV (pc' := 14) (u := N_8) (z := N_8) (a := s) d_jdk_68_method_71_11 rfl (w_124 hw) (w_77 hw) (nf (w_79 hw) rfl) (w_79 hw) (w_78 hw) (by decide) E_s (argsL := []) (rest := [(.int (0 : Int32))]) (Pays.of_met (W := 1) (len := 3) (m_coder hw hs s h0 F_s_coder) (w_80 hw) (w_6 hw) (by decide) (by decide)) rfl rfl (lenOf pd_5 rfl) rfl (Nat.le_of_eq rfl) mem0 (by decide) (by decide) ?_
  rintro _ _ _ - - ⟨rfl, rfl, rfl⟩
  change Go _ _ _ _ _ _ _ _ _ _ _ _ _ _ [] h0 0 0 14 #[.val (.ref a), .val (.ref s)] [(.int (0 : Int32)), (.int (0 : Int32))]
  refine Go.icmpY (pc' := 21) d_jdk_68_method_71_14 (by decide) (by decide) (teq (rfl : (0 : Int32) = (0 : Int32))).1 ?_
  exact Go.retV d_jdk_68_method_71_21 rfl (by decide) (by decide) [] sn0 ⟨rfl, rfl, rfl⟩
abbrev R_m_psa : Room := { frames := 2, cells := 0, slots := 0, locals := 39 }
theorem pn_m_psa : plainFor (⟨"java/lang/AbstractStringBuilder", "putStringAt", "(ILjava/lang/String;)V"⟩ : MethodName) = true := by first | (refine plainFor_of_name ?_; simp [plainName, overriddenIn]; done) | decide +kernel
abbrev Q_m_psa (Z : State) (a : Addr) (s : Addr) (t : Addr) (kt : ClassId) (ws : List Int32) (z2 : Int32) (v : Addr) (kv : ClassId) (us : List Int32) (cnt : Int32) (h0 : Heap) : Option Value → Heap → List Addr → Prop := fun res h' SN => res = none ∧ SN = [] ∧ Arv Z h' v kv .byte (34 : Int32) ((us ++ ws).map Value.int) (.int (0 : Int32))
theorem ef_m_psa (mid : MethodId) (a : Addr) (s : Addr) (t : Addr) (kt : ClassId) (ws : List Int32) (z2 : Int32) (v : Addr) (kv : ClassId) (us : List Int32) (cnt : Int32) : entryFrame mid #[(.ref a), (.int cnt), (.ref s)] 3 = mkF mid 0 #[.val (.ref a), .val (.int cnt), .val (.ref s)] [] := by first | (simp [entryFrame, mkF, argsToLocals, Value.category]; done) | rfl
set_option maxRecDepth 65536 in
set_option maxHeartbeats 40000000 in
theorem m_psa {l : Launch} {Z : State} {a0 : Array Value} {n0 : Nat} (hw : ∀ d ∈ tables_1, d.before a0 Z = true) (hs : Stat Z) (a : Addr) (s : Addr) (t : Addr) (kt : ClassId) (ws : List Int32) (z2 : Int32) (v : Addr) (kv : ClassId) (us : List Int32) (cnt : Int32) (h0 : Heap) (E_a : Exa Z h0 a "java/lang/StringBuilder") (F_a_value : Fld Z h0 a "java/lang/AbstractStringBuilder" "value" "[B" (.ref v)) (F_a_coder : Fld Z h0 a "java/lang/AbstractStringBuilder" "coder" "B" (.int (0 : Int32))) (E_s : Exa Z h0 s "java/lang/String") (F_s_coder : Fld Z h0 s "java/lang/String" "coder" "B" (.int (0 : Int32))) (F_s_value : Fld Z h0 s "java/lang/String" "value" "[B" (.ref t)) (V_t : Arv Z h0 t kt .byte z2 (ws.map Value.int) (.int (0 : Int32))) (V_v : Arv Z h0 v kv .byte (34 : Int32) (us.map Value.int) (.int (0 : Int32))) (hz2 : z2.toNatClampNeg = ws.length) (hc0 : ¬ cnt < 0) (hcnt : cnt.toNatClampNeg = us.length) (hfit : us.length + ws.length ≤ 34) (ne_t_v : t ≠ v) :
    Met l Z EL0 n0 NR0 KN0 N_11 jdk_68_method_73_code 3 (Option.none : Option Jvm.ClassFile.FieldType) R_m_psa [v] #[(.ref a), (.int cnt), (.ref s)] h0 (Q_m_psa Z a s t kt ws z2 v kv us cnt h0) := by
  refine Met.of_go pn_m_psa (fun mid => ef_m_psa mid a s t kt ws z2 v kv us cnt ) ?_
  intro hO hWS
  refine Go.aload_n (pc' := 1) d_jdk_68_method_73_0 rfl rfl rfl ?_
  refine Go.aload_n (pc' := 2) d_jdk_68_method_73_1 rfl rfl rfl ?_
  refine Go.callP (pc' := 5) (z := N_10) (a := a) d_jdk_68_method_73_2 rfl (w_119 hw) (w_120 hw) (own_selP (z := N_10) (u := ({ cls := "java/lang/AbstractStringBuilder", name := "ensureCapacityInternal", desc := "(I)V" } : Jvm.MethodName)) (v := ({ cls := "java/lang/AbstractStringBuilder", name := "ensureCapacityInternal", desc := "(I)V" } : Jvm.MethodName)) (K := "java/lang/StringBuilder") (w_86 hw) rfl (by decide) (w_120 hw) (w_121 hw)) (w_121 hw) (w_123 hw) (by decide) E_a (argsL := [(.ref s)]) (rest := []) (Pays.of_met (W := 0) (len := 3) (m_inn hw hs a s h0 F_a_coder E_s F_s_coder) (w_123 hw) (w_50 hw) (by decide) (by decide)) rfl rfl (lenOf pd_6 rfl) rfl (Nat.le_of_eq rfl) mem0 (by decide) (by decide) ?_
  rintro _ _ _ - - ⟨rfl, rfl, rfl⟩
  change Go _ _ _ _ _ _ _ _ _ _ _ _ _ _ [v] h0 0 0 5 #[.val (.ref a), .val (.int cnt), .val (.ref s)] []
  refine Go.aload_n (pc' := 6) d_jdk_68_method_73_5 rfl rfl rfl ?_
  refine Go.aload_n (pc' := 7) d_jdk_68_method_73_6 rfl rfl rfl ?_
  refine Go.getF (pc' := 10) d_jdk_68_method_73_7 rfl (host := "") (Or.inl (w_54 hw)) Via.refl F_a_value ?_
  refine Go.iload_n (pc' := 11) d_jdk_68_method_73_10 rfl rfl ?_
  refine Go.aload_n (pc' := 12) d_jdk_68_method_73_11 rfl rfl rfl ?_
  refine Go.getF (pc' := 15) d_jdk_68_method_73_12 rfl (host := "") (Or.inl (w_56 hw)) Via.refl F_a_coder ?_
  refine Go.callV (pc' := 18) (u := N_9) (z := N_9) (a := s) d_jdk_68_method_73_15 rfl (w_125 hw) (w_126 hw) (nf (w_128 hw) rfl) (w_128 hw) (w_127 hw) (by decide) E_s (argsL := [(.ref v), (.int cnt), (.int (0 : Int32))]) (rest := []) (Pays.of_met (W := 0) (len := 3) (m_gb hw hs s t kt ws z2 v kv us cnt h0 E_s F_s_coder F_s_value V_t V_v (hz2) (hc0) (hcnt) (hfit) ne_t_v) (w_129 hw) (w_6 hw) (by decide) (by decide)) rfl rfl (lenOf pd_7 rfl) rfl (Nat.le_of_eq rfl) (memS (List.mem_of_getElem? (i := 0) rfl) mem0) (by decide) (by decide) ?_
  rintro _ h37 _ K38 le39 ⟨rfl, rfl, p40⟩
  replace E_a := E_a.keep K38
  replace E_s := E_s.keep K38
  replace V_t := V_t.keep K38 (ninS ne_t_v nin0)
  have V_v := p40
  change Go _ _ _ _ _ _ _ _ _ _ _ _ _ _ [v] h37 0 0 18 #[.val (.ref a), .val (.int cnt), .val (.ref s)] []
  exact Go.retV d_jdk_68_method_73_18 rfl (by decide) (by decide) [] sn0 ⟨rfl, rfl, V_v⟩
abbrev R_m_length : Room := { frames := 1, cells := 0, slots := 0, locals := 13 }
theorem pn_m_length : plainFor (⟨"java/lang/String", "length", "()I"⟩ : MethodName) = true := by first | (refine plainFor_of_name ?_; simp [plainName, overriddenIn]; done) | decide +kernel
abbrev Q_m_length (Z : State) (a : Addr) (t : Addr) (kt : ClassId) (z : Int32) (vs : List Value) (h0 : Heap) : Option Value → Heap → List Addr → Prop := fun res h' SN => res = some (.int z) ∧ SN = [] ∧ h0 = h'
theorem ef_m_length (mid : MethodId) (a : Addr) (t : Addr) (kt : ClassId) (z : Int32) (vs : List Value) : entryFrame mid #[(.ref a)] 1 = mkF mid 0 #[.val (.ref a)] [] := by first | (simp [entryFrame, mkF, argsToLocals, Value.category]; done) | rfl
set_option maxRecDepth 65536 in
set_option maxHeartbeats 40000000 in
theorem m_length {l : Launch} {Z : State} {a0 : Array Value} {n0 : Nat} (hw : ∀ d ∈ tables_1, d.before a0 Z = true) (hs : Stat Z) (a : Addr) (t : Addr) (kt : ClassId) (z : Int32) (vs : List Value) (h0 : Heap) (E_a : Exa Z h0 a "java/lang/String") (F_a_coder : Fld Z h0 a "java/lang/String" "coder" "B" (.int (0 : Int32))) (F_a_value : Fld Z h0 a "java/lang/String" "value" "[B" (.ref t)) (V_t : Arv Z h0 t kt .byte z vs (.int (0 : Int32))) :
    Met l Z EL0 n0 NR0 KN0 N_12 jdk_42_method_54_code 1 (Option.some Jvm.ClassFile.FieldType.int) R_m_length [] #[(.ref a)] h0 (Q_m_length Z a t kt z vs h0) := by
  refine Met.of_go pn_m_length (fun mid => ef_m_length mid a t kt z vs ) ?_
  intro hO hWS
  refine Go.aload_n (pc' := 1) d_jdk_42_method_54_0 rfl rfl rfl ?_
  refine Go.getF (pc' := 4) d_jdk_42_method_54_1 rfl (host := "") (Or.inl (w_32 hw)) Via.refl F_a_value ?_
  refine Go.lenV (pc' := 5) d_jdk_42_method_54_4 rfl V_t ?_
  refine Go.aload_n (pc' := 6) d_jdk_42_method_54_5 rfl rfl rfl ?_
  refine Go.callV (pc' := 9) (u := N_8) (z := N_8) (a := a) d_jdk_42_method_54_6 rfl (w_76 hw) (w_77 hw) (nf (w_79 hw) rfl) (w_79 hw) (w_78 hw) (by decide) E_a (argsL := []) (rest := [(.int z)]) (Pays.of_met (W := 1) (len := 3) (m_coder hw hs a h0 F_a_coder) (w_80 hw) (w_6 hw) (by decide) (by decide)) rfl rfl (lenOf pd_5 rfl) rfl (Nat.le_of_eq rfl) mem0 (by decide) (by decide) ?_
  rintro _ _ _ - - ⟨rfl, rfl, rfl⟩
  change Go _ _ _ _ _ _ _ _ _ _ _ _ _ _ [] h0 0 0 9 #[.val (.ref a)] [(.int (0 : Int32)), (.int z)]
  refine Go.ishr (pc' := 10) d_jdk_42_method_54_9 rfl ?_
  rw [shr0]
  exact Go.retI d_jdk_42_method_54_10 rfl (by decide) (by decide) [] sn0 ⟨rfl, rfl, rfl⟩
abbrev R_m_aapg : Room := { frames := 4, cells := 1, slots := 34, locals := 62 }
theorem pn_m_aapg : plainFor (⟨"java/lang/AbstractStringBuilder", "append", "(Ljava/lang/String;)Ljava/lang/AbstractStringBuilder;"⟩ : MethodName) = true := by first | (refine plainFor_of_name ?_; simp [plainName, overriddenIn]; done) | decide +kernel
abbrev Q_m_aapg (Z : State) (a : Addr) (s : Addr) (t : Addr) (kt : ClassId) (ws : List Int32) (v : Addr) (kv : ClassId) (h0 : Heap) : Option Value → Heap → List Addr → Prop := fun res h' SN => ∃ (nv : Addr) (nk : ClassId), res = some (.ref a) ∧ SN = [nv] ∧ Exa Z h' a "java/lang/StringBuilder" ∧ Fld Z h' a "java/lang/AbstractStringBuilder" "value" "[B" (.ref nv) ∧ Fld Z h' a "java/lang/AbstractStringBuilder" "coder" "B" (.int (0 : Int32)) ∧ Fld Z h' a "java/lang/AbstractStringBuilder" "count" "I" (.int (21 : Int32)) ∧ h0.size ≤ nv ∧ Arv Z h' nv nk .byte (34 : Int32) (ws.map Value.int) (.int (0 : Int32))
theorem ef_m_aapg (mid : MethodId) (a : Addr) (s : Addr) (t : Addr) (kt : ClassId) (ws : List Int32) (v : Addr) (kv : ClassId) : entryFrame mid #[(.ref a), (.ref s)] 3 = mkF mid 0 #[.val (.ref a), .val (.ref s), .unset] [] := by first | (simp [entryFrame, mkF, argsToLocals, Value.category]; done) | rfl
set_option maxRecDepth 65536 in
set_option maxHeartbeats 40000000 in
theorem m_aapg {l : Launch} {Z : State} {a0 : Array Value} {n0 : Nat} (hw : ∀ d ∈ tables_1, d.before a0 Z = true) (hs : Stat Z) (a : Addr) (s : Addr) (t : Addr) (kt : ClassId) (ws : List Int32) (v : Addr) (kv : ClassId) (h0 : Heap) (E_a : Exa Z h0 a "java/lang/StringBuilder") (F_a_value : Fld Z h0 a "java/lang/AbstractStringBuilder" "value" "[B" (.ref v)) (F_a_coder : Fld Z h0 a "java/lang/AbstractStringBuilder" "coder" "B" (.int (0 : Int32))) (F_a_count : Fld Z h0 a "java/lang/AbstractStringBuilder" "count" "I" (.int (0 : Int32))) (V_v : Arv Z h0 v kv .byte (16 : Int32) (([] : List Int32).map Value.int) (.int (0 : Int32))) (E_s : Exa Z h0 s "java/lang/String") (F_s_coder : Fld Z h0 s "java/lang/String" "coder" "B" (.int (0 : Int32))) (F_s_value : Fld Z h0 s "java/lang/String" "value" "[B" (.ref t)) (V_t : Arv Z h0 t kt .byte (21 : Int32) (ws.map Value.int) (.int (0 : Int32))) (hws : ws.length = 21) (ne_v_a : v ≠ a) (ne_t_a : t ≠ a) (ne_t_v : t ≠ v) (ne_s_a : s ≠ a) :
    Met l Z EL0 n0 NR0 KN0 N_13 jdk_68_method_22_code 3 (Option.some (Jvm.ClassFile.FieldType.object "java/lang/AbstractStringBuilder")) R_m_aapg [a] #[(.ref a), (.ref s)] h0 (Q_m_aapg Z a s t kt ws v kv h0) := by
  refine Met.of_go pn_m_aapg (fun mid => ef_m_aapg mid a s t kt ws v kv ) ?_
  intro hO hWS
  refine Go.aload_n (pc' := 1) d_jdk_68_method_22_0 rfl rfl rfl ?_
  refine Go.ifnonnullY (pc' := 9) d_jdk_68_method_22_1 (by decide) (by decide) ?_
  refine Go.aload_n (pc' := 10) d_jdk_68_method_22_9 rfl rfl rfl ?_
  refine Go.callV (pc' := 13) (u := N_12) (z := N_12) (a := s) d_jdk_68_method_22_10 rfl (w_71 hw) (w_72 hw) (nf (w_74 hw) rfl) (w_74 hw) (w_73 hw) (by decide) E_s (argsL := []) (rest := []) (Pays.of_met (W := 0) (len := 3) (m_length hw hs s t kt (21 : Int32) (ws.map Value.int) h0 E_s F_s_coder F_s_value V_t) (w_75 hw) (w_6 hw) (by decide) (by decide)) rfl rfl (lenOf pd_8 rfl) rfl (Nat.le_of_eq rfl) mem0 (by decide) (by decide) ?_
  rintro _ _ _ - - ⟨rfl, rfl, rfl⟩
  change Go _ _ _ _ _ _ _ _ _ _ _ _ _ _ [a] h0 0 0 13 #[.val (.ref a), .val (.ref s), .unset] [(.int (21 : Int32))]
  refine Go.istore_n (pc' := 14) (Ls' := #[.val (.ref a), .val (.ref s), .val (.int (21 : Int32))]) d_jdk_68_method_22_13 rfl rfl ?_
  refine Go.aload_n (pc' := 15) d_jdk_68_method_22_14 rfl rfl rfl ?_
  refine Go.aload_n (pc' := 16) d_jdk_68_method_22_15 rfl rfl rfl ?_
  refine Go.getF (pc' := 19) d_jdk_68_method_22_16 rfl (host := "") (Or.inl (w_81 hw)) Via.refl F_a_count ?_
  refine Go.iload_n (pc' := 20) d_jdk_68_method_22_19 rfl rfl ?_
  refine Go.iadd (pc' := 21) d_jdk_68_method_22_20 rfl ?_
  rw [show ((0 : Int32) + (21 : Int32)) = (21 : Int32) from by decide]
  refine Go.callP (pc' := 24) (z := N_4) (a := a) d_jdk_68_method_22_21 rfl (w_83 hw) (w_84 hw) (own_selP (z := N_4) (u := ({ cls := "java/lang/AbstractStringBuilder", name := "ensureCapacityInternal", desc := "(I)V" } : Jvm.MethodName)) (v := ({ cls := "java/lang/AbstractStringBuilder", name := "ensureCapacityInternal", desc := "(I)V" } : Jvm.MethodName)) (K := "java/lang/StringBuilder") (w_86 hw) rfl (by decide) (w_84 hw) (w_85 hw)) (w_85 hw) (w_87 hw) (by decide) E_a (argsL := [(.int (21 : Int32))]) (rest := []) (Pays.of_met (W := 0) (len := 3) (m_ec1 hw hs a v kv h0 E_a F_a_value F_a_coder F_a_count V_v ne_v_a) (w_87 hw) (w_50 hw) (by decide) (by decide)) rfl rfl (lenOf pd_0 rfl) rfl (Nat.le_of_eq rfl) (memS (List.mem_of_getElem? (i := 0) rfl) mem0) (by decide) (by decide) ?_
  rintro _ h43 _ K44 le45 ⟨b41, q42, rfl, rfl, p46, p47, p48, p49, p50, p51⟩
  have o_a_b41 : a ≠ b41 := Nat.ne_of_lt (Nat.lt_of_lt_of_le E_a.lt p50)
  have o_v_b41 : v ≠ b41 := Nat.ne_of_lt (Nat.lt_of_lt_of_le V_v.lt p50)
  have o_s_b41 : s ≠ b41 := Nat.ne_of_lt (Nat.lt_of_lt_of_le E_s.lt p50)
  have o_t_b41 : t ≠ b41 := Nat.ne_of_lt (Nat.lt_of_lt_of_le V_t.lt p50)
  have ge_b41 := Nat.le_trans le45 p50
  replace E_a := E_a.keep K44
  replace V_v := V_v.keep K44 (ninS ne_v_a nin0)
  replace E_s := E_s.keep K44
  replace F_s_coder := F_s_coder.keep K44 (ninS ne_s_a nin0)
  replace F_s_value := F_s_value.keep K44 (ninS ne_s_a nin0)
  replace V_t := V_t.keep K44 (ninS ne_t_a nin0)
  have F_a_value := p47
  have F_a_coder := p48
  have F_a_count := p49
  have V_b41 := p51
  change Go _ _ _ _ _ _ _ _ _ _ _ _ _ _ [b41, a] h43 1 34 24 #[.val (.ref a), .val (.ref s), .val (.int (21 : Int32))] []
  refine Go.aload_n (pc' := 25) d_jdk_68_method_22_24 rfl rfl rfl ?_
  refine Go.aload_n (pc' := 26) d_jdk_68_method_22_25 rfl rfl rfl ?_
  refine Go.getF (pc' := 29) d_jdk_68_method_22_26 rfl (host := "") (Or.inl (w_81 hw)) Via.refl F_a_count ?_
  refine Go.aload_n (pc' := 30) d_jdk_68_method_22_29 rfl rfl rfl ?_
  refine Go.callP (pc' := 33) (z := N_11) (a := a) d_jdk_68_method_22_30 rfl (w_114 hw) (w_115 hw) (own_selP (z := N_11) (u := ({ cls := "java/lang/AbstractStringBuilder", name := "ensureCapacityInternal", desc := "(I)V" } : Jvm.MethodName)) (v := ({ cls := "java/lang/AbstractStringBuilder", name := "ensureCapacityInternal", desc := "(I)V" } : Jvm.MethodName)) (K := "java/lang/StringBuilder") (w_86 hw) rfl (by decide) (w_115 hw) (w_116 hw)) (w_116 hw) (w_118 hw) (by decide) E_a (argsL := [(.int (0 : Int32)), (.ref s)]) (rest := []) (Pays.of_met (W := 0) (len := 3) (m_psa hw hs a s t kt ws (21 : Int32) b41 q42 ([] : List Int32) (0 : Int32) h43 E_a F_a_value F_a_coder E_s F_s_coder F_s_value V_t V_b41 (by rw [hws]; decide) (by decide) (by decide) (by rw [hws]; decide) o_t_b41) (w_118 hw) (w_50 hw) (by decide) (by decide)) rfl rfl (lenOf pd_9 rfl) rfl (Nat.le_of_eq rfl) (memS (List.mem_of_getElem? (i := 0) rfl) mem0) (by decide) (by decide) ?_
  rintro _ h52 _ K53 le54 ⟨rfl, rfl, p55⟩
  replace E_a := E_a.keep K53
  replace V_v := V_v.keep K53 (ninS o_v_b41 nin0)
  replace E_s := E_s.keep K53
  replace F_s_coder := F_s_coder.keep K53 (ninS o_s_b41 nin0)
  replace F_s_value := F_s_value.keep K53 (ninS o_s_b41 nin0)
  replace V_t := V_t.keep K53 (ninS o_t_b41 nin0)
  replace F_a_value := F_a_value.keep K53 (ninS o_a_b41 nin0)
  replace F_a_coder := F_a_coder.keep K53 (ninS o_a_b41 nin0)
  replace F_a_count := F_a_count.keep K53 (ninS o_a_b41 nin0)
  have V_b41 := p55
  change Go _ _ _ _ _ _ _ _ _ _ _ _ _ _ [b41, a] h52 1 34 33 #[.val (.ref a), .val (.ref s), .val (.int (21 : Int32))] []
  refine Go.aload_n (pc' := 34) d_jdk_68_method_22_33 rfl rfl rfl ?_
  refine Go.dup (pc' := 35) d_jdk_68_method_22_34 rfl rfl ?_
  refine Go.getF (pc' := 38) d_jdk_68_method_22_35 rfl (host := "") (Or.inl (w_81 hw)) Via.refl F_a_count ?_
  refine Go.iload_n (pc' := 39) d_jdk_68_method_22_38 rfl rfl ?_
  refine Go.iadd (pc' := 40) d_jdk_68_method_22_39 rfl ?_
  rw [show ((0 : Int32) + (21 : Int32)) = (21 : Int32) from by decide]
  refine Go.putF (pc' := 43) d_jdk_68_method_22_40 rfl (List.mem_of_getElem? (i := 1) rfl) (host := "") (Or.inl (w_81 hw)) Via.refl F_a_count E_a (Or.inl (w_82 hw)) (w_41 hw) (ty := .int) (by decide) rfl rfl ?_
  intro h56 W57
  replace F_a_count := F_a_count.same W57
  replace E_a := E_a.wr W57
  replace V_v := V_v.other W57 ne_v_a
  replace E_s := E_s.wr W57
  replace F_s_coder := F_s_coder.other W57 (Or.inl ne_s_a)
  replace F_s_value := F_s_value.other W57 (Or.inl ne_s_a)
  replace V_t := V_t.other W57 ne_t_a
  replace F_a_value := F_a_value.other W57 (Or.inr (slot_ne (Or.inl (w_55 hw)) (Or.inl (w_82 hw)) (by decide) (t := (.array .byte)) (t' := .int) (by decide) (by decide)))
  replace F_a_coder := F_a_coder.other W57 (Or.inr (slot_ne (Or.inl (w_57 hw)) (Or.inl (w_82 hw)) (by decide) (t := .byte) (t' := .int) (by decide) (by decide)))
  replace V_b41 := V_b41.other W57 (Ne.symm o_a_b41)
  change Go _ _ _ _ _ _ _ _ _ _ _ _ _ _ [b41, a] h56 1 34 43 #[.val (.ref a), .val (.ref s), .val (.int (21 : Int32))] []
  refine Go.aload_n (pc' := 44) d_jdk_68_method_22_43 rfl rfl rfl ?_
  exact Go.retA d_jdk_68_method_22_44 rfl rfl rfl (by decide) (by decide) [b41] (snS ⟨(List.mem_of_getElem? (i := 0) rfl), ge_b41⟩ sn0) ⟨b41, _, rfl, rfl, E_a, F_a_value, F_a_coder, F_a_count, ge_b41, V_b41⟩
abbrev R_m_aapf : Room := { frames := 3, cells := 0, slots := 0, locals := 53 }
theorem pn_m_aapf : plainFor (⟨"java/lang/AbstractStringBuilder", "append", "(Ljava/lang/String;)Ljava/lang/AbstractStringBuilder;"⟩ : MethodName) = true := by first | (refine plainFor_of_name ?_; simp [plainName, overriddenIn]; done) | decide +kernel
abbrev Q_m_aapf (Z : State) (a : Addr) (s : Addr) (t : Addr) (kt : ClassId) (ws : List Int32) (z2 : Int32) (v : Addr) (kv : ClassId) (us : List Int32) (cnt : Int32) (h0 : Heap) : Option Value → Heap → List Addr → Prop := fun res h' SN => res = some (.ref a) ∧ SN = [] ∧ Exa Z h' a "java/lang/StringBuilder" ∧ Fld Z h' a "java/lang/AbstractStringBuilder" "value" "[B" (.ref v) ∧ Fld Z h' a "java/lang/AbstractStringBuilder" "coder" "B" (.int (0 : Int32)) ∧ Fld Z h' a "java/lang/AbstractStringBuilder" "count" "I" (.int (cnt + z2)) ∧ Arv Z h' v kv .byte (34 : Int32) ((us ++ ws).map Value.int) (.int (0 : Int32))
theorem ef_m_aapf (mid : MethodId) (a : Addr) (s : Addr) (t : Addr) (kt : ClassId) (ws : List Int32) (z2 : Int32) (v : Addr) (kv : ClassId) (us : List Int32) (cnt : Int32) : entryFrame mid #[(.ref a), (.ref s)] 3 = mkF mid 0 #[.val (.ref a), .val (.ref s), .unset] [] := by first | (simp [entryFrame, mkF, argsToLocals, Value.category]; done) | rfl
set_option maxRecDepth 65536 in
set_option maxHeartbeats 40000000 in
theorem m_aapf {l : Launch} {Z : State} {a0 : Array Value} {n0 : Nat} (hw : ∀ d ∈ tables_1, d.before a0 Z = true) (hs : Stat Z) (a : Addr) (s : Addr) (t : Addr) (kt : ClassId) (ws : List Int32) (z2 : Int32) (v : Addr) (kv : ClassId) (us : List Int32) (cnt : Int32) (h0 : Heap) (E_a : Exa Z h0 a "java/lang/StringBuilder") (F_a_value : Fld Z h0 a "java/lang/AbstractStringBuilder" "value" "[B" (.ref v)) (F_a_coder : Fld Z h0 a "java/lang/AbstractStringBuilder" "coder" "B" (.int (0 : Int32))) (F_a_count : Fld Z h0 a "java/lang/AbstractStringBuilder" "count" "I" (.int cnt)) (V_v : Arv Z h0 v kv .byte (34 : Int32) (us.map Value.int) (.int (0 : Int32))) (E_s : Exa Z h0 s "java/lang/String") (F_s_coder : Fld Z h0 s "java/lang/String" "coder" "B" (.int (0 : Int32))) (F_s_value : Fld Z h0 s "java/lang/String" "value" "[B" (.ref t)) (V_t : Arv Z h0 t kt .byte z2 (ws.map Value.int) (.int (0 : Int32))) (hz2 : z2.toNatClampNeg = ws.length) (hc0 : ¬ cnt < 0) (hcnt : cnt.toNatClampNeg = us.length) (hfit : us.length + ws.length ≤ 34) (ne_v_a : v ≠ a) (ne_t_a : t ≠ a) (ne_t_v : t ≠ v) (ne_s_a : s ≠ a) :
    Met l Z EL0 n0 NR0 KN0 N_13 jdk_68_method_22_code 3 (Option.some (Jvm.ClassFile.FieldType.object "java/lang/AbstractStringBuilder")) R_m_aapf [a, v] #[(.ref a), (.ref s)] h0 (Q_m_aapf Z a s t kt ws z2 v kv us cnt h0) := by
  refine Met.of_go pn_m_aapf (fun mid => ef_m_aapf mid a s t kt ws z2 v kv us cnt ) ?_
  intro hO hWS
  refine Go.aload_n (pc' := 1) d_jdk_68_method_22_0 rfl rfl rfl ?_
  refine Go.ifnonnullY (pc' := 9) d_jdk_68_method_22_1 (by decide) (by decide) ?_
  refine Go.aload_n (pc' := 10) d_jdk_68_method_22_9 rfl rfl rfl ?_
  refine Go.callV (pc' := 13) (u := N_12) (z := N_12) (a := s) d_jdk_68_method_22_10 rfl (w_71 hw) (w_72 hw) (nf (w_74 hw) rfl) (w_74 hw) (w_73 hw) (by decide) E_s (argsL := []) (rest := []) (Pays.of_met (W := 0) (len := 3) (m_length hw hs s t kt z2 (ws.map Value.int) h0 E_s F_s_coder F_s_value V_t) (w_75 hw) (w_6 hw) (by decide) (by decide)) rfl rfl (lenOf pd_8 rfl) rfl (Nat.le_of_eq rfl) mem0 (by decide) (by decide) ?_
  rintro _ _ _ - - ⟨rfl, rfl, rfl⟩
  change Go _ _ _ _ _ _ _ _ _ _ _ _ _ _ [a, v] h0 0 0 13 #[.val (.ref a), .val (.ref s), .unset] [(.int z2)]
  refine Go.istore_n (pc' := 14) (Ls' := #[.val (.ref a), .val (.ref s), .val (.int z2)]) d_jdk_68_method_22_13 rfl rfl ?_
  refine Go.aload_n (pc' := 15) d_jdk_68_method_22_14 rfl rfl rfl ?_
  refine Go.aload_n (pc' := 16) d_jdk_68_method_22_15 rfl rfl rfl ?_
  refine Go.getF (pc' := 19) d_jdk_68_method_22_16 rfl (host := "") (Or.inl (w_81 hw)) Via.refl F_a_count ?_
  refine Go.iload_n (pc' := 20) d_jdk_68_method_22_19 rfl rfl ?_
  refine Go.iadd (pc' := 21) d_jdk_68_method_22_20 rfl ?_
  refine Go.callP (pc' := 24) (z := N_4) (a := a) d_jdk_68_method_22_21 rfl (w_83 hw) (w_84 hw) (own_selP (z := N_4) (u := ({ cls := "java/lang/AbstractStringBuilder", name := "ensureCapacityInternal", desc := "(I)V" } : Jvm.MethodName)) (v := ({ cls := "java/lang/AbstractStringBuilder", name := "ensureCapacityInternal", desc := "(I)V" } : Jvm.MethodName)) (K := "java/lang/StringBuilder") (w_86 hw) rfl (by decide) (w_84 hw) (w_85 hw)) (w_85 hw) (w_87 hw) (by decide) E_a (argsL := [(.int (cnt + z2))]) (rest := []) (Pays.of_met (W := 0) (len := 3) (m_ec0 hw hs a v kv us (cnt + z2) h0 F_a_value F_a_coder V_v (own_fit34 hc0 (arv_nn V_t) (by omega))) (w_87 hw) (w_50 hw) (by decide) (by decide)) rfl rfl (lenOf pd_0 rfl) rfl (Nat.le_of_eq rfl) mem0 (by decide) (by decide) ?_
  rintro _ _ _ - - ⟨rfl, rfl, rfl⟩
  change Go _ _ _ _ _ _ _ _ _ _ _ _ _ _ [a, v] h0 0 0 24 #[.val (.ref a), .val (.ref s), .val (.int z2)] []
  refine Go.aload_n (pc' := 25) d_jdk_68_method_22_24 rfl rfl rfl ?_
  refine Go.aload_n (pc' := 26) d_jdk_68_method_22_25 rfl rfl rfl ?_
  refine Go.getF (pc' := 29) d_jdk_68_method_22_26 rfl (host := "") (Or.inl (w_81 hw)) Via.refl F_a_count ?_
  refine Go.aload_n (pc' := 30) d_jdk_68_method_22_29 rfl rfl rfl ?_
  refine Go.callP (pc' := 33) (z := N_11) (a := a) d_jdk_68_method_22_30 rfl (w_114 hw) (w_115 hw) (own_selP (z := N_11) (u := ({ cls := "java/lang/AbstractStringBuilder", name := "ensureCapacityInternal", desc := "(I)V" } : Jvm.MethodName)) (v := ({ cls := "java/lang/AbstractStringBuilder", name := "ensureCapacityInternal", desc := "(I)V" } : Jvm.MethodName)) (K := "java/lang/StringBuilder") (w_86 hw) rfl (by decide) (w_115 hw) (w_116 hw)) (w_116 hw) (w_118 hw) (by decide) E_a (argsL := [(.int cnt), (.ref s)]) (rest := []) (Pays.of_met (W := 0) (len := 3) (m_psa hw hs a s t kt ws z2 v kv us cnt h0 E_a F_a_value F_a_coder E_s F_s_coder F_s_value V_t V_v (hz2) (hc0) (hcnt) (hfit) ne_t_v) (w_118 hw) (w_50 hw) (by decide) (by decide)) rfl rfl (lenOf pd_9 rfl) rfl (Nat.le_of_eq rfl) (memS (List.mem_of_getElem? (i := 1) rfl) mem0) (by decide) (by decide) ?_
  rintro _ h58 _ K59 le60 ⟨rfl, rfl, p61⟩
  replace E_a := E_a.keep K59
  replace F_a_value := F_a_value.keep K59 (ninS (Ne.symm ne_v_a) nin0)
  replace F_a_coder := F_a_coder.keep K59 (ninS (Ne.symm ne_v_a) nin0)
  replace F_a_count := F_a_count.keep K59 (ninS (Ne.symm ne_v_a) nin0)
  replace E_s := E_s.keep K59
  replace V_t := V_t.keep K59 (ninS ne_t_v nin0)
  have V_v := p61
  change Go _ _ _ _ _ _ _ _ _ _ _ _ _ _ [a, v] h58 0 0 33 #[.val (.ref a), .val (.ref s), .val (.int z2)] []
  refine Go.aload_n (pc' := 34) d_jdk_68_method_22_33 rfl rfl rfl ?_
  refine Go.dup (pc' := 35) d_jdk_68_method_22_34 rfl rfl ?_
  refine Go.getF (pc' := 38) d_jdk_68_method_22_35 rfl (host := "") (Or.inl (w_81 hw)) Via.refl F_a_count ?_
  refine Go.iload_n (pc' := 39) d_jdk_68_method_22_38 rfl rfl ?_
  refine Go.iadd (pc' := 40) d_jdk_68_method_22_39 rfl ?_
  refine Go.putF (pc' := 43) d_jdk_68_method_22_40 rfl (List.mem_of_getElem? (i := 0) rfl) (host := "") (Or.inl (w_81 hw)) Via.refl F_a_count E_a (Or.inl (w_82 hw)) (w_41 hw) (ty := .int) (by decide) rfl rfl ?_
  intro h62 W63
  replace F_a_count := F_a_count.same W63
  replace E_a := E_a.wr W63
  replace F_a_value := F_a_value.other W63 (Or.inr (slot_ne (Or.inl (w_55 hw)) (Or.inl (w_82 hw)) (by decide) (t := (.array .byte)) (t' := .int) (by decide) (by decide)))
  replace F_a_coder := F_a_coder.other W63 (Or.inr (slot_ne (Or.inl (w_57 hw)) (Or.inl (w_82 hw)) (by decide) (t := .byte) (t' := .int) (by decide) (by decide)))
  replace E_s := E_s.wr W63
  replace V_t := V_t.other W63 ne_t_a
  replace V_v := V_v.other W63 ne_v_a
  change Go _ _ _ _ _ _ _ _ _ _ _ _ _ _ [a, v] h62 0 0 43 #[.val (.ref a), .val (.ref s), .val (.int z2)] []
  refine Go.aload_n (pc' := 44) d_jdk_68_method_22_43 rfl rfl rfl ?_
  exact Go.retA d_jdk_68_method_22_44 rfl rfl rfl (by decide) (by decide) [] sn0 ⟨rfl, rfl, E_a, F_a_value, F_a_coder, F_a_count, V_v⟩
abbrev R_m_aapg2 : Room := { frames := 5, cells := 1, slots := 34, locals := 76 }
theorem pn_m_aapg2 : plainFor (⟨"java/lang/StringBuilder", "append", "(Ljava/lang/String;)Ljava/lang/StringBuilder;"⟩ : MethodName) = true := by first | (refine plainFor_of_name ?_; simp [plainName, overriddenIn]; done) | decide +kernel
abbrev Q_m_aapg2 (Z : State) (a : Addr) (s : Addr) (t : Addr) (kt : ClassId) (ws : List Int32) (v : Addr) (kv : ClassId) (h0 : Heap) : Option Value → Heap → List Addr → Prop := fun res h' SN => ∃ (nv : Addr) (nk : ClassId), res = some (.ref a) ∧ SN = [nv] ∧ Exa Z h' a "java/lang/StringBuilder" ∧ Fld Z h' a "java/lang/AbstractStringBuilder" "value" "[B" (.ref nv) ∧ Fld Z h' a "java/lang/AbstractStringBuilder" "coder" "B" (.int (0 : Int32)) ∧ Fld Z h' a "java/lang/AbstractStringBuilder" "count" "I" (.int (21 : Int32)) ∧ h0.size ≤ nv ∧ Arv Z h' nv nk .byte (34 : Int32) (ws.map Value.int) (.int (0 : Int32))
theorem ef_m_aapg2 (mid : MethodId) (a : Addr) (s : Addr) (t : Addr) (kt : ClassId) (ws : List Int32) (v : Addr) (kv : ClassId) : entryFrame mid #[(.ref a), (.ref s)] 2 = mkF mid 0 #[.val (.ref a), .val (.ref s)] [] := by first | (simp [entryFrame, mkF, argsToLocals, Value.category]; done) | rfl
set_option maxRecDepth 65536 in
set_option maxHeartbeats 40000000 in
theorem m_aapg2 {l : Launch} {Z : State} {a0 : Array Value} {n0 : Nat} (hw : ∀ d ∈ tables_1, d.before a0 Z = true) (hs : Stat Z) (a : Addr) (s : Addr) (t : Addr) (kt : ClassId) (ws : List Int32) (v : Addr) (kv : ClassId) (h0 : Heap) (E_a : Exa Z h0 a "java/lang/StringBuilder") (F_a_value : Fld Z h0 a "java/lang/AbstractStringBuilder" "value" "[B" (.ref v)) (F_a_coder : Fld Z h0 a "java/lang/AbstractStringBuilder" "coder" "B" (.int (0 : Int32))) (F_a_count : Fld Z h0 a "java/lang/AbstractStringBuilder" "count" "I" (.int (0 : Int32))) (V_v : Arv Z h0 v kv .byte (16 : Int32) (([] : List Int32).map Value.int) (.int (0 : Int32))) (E_s : Exa Z h0 s "java/lang/String") (F_s_coder : Fld Z h0 s "java/lang/String" "coder" "B" (.int (0 : Int32))) (F_s_value : Fld Z h0 s "java/lang/String" "value" "[B" (.ref t)) (V_t : Arv Z h0 t kt .byte (21 : Int32) (ws.map Value.int) (.int (0 : Int32))) (hws : ws.length = 21) (ne_v_a : v ≠ a) (ne_t_a : t ≠ a) (ne_t_v : t ≠ v) (ne_s_a : s ≠ a) :
    Met l Z EL0 n0 NR0 KN0 N_14 jdk_67_method_7_code 2 (Option.some (Jvm.ClassFile.FieldType.object "java/lang/StringBuilder")) R_m_aapg2 [a] #[(.ref a), (.ref s)] h0 (Q_m_aapg2 Z a s t kt ws v kv h0) := by
  refine Met.of_go pn_m_aapg2 (fun mid => ef_m_aapg2 mid a s t kt ws v kv ) ?_
  intro hO hWS
  refine Go.aload_n (pc' := 1) d_jdk_67_method_7_0 rfl rfl rfl ?_
  refine Go.aload_n (pc' := 2) d_jdk_67_method_7_1 rfl rfl rfl ?_
  refine Go.callSp (pc' := 5) (z := N_13) (a := a) d_jdk_67_method_7_2 rfl (w_66 hw) (own_same (z := N_13) (u := ({ cls := "java/lang/AbstractStringBuilder", name := "ensureCapacityInternal", desc := "(I)V" } : Jvm.MethodName)) (v := ({ cls := "java/lang/AbstractStringBuilder", name := "ensureCapacityInternal", desc := "(I)V" } : Jvm.MethodName)) (K := "java/lang/StringBuilder") (w_86 hw) rfl (by decide) (w_67 hw)) (w_67 hw) (w_68 hw) (w_70 hw) (by decide) (Ins.self E_a) (argsL := [(.ref s)]) (rest := []) (Pays.of_met (W := 0) (len := 3) (m_aapg hw hs a s t kt ws v kv h0 E_a F_a_value F_a_coder F_a_count V_v E_s F_s_coder F_s_value V_t (hws) ne_v_a ne_t_a ne_t_v ne_s_a) (w_70 hw) (w_50 hw) (by decide) (by decide)) rfl rfl (lenOf pd_10 rfl) rfl (Nat.le_of_eq rfl) (memS (List.mem_of_getElem? (i := 0) rfl) mem0) (by decide) (by decide) ?_
  rintro _ h66 _ K67 le68 ⟨b64, q65, rfl, rfl, p69, p70, p71, p72, p73, p74⟩
  have o_a_b64 : a ≠ b64 := Nat.ne_of_lt (Nat.lt_of_lt_of_le E_a.lt p73)
  have o_v_b64 : v ≠ b64 := Nat.ne_of_lt (Nat.lt_of_lt_of_le V_v.lt p73)
  have o_s_b64 : s ≠ b64 := Nat.ne_of_lt (Nat.lt_of_lt_of_le E_s.lt p73)
  have o_t_b64 : t ≠ b64 := Nat.ne_of_lt (Nat.lt_of_lt_of_le V_t.lt p73)
  have ge_b64 := Nat.le_trans le68 p73
  replace E_a := E_a.keep K67
  replace V_v := V_v.keep K67 (ninS ne_v_a nin0)
  replace E_s := E_s.keep K67
  replace F_s_coder := F_s_coder.keep K67 (ninS ne_s_a nin0)
  replace F_s_value := F_s_value.keep K67 (ninS ne_s_a nin0)
  replace V_t := V_t.keep K67 (ninS ne_t_a nin0)
  have F_a_value := p70
  have F_a_coder := p71
  have F_a_count := p72
  have V_b64 := p74
  change Go _ _ _ _ _ _ _ _ _ _ _ _ _ _ [b64, a] h66 1 34 5 #[.val (.ref a), .val (.ref s)] [(.ref a)]
  refine Go.pop (pc' := 6) d_jdk_67_method_7_5 rfl rfl ?_
  refine Go.aload_n (pc' := 7) d_jdk_67_method_7_6 rfl rfl rfl ?_
  exact Go.retA d_jdk_67_method_7_7 rfl rfl rfl (by decide) (by decide) [b64] (snS ⟨(List.mem_of_getElem? (i := 0) rfl), ge_b64⟩ sn0) ⟨b64, _, rfl, rfl, E_a, F_a_value, F_a_coder, F_a_count, ge_b64, V_b64⟩
abbrev R_m_aapf2 : Room := { frames := 4, cells := 0, slots := 0, locals := 67 }
theorem pn_m_aapf2 : plainFor (⟨"java/lang/StringBuilder", "append", "(Ljava/lang/String;)Ljava/lang/StringBuilder;"⟩ : MethodName) = true := by first | (refine plainFor_of_name ?_; simp [plainName, overriddenIn]; done) | decide +kernel
abbrev Q_m_aapf2 (Z : State) (a : Addr) (s : Addr) (t : Addr) (kt : ClassId) (ws : List Int32) (z2 : Int32) (v : Addr) (kv : ClassId) (us : List Int32) (cnt : Int32) (h0 : Heap) : Option Value → Heap → List Addr → Prop := fun res h' SN => res = some (.ref a) ∧ SN = [] ∧ Exa Z h' a "java/lang/StringBuilder" ∧ Fld Z h' a "java/lang/AbstractStringBuilder" "value" "[B" (.ref v) ∧ Fld Z h' a "java/lang/AbstractStringBuilder" "coder" "B" (.int (0 : Int32)) ∧ Fld Z h' a "java/lang/AbstractStringBuilder" "count" "I" (.int (cnt + z2)) ∧ Arv Z h' v kv .byte (34 : Int32) ((us ++ ws).map Value.int) (.int (0 : Int32))
theorem ef_m_aapf2 (mid : MethodId) (a : Addr) (s : Addr) (t : Addr) (kt : ClassId) (ws : List Int32) (z2 : Int32) (v : Addr) (kv : ClassId) (us : List Int32) (cnt : Int32) : entryFrame mid #[(.ref a), (.ref s)] 2 = mkF mid 0 #[.val (.ref a), .val (.ref s)] [] := by first | (simp [entryFrame, mkF, argsToLocals, Value.category]; done) | rfl
set_option maxRecDepth 65536 in
set_option maxHeartbeats 40000000 in
theorem m_aapf2 {l : Launch} {Z : State} {a0 : Array Value} {n0 : Nat} (hw : ∀ d ∈ tables_1, d.before a0 Z = true) (hs : Stat Z) (a : Addr) (s : Addr) (t : Addr) (kt : ClassId) (ws : List Int32) (z2 : Int32) (v : Addr) (kv : ClassId) (us : List Int32) (cnt : Int32) (h0 : Heap) (E_a : Exa Z h0 a "java/lang/StringBuilder") (F_a_value : Fld Z h0 a "java/lang/AbstractStringBuilder" "value" "[B" (.ref v)) (F_a_coder : Fld Z h0 a "java/lang/AbstractStringBuilder" "coder" "B" (.int (0 : Int32))) (F_a_count : Fld Z h0 a "java/lang/AbstractStringBuilder" "count" "I" (.int cnt)) (V_v : Arv Z h0 v kv .byte (34 : Int32) (us.map Value.int) (.int (0 : Int32))) (E_s : Exa Z h0 s "java/lang/String") (F_s_coder : Fld Z h0 s "java/lang/String" "coder" "B" (.int (0 : Int32))) (F_s_value : Fld Z h0 s "java/lang/String" "value" "[B" (.ref t)) (V_t : Arv Z h0 t kt .byte z2 (ws.map Value.int) (.int (0 : Int32))) (hz2 : z2.toNatClampNeg = ws.length) (hc0 : ¬ cnt < 0) (hcnt : cnt.toNatClampNeg = us.length) (hfit : us.length + ws.length ≤ 34) (ne_v_a : v ≠ a) (ne_t_a : t ≠ a) (ne_t_v : t ≠ v) (ne_s_a : s ≠ a) :
    Met l Z EL0 n0 NR0 KN0 N_14 jdk_67_method_7_code 2 (Option.some (Jvm.ClassFile.FieldType.object "java/lang/StringBuilder")) R_m_aapf2 [a, v] #[(.ref a), (.ref s)] h0 (Q_m_aapf2 Z a s t kt ws z2 v kv us cnt h0) := by
  refine Met.of_go pn_m_aapf2 (fun mid => ef_m_aapf2 mid a s t kt ws z2 v kv us cnt ) ?_
  intro hO hWS
  refine Go.aload_n (pc' := 1) d_jdk_67_method_7_0 rfl rfl rfl ?_
  refine Go.aload_n (pc' := 2) d_jdk_67_method_7_1 rfl rfl rfl ?_
  refine Go.callSp (pc' := 5) (z := N_13) (a := a) d_jdk_67_method_7_2 rfl (w_66 hw) (own_same (z := N_13) (u := ({ cls := "java/lang/AbstractStringBuilder", name := "ensureCapacityInternal", desc := "(I)V" } : Jvm.MethodName)) (v := ({ cls := "java/lang/AbstractStringBuilder", name := "ensureCapacityInternal", desc := "(I)V" } : Jvm.MethodName)) (K := "java/lang/StringBuilder") (w_86 hw) rfl (by decide) (w_67 hw)) (w_67 hw) (w_68 hw) (w_70 hw) (by decide) (Ins.self E_a) (argsL := [(.ref s)]) (rest := []) (Pays.of_met (W := 0) (len := 3) (m_aapf hw hs a s t kt ws z2 v kv us cnt h0 E_a F_a_value F_a_coder F_a_count V_v E_s F_s_coder F_s_value V_t (hz2) (hc0) (hcnt) (hfit) ne_v_a ne_t_a ne_t_v ne_s_a) (w_70 hw) (w_50 hw) (by decide) (by decide)) rfl rfl (lenOf pd_10 rfl) rfl (Nat.le_of_eq rfl) (memS (List.mem_of_getElem? (i := 0) rfl) (memS (List.mem_of_getElem? (i := 1) rfl) mem0)) (by decide) (by decide) ?_
  rintro _ h75 _ K76 le77 ⟨rfl, rfl, p78, p79, p80, p81, p82⟩
  replace E_a := E_a.keep K76
  replace E_s := E_s.keep K76
  replace V_t := V_t.keep K76 (ninS ne_t_a (ninS ne_t_v nin0))
  have F_a_value := p79
  have F_a_coder := p80
  have F_a_count := p81
  have V_v := p82
  change Go _ _ _ _ _ _ _ _ _ _ _ _ _ _ [a, v] h75 0 0 5 #[.val (.ref a), .val (.ref s)] [(.ref a)]
  refine Go.pop (pc' := 6) d_jdk_67_method_7_5 rfl rfl ?_
  refine Go.aload_n (pc' := 7) d_jdk_67_method_7_6 rfl rfl rfl ?_
  exact Go.retA d_jdk_67_method_7_7 rfl rfl rfl (by decide) (by decide) [] sn0 ⟨rfl, rfl, E_a, F_a_value, F_a_coder, F_a_count, V_v⟩
abbrev R_m_gv : Room := { frames := 0, cells := 0, slots := 0, locals := 0 }
theorem pn_m_gv : plainFor (⟨"java/lang/AbstractStringBuilder", "getValue", "()[B"⟩ : MethodName) = true := by first | (refine plainFor_of_name ?_; simp [plainName, overriddenIn]; done) | decide +kernel
abbrev Q_m_gv (Z : State) (a : Addr) (v : Addr) (h0 : Heap) : Option Value → Heap → List Addr → Prop := fun res h' SN => res = some (.ref v) ∧ SN = [] ∧ h0 = h'
theorem ef_m_gv (mid : MethodId) (a : Addr) (v : Addr) : entryFrame mid #[(.ref a)] 1 = mkF mid 0 #[.val (.ref a)] [] := by first | (simp [entryFrame, mkF, argsToLocals, Value.category]; done) | rfl
set_option maxRecDepth 65536 in
set_option maxHeartbeats 40000000 in
theorem m_gv {l : Launch} {Z : State} {a0 : Array Value} {n0 : Nat} (hw : ∀ d ∈ tables_1, d.before a0 Z = true) (hs : Stat Z) (a : Addr) (v : Addr) (h0 : Heap) (F_a_value : Fld Z h0 a "java/lang/AbstractStringBuilder" "value" "[B" (.ref v)) :
    Met l Z EL0 n0 NR0 KN0 N_15 jdk_68_method_64_code 1 (Option.some (Jvm.ClassFile.FieldType.array Jvm.ClassFile.FieldType.byte)) R_m_gv [] #[(.ref a)] h0 (Q_m_gv Z a v h0) := by
  refine Met.of_go pn_m_gv (fun mid => ef_m_gv mid a v ) ?_
  intro hO hWS
  refine Go.aload_n (pc' := 1) d_jdk_68_method_64_0 rfl rfl rfl ?_
  refine Go.getF (pc' := 4) d_jdk_68_method_64_1 rfl (host := "") (Or.inl (w_54 hw)) Via.refl F_a_value ?_
  exact Go.retA d_jdk_68_method_64_4 rfl rfl rfl (by decide) (by decide) [] sn0 ⟨rfl, rfl, rfl⟩
abbrev R_m_al : Room := { frames := 0, cells := 0, slots := 0, locals := 0 }
theorem pn_m_al : plainFor (⟨"java/lang/AbstractStringBuilder", "length", "()I"⟩ : MethodName) = true := by first | (refine plainFor_of_name ?_; simp [plainName, overriddenIn]; done) | decide +kernel
abbrev Q_m_al (Z : State) (a : Addr) (cnt : Int32) (h0 : Heap) : Option Value → Heap → List Addr → Prop := fun res h' SN => res = some (.int cnt) ∧ SN = [] ∧ h0 = h'
theorem ef_m_al (mid : MethodId) (a : Addr) (cnt : Int32) : entryFrame mid #[(.ref a)] 1 = mkF mid 0 #[.val (.ref a)] [] := by first | (simp [entryFrame, mkF, argsToLocals, Value.category]; done) | rfl
set_option maxRecDepth 65536 in
set_option maxHeartbeats 40000000 in
theorem m_al {l : Launch} {Z : State} {a0 : Array Value} {n0 : Nat} (hw : ∀ d ∈ tables_1, d.before a0 Z = true) (hs : Stat Z) (a : Addr) (cnt : Int32) (h0 : Heap) (F_a_count : Fld Z h0 a "java/lang/AbstractStringBuilder" "count" "I" (.int cnt)) :
    Met l Z EL0 n0 NR0 KN0 N_16 jdk_68_method_6_code 1 (Option.some Jvm.ClassFile.FieldType.int) R_m_al [] #[(.ref a)] h0 (Q_m_al Z a cnt h0) := by
  refine Met.of_go pn_m_al (fun mid => ef_m_al mid a cnt ) ?_
  intro hO hWS
  refine Go.aload_n (pc' := 1) d_jdk_68_method_6_0 rfl rfl rfl ?_
  refine Go.getF (pc' := 4) d_jdk_68_method_6_1 rfl (host := "") (Or.inl (w_81 hw)) Via.refl F_a_count ?_
  exact Go.retI d_jdk_68_method_6_4 rfl (by decide) (by decide) [] sn0 ⟨rfl, rfl, rfl⟩
abbrev R_m_sl : Room := { frames := 1, cells := 0, slots := 0, locals := 12 }
theorem pn_m_sl : plainFor (⟨"java/lang/StringBuilder", "length", "()I"⟩ : MethodName) = true := by first | (refine plainFor_of_name ?_; simp [plainName, overriddenIn]; done) | decide +kernel
abbrev Q_m_sl (Z : State) (a : Addr) (cnt : Int32) (h0 : Heap) : Option Value → Heap → List Addr → Prop := fun res h' SN => res = some (.int cnt) ∧ SN = [] ∧ h0 = h'
theorem ef_m_sl (mid : MethodId) (a : Addr) (cnt : Int32) : entryFrame mid #[(.ref a)] 1 = mkF mid 0 #[.val (.ref a)] [] := by first | (simp [entryFrame, mkF, argsToLocals, Value.category]; done) | rfl
set_option maxRecDepth 65536 in
set_option maxHeartbeats 40000000 in
theorem m_sl {l : Launch} {Z : State} {a0 : Array Value} {n0 : Nat} (hw : ∀ d ∈ tables_1, d.before a0 Z = true) (hs : Stat Z) (a : Addr) (cnt : Int32) (h0 : Heap) (E_a : Exa Z h0 a "java/lang/StringBuilder") (F_a_count : Fld Z h0 a "java/lang/AbstractStringBuilder" "count" "I" (.int cnt)) :
    Met l Z EL0 n0 NR0 KN0 N_17 jdk_67_method_93_code 1 (Option.some Jvm.ClassFile.FieldType.int) R_m_sl [] #[(.ref a)] h0 (Q_m_sl Z a cnt h0) := by
  refine Met.of_go pn_m_sl (fun mid => ef_m_sl mid a cnt ) ?_
  intro hO hWS
  refine Go.aload_n (pc' := 1) d_jdk_67_method_93_0 rfl rfl rfl ?_
  refine Go.callSp (pc' := 4) (z := N_16) (a := a) d_jdk_67_method_93_1 rfl (w_155 hw) (own_same (z := N_16) (u := ({ cls := "java/lang/AbstractStringBuilder", name := "ensureCapacityInternal", desc := "(I)V" } : Jvm.MethodName)) (v := ({ cls := "java/lang/AbstractStringBuilder", name := "ensureCapacityInternal", desc := "(I)V" } : Jvm.MethodName)) (K := "java/lang/StringBuilder") (w_86 hw) rfl (by decide) (w_151 hw)) (w_151 hw) (w_68 hw) (w_156 hw) (by decide) (Ins.self E_a) (argsL := []) (rest := []) (Pays.of_met (W := 0) (len := 3) (m_al hw hs a cnt h0 F_a_count) (w_156 hw) (w_50 hw) (by decide) (by decide)) rfl rfl (lenOf pd_8 rfl) rfl (Nat.le_of_eq rfl) mem0 (by decide) (by decide) ?_
  rintro _ _ _ - - ⟨rfl, rfl, rfl⟩
  change Go _ _ _ _ _ _ _ _ _ _ _ _ _ _ [] h0 0 0 4 #[.val (.ref a)] [(.int cnt)]
  exact Go.retI d_jdk_67_method_93_4 rfl (by decide) (by decide) [] sn0 ⟨rfl, rfl, rfl⟩
abbrev R_m_ail : Room := { frames := 0, cells := 0, slots := 0, locals := 0 }
theorem pn_m_ail : plainFor (⟨"java/lang/AbstractStringBuilder", "isLatin1", "()Z"⟩ : MethodName) = true := by first | (refine plainFor_of_name ?_; simp [plainName, overriddenIn]; done) | decide +kernel
abbrev Q_m_ail (Z : State) (a : Addr) (h0 : Heap) : Option Value → Heap → List Addr → Prop := fun res h' SN => res = some (.int (1 : Int32)) ∧ SN = [] ∧ h0 = h'
theorem ef_m_ail (mid : MethodId) (a : Addr) : entryFrame mid #[(.ref a)] 1 = mkF mid 0 #[.val (.ref a)] [] := by first | (simp [entryFrame, mkF, argsToLocals, Value.category]; done) | rfl
set_option maxRecDepth 65536 in
set_option maxHeartbeats 40000000 in
theorem m_ail {l : Launch} {Z : State} {a0 : Array Value} {n0 : Nat} (hw : ∀ d ∈ tables_1, d.before a0 Z = true) (hs : Stat Z) (a : Addr) (h0 : Heap) (F_a_coder : Fld Z h0 a "java/lang/AbstractStringBuilder" "coder" "B" (.int (0 : Int32))) :
    Met l Z EL0 n0 NR0 KN0 N_18 jdk_68_method_68_code 1 (Option.some Jvm.ClassFile.FieldType.boolean) R_m_ail [] #[(.ref a)] h0 (Q_m_ail Z a h0) := by
  refine Met.of_go pn_m_ail (fun mid => ef_m_ail mid a ) ?_
  intro hO hWS
  obtain ⟨zc, S_c, hzc⟩ := hs_c hs
  refine Go.getS (pc' := 3) d_jdk_68_method_68_0 rfl (host := "") (Or.inl (w_53 hw)) Via.refl S_c ?_
  refine Go.ifN (pc' := 6) d_jdk_68_method_68_3 rfl ((if0 _ _).trans (feq (hzc : ¬ (zc = (0 : Int32)))).1) ?_
  refine Go.aload_n (pc' := 7) d_jdk_68_method_68_6 rfl rfl rfl ?_
  refine Go.getF (pc' := 10) d_jdk_68_method_68_7 rfl (host := "") (Or.inl (w_56 hw)) Via.refl F_a_coder ?_
  refine Go.ifN (pc' := 13) d_jdk_68_method_68_10 rfl ((if0 _ _).trans (teq (rfl : (0 : Int32) = (0 : Int32))).2) ?_
  refine Go.iconst (pc' := 14) d_jdk_68_method_68_13 rfl ic_1 ?_
  refine Go.goto (pc' := 18) d_jdk_68_method_68_14 (by decide) (by decide) ?_
  exact Go.retS (ty := .boolean) d_jdk_68_method_68_18 rfl (by simp) rfl (by decide) (by decide) [] sn0 ⟨rfl, rfl, rfl⟩
abbrev R_m_cl : Room := { frames := 0, cells := 0, slots := 0, locals := 0 }
theorem pn_m_cl : plainFor (⟨"java/util/Arrays", "checkLength", "(II)V"⟩ : MethodName) = true := by first | (refine plainFor_of_name ?_; simp [plainName, overriddenIn]; done) | decide +kernel
abbrev Q_m_cl (Z : State) (cnt : Int32) (h0 : Heap) : Option Value → Heap → List Addr → Prop := fun res h' SN => res = none ∧ SN = [] ∧ h0 = h'
theorem ef_m_cl (mid : MethodId) (cnt : Int32) : entryFrame mid #[(.int (0 : Int32)), (.int cnt)] 2 = mkF mid 0 #[.val (.int (0 : Int32)), .val (.int cnt)] [] := by first | (simp [entryFrame, mkF, argsToLocals, Value.category]; done) | rfl
set_option maxRecDepth 65536 in
set_option maxHeartbeats 40000000 in
theorem m_cl {l : Launch} {Z : State} {a0 : Array Value} {n0 : Nat} (hw : ∀ d ∈ tables_1, d.before a0 Z = true) (hs : Stat Z) (cnt : Int32) (h0 : Heap) (hc0 : ¬ cnt < (0 : Int32)) :
    Met l Z EL0 n0 NR0 KN0 N_19 jdk_65_method_131_code 2 (Option.none : Option Jvm.ClassFile.FieldType) R_m_cl [] #[(.int (0 : Int32)), (.int cnt)] h0 (Q_m_cl Z cnt h0) := by
  refine Met.of_go pn_m_cl (fun mid => ef_m_cl mid cnt ) ?_
  intro hO hWS
  refine Go.iload_n (pc' := 1) d_jdk_65_method_131_0 rfl rfl ?_
  refine Go.iload_n (pc' := 2) d_jdk_65_method_131_1 rfl rfl ?_
  refine Go.icmpY (pc' := 37) d_jdk_65_method_131_2 (by decide) (by decide) (flt (hc0 : ¬ (cnt < (0 : Int32)))).2.1 ?_
  exact Go.retV d_jdk_65_method_131_37 rfl (by decide) (by decide) [] sn0 ⟨rfl, rfl, rfl⟩
abbrev R_m_crb : Room := { frames := 1, cells := 1, slots := 34, locals := 24 }
theorem pn_m_crb : plainFor (⟨"java/util/Arrays", "copyOfRangeByte", "([BII)[B"⟩ : MethodName) = true := by first | (refine plainFor_of_name ?_; simp [plainName, overriddenIn]; done) | decide +kernel
abbrev Q_m_crb (Z : State) (v : Addr) (kv : ClassId) (us : List Int32) (cnt : Int32) (h0 : Heap) : Option Value → Heap → List Addr → Prop := fun res h' SN => ∃ (b : Addr) (kb : ClassId), res = some (.ref b) ∧ SN = [] ∧ h0.size ≤ b ∧ Arv Z h' b kb .byte cnt (us.map Value.int) (.int (0 : Int32))
theorem ef_m_crb (mid : MethodId) (v : Addr) (kv : ClassId) (us : List Int32) (cnt : Int32) : entryFrame mid #[(.ref v), (.int (0 : Int32)), (.int cnt)] 5 = mkF mid 0 #[.val (.ref v), .val (.int (0 : Int32)), .val (.int cnt), .unset, .unset] [] := by first | (simp [entryFrame, mkF, argsToLocals, Value.category]; done) | rfl
set_option maxRecDepth 65536 in
set_option maxHeartbeats 40000000 in
theorem m_crb {l : Launch} {Z : State} {a0 : Array Value} {n0 : Nat} (hw : ∀ d ∈ tables_1, d.before a0 Z = true) (hs : Stat Z) (v : Addr) (kv : ClassId) (us : List Int32) (cnt : Int32) (h0 : Heap) (V_v : Arv Z h0 v kv .byte (34 : Int32) (us.map Value.int) (.int (0 : Int32))) (hc0 : ¬ cnt < 0) (hcnt : cnt.toNatClampNeg = us.length) (hlt : us.length < 34) :
    Met l Z EL0 n0 NR0 KN0 N_20 jdk_65_method_133_code 5 (Option.some (Jvm.ClassFile.FieldType.array Jvm.ClassFile.FieldType.byte)) R_m_crb [] #[(.ref v), (.int (0 : Int32)), (.int cnt)] h0 (Q_m_crb Z v kv us cnt h0) := by
  refine Met.of_go pn_m_crb (fun mid => ef_m_crb mid v kv us cnt ) ?_
  intro hO hWS
  have e34 : (34 : Int32).toNatClampNeg = 34 := by decide
  have e00 : (0 : Int32).toNatClampNeg = 0 := by decide
  refine Go.iload_n (pc' := 1) d_jdk_65_method_133_0 rfl rfl ?_
  refine Go.iload_n (pc' := 2) d_jdk_65_method_133_1 rfl rfl ?_
  refine Go.callS (pc' := 5) (z := N_19) d_jdk_65_method_133_2 rfl (w_168 hw) (w_169 hw) (w_105 hw) (w_170 hw) (by decide) (argsL := [(.int (0 : Int32)), (.int cnt)]) (rest := []) (Pays.of_met (W := 0) (len := 3) (m_cl hw hs cnt h0 (hc0)) (w_170 hw) (w_105 hw) (by decide) (by decide)) rfl rfl (lenOf pd_11 rfl) rfl (Nat.le_of_eq rfl) mem0 (by decide) (by decide) ?_
  rintro _ _ _ - - ⟨rfl, rfl, rfl⟩
  change Go _ _ _ _ _ _ _ _ _ _ _ _ _ _ [] h0 0 0 5 #[.val (.ref v), .val (.int (0 : Int32)), .val (.int cnt), .unset, .unset] []
  refine Go.iload_n (pc' := 6) d_jdk_65_method_133_5 rfl rfl ?_
  refine Go.iload_n (pc' := 7) d_jdk_65_method_133_6 rfl rfl ?_
  refine Go.isub (pc' := 8) d_jdk_65_method_133_7 rfl ?_
  rw [own_sub0]
  refine Go.istore_n (pc' := 9) (Ls' := #[.val (.ref v), .val (.int (0 : Int32)), .val (.int cnt), .val (.int cnt), .unset]) d_jdk_65_method_133_8 rfl rfl ?_
  refine Go.iload_n (pc' := 10) d_jdk_65_method_133_9 rfl rfl ?_
  refine Go.newP (pc' := 12) (cap := 34) (ad := "[B") d_jdk_65_method_133_10 rfl (w_23 hw) (by decide) hc0 (by omega) (by decide) (by decide) (by decide) ?_
  intro h83 b84 g85 ge_b84 q87 x86 V_b84 E_b84
  have o_v_b84 : v ≠ b84 := Nat.ne_of_lt (Nat.lt_of_lt_of_le V_v.lt (Nat.le_of_eq g85))
  replace V_v := V_v.ext x86
  replace V_b84 : Arv Z h83 b84 q87 .byte cnt [] (.int (0 : Int32)) := V_b84
  change Go _ _ _ _ _ _ _ _ _ _ _ _ _ _ [b84] h83 1 34 12 #[.val (.ref v), .val (.int (0 : Int32)), .val (.int cnt), .val (.int cnt), .unset] [(.ref b84)]
  replace V_b84 : Arv Z h83 b84 q87 .byte cnt (List.replicate us.length (.int (0 : Int32))) (.int (0 : Int32)) := V_b84.pad (pad_rep [] _ _)
  refine Go.astore (pc' := 14) (Ls' := #[.val (.ref v), .val (.int (0 : Int32)), .val (.int cnt), .val (.int cnt), .val (.ref b84)]) d_jdk_65_method_133_12 rfl rfl rfl ?_
  refine Go.aload_n (pc' := 15) d_jdk_65_method_133_14 rfl rfl rfl ?_
  refine Go.iload_n (pc' := 16) d_jdk_65_method_133_15 rfl rfl ?_
  refine Go.aload (pc' := 18) d_jdk_65_method_133_16 rfl rfl rfl ?_
  refine Go.iconst (pc' := 19) d_jdk_65_method_133_18 rfl ic_0 ?_
  refine Go.aload_n (pc' := 20) d_jdk_65_method_133_19 rfl rfl rfl ?_
  refine Go.lenV (pc' := 21) d_jdk_65_method_133_20 rfl V_v ?_
  refine Go.iload_n (pc' := 22) d_jdk_65_method_133_21 rfl rfl ?_
  refine Go.isub (pc' := 23) d_jdk_65_method_133_22 rfl ?_
  rw [show ((34 : Int32) - (0 : Int32)) = (34 : Int32) from by decide]
  refine Go.iload_n (pc' := 24) d_jdk_65_method_133_23 rfl rfl ?_
  refine Go.callS (pc' := 27) (z := N_3) d_jdk_65_method_133_24 rfl (w_107 hw) (w_108 hw) (w_99 hw) (w_109 hw) (by decide) (argsL := [(.int (34 : Int32)), (.int cnt)]) (rest := [(.int (0 : Int32)), (.ref b84), (.int (0 : Int32)), (.ref v)]) (Pays.of_met (W := 4) (len := 3) (m_min hw hs (34 : Int32) cnt h83) (w_109 hw) (w_99 hw) (by decide) (by decide)) rfl rfl (lenOf pd_1 rfl) rfl (Nat.le_of_eq rfl) mem0 (by decide) (by decide) ?_
  rintro _ _ _ - - ⟨rfl, rfl, rfl⟩
  change Go _ _ _ _ _ _ _ _ _ _ _ _ _ _ [b84] h83 1 34 27 #[.val (.ref v), .val (.int (0 : Int32)), .val (.int cnt), .val (.int cnt), .val (.ref b84)] [(.int (if cnt < (34 : Int32) then cnt else (34 : Int32))), (.int (0 : Int32)), (.ref b84), (.int (0 : Int32)), (.ref v)]
  rw [own_min34 hc0 (by omega)]
  refine Go.cpA (pc' := 30) (W := 0) (us := (us.map Value.int)) d_jdk_65_method_133_27 rfl (List.mem_of_getElem? (i := 0) rfl) (w_110 hw) (w_113 hw) (w_111 hw) (w_112 hw) V_v V_b84 (Or.inl ⟨rfl, rfl⟩) (by decide) (by decide) hc0 (by omega) (by omega) (own_range_all us _ hcnt.symm) (by simp; omega) rfl (by decide) (Nat.le_of_eq rfl) (by decide) ?_
  intro h9 K9 V9
  change Go _ _ _ _ _ _ _ _ _ _ _ _ _ _ [b84] h9 1 34 30 #[.val (.ref v), .val (.int (0 : Int32)), .val (.int cnt), .val (.int cnt), .val (.ref b84)] []
  refine Go.aload (pc' := 32) d_jdk_65_method_133_30 rfl rfl rfl ?_
  exact Go.retA d_jdk_65_method_133_32 rfl rfl rfl (by decide) (by decide) [] sn0 ⟨b84, _, rfl, rfl, ge_b84, V9.pad (own_cpall hcnt)⟩
abbrev R_m_cor : Room := { frames := 2, cells := 1, slots := 34, locals := 40 }
theorem pn_m_cor : plainFor (⟨"java/util/Arrays", "copyOfRange", "([BII)[B"⟩ : MethodName) = true := by first | (refine plainFor_of_name ?_; simp [plainName, overriddenIn]; done) | decide +kernel
abbrev Q_m_cor (Z : State) (v : Addr) (kv : ClassId) (us : List Int32) (cnt : Int32) (h0 : Heap) : Option Value → Heap → List Addr → Prop := fun res h' SN => ∃ (b : Addr) (kb : ClassId), res = some (.ref b) ∧ SN = [] ∧ h0.size ≤ b ∧ Arv Z h' b kb .byte cnt (us.map Value.int) (.int (0 : Int32))
theorem ef_m_cor (mid : MethodId) (v : Addr) (kv : ClassId) (us : List Int32) (cnt : Int32) : entryFrame mid #[(.ref v), (.int (0 : Int32)), (.int cnt)] 3 = mkF mid 0 #[.val (.ref v), .val (.int (0 : Int32)), .val (.int cnt)] [] := by first | (simp [entryFrame, mkF, argsToLocals, Value.category]; done) | rfl
set_option maxRecDepth 65536 in
set_option maxHeartbeats 40000000 in
theorem m_cor {l : Launch} {Z : State} {a0 : Array Value} {n0 : Nat} (hw : ∀ d ∈ tables_1, d.before a0 Z = true) (hs : Stat Z) (v : Addr) (kv : ClassId) (us : List Int32) (cnt : Int32) (h0 : Heap) (V_v : Arv Z h0 v kv .byte (34 : Int32) (us.map Value.int) (.int (0 : Int32))) (hc0 : ¬ cnt < 0) (hcnt : cnt.toNatClampNeg = us.length) (hlt : us.length < 34) :
    Met l Z EL0 n0 NR0 KN0 N_21 jdk_65_method_132_code 3 (Option.some (Jvm.ClassFile.FieldType.array Jvm.ClassFile.FieldType.byte)) R_m_cor [] #[(.ref v), (.int (0 : Int32)), (.int cnt)] h0 (Q_m_cor Z v kv us cnt h0) := by
  refine Met.of_go pn_m_cor (fun mid => ef_m_cor mid v kv us cnt ) ?_
  intro hO hWS
  refine Go.iload_n (pc' := 1) d_jdk_65_method_132_0 rfl rfl ?_
  refine Go.ifN (pc' := 4) d_jdk_65_method_132_1 rfl ((if0 _ _).trans (teq (rfl : (0 : Int32) = (0 : Int32))).2) ?_
  refine Go.iload_n (pc' := 5) d_jdk_65_method_132_4 rfl rfl ?_
  refine Go.aload_n (pc' := 6) d_jdk_65_method_132_5 rfl rfl rfl ?_
  refine Go.lenV (pc' := 7) d_jdk_65_method_132_6 rfl V_v ?_
  refine Go.icmpN (pc' := 10) d_jdk_65_method_132_7 rfl (feq (fun e => by have e34 : (34 : Int32).toNatClampNeg = 34 := (by decide); rw [e] at hcnt; omega : ¬ (cnt = (34 : Int32)))).1 ?_
  refine Go.aload_n (pc' := 11) d_jdk_65_method_132_10 rfl rfl rfl ?_
  refine Go.iload_n (pc' := 12) d_jdk_65_method_132_11 rfl rfl ?_
  refine Go.iload_n (pc' := 13) d_jdk_65_method_132_12 rfl rfl ?_
  refine Go.callS (pc' := 16) (z := N_20) d_jdk_65_method_132_13 rfl (w_165 hw) (w_166 hw) (w_105 hw) (w_167 hw) (by decide) (argsL := [(.ref v), (.int (0 : Int32)), (.int cnt)]) (rest := []) (Pays.of_met (W := 0) (len := 3) (m_crb hw hs v kv us cnt h0 V_v (hc0) (hcnt) (hlt)) (w_167 hw) (w_105 hw) (by decide) (by decide)) rfl rfl (lenOf pd_12 rfl) rfl (Nat.le_of_eq rfl) mem0 (by decide) (by decide) ?_
  rintro _ h90 _ K91 le92 ⟨b88, q89, rfl, rfl, p93, p94⟩
  have o_v_b88 : v ≠ b88 := Nat.ne_of_lt (Nat.lt_of_lt_of_le V_v.lt p93)
  have ge_b88 := Nat.le_trans le92 p93
  replace V_v := V_v.keep K91 nin0
  have V_b88 := p94
  change Go _ _ _ _ _ _ _ _ _ _ _ _ _ _ [] h90 1 34 16 #[.val (.ref v), .val (.int (0 : Int32)), .val (.int cnt)] [(.ref b88)]
  exact Go.retA d_jdk_65_method_132_16 rfl rfl rfl (by decide) (by decide) [] sn0 ⟨b88, _, rfl, rfl, ge_b88, V_b88⟩
abbrev R_m_si2 : Room := { frames := 3, cells := 1, slots := 34, locals := 55 }
theorem pn_m_si2 : plainFor (⟨"java/lang/String", "<init>", "(Ljava/lang/AbstractStringBuilder;Ljava/lang/Void;)V"⟩ : MethodName) = true := by first | (refine plainFor_of_name ?_; simp [plainName, overriddenIn]; done) | decide +kernel
abbrev Q_m_si2 (Z : State) (n : Addr) (a : Addr) (v : Addr) (kv : ClassId) (us : List Int32) (cnt : Int32) (h0 : Heap) : Option Value → Heap → List Addr → Prop := fun res h' SN => ∃ (b : Addr) (kb : ClassId), res = none ∧ SN = [] ∧ Exa Z h' n "java/lang/String" ∧ Fld Z h' n "java/lang/String" "coder" "B" (.int (0 : Int32)) ∧ Fld Z h' n "java/lang/String" "value" "[B" (.ref b) ∧ h0.size ≤ b ∧ Arv Z h' b kb .byte cnt (us.map Value.int) (.int (0 : Int32))
theorem ef_m_si2 (mid : MethodId) (n : Addr) (a : Addr) (v : Addr) (kv : ClassId) (us : List Int32) (cnt : Int32) : entryFrame mid #[(.ref n), (.ref a), .null] 5 = mkF mid 0 #[.val (.ref n), .val (.ref a), .val .null, .unset, .unset] [] := by first | (simp [entryFrame, mkF, argsToLocals, Value.category]; done) | rfl
set_option maxRecDepth 65536 in
set_option maxHeartbeats 40000000 in
theorem m_si2 {l : Launch} {Z : State} {a0 : Array Value} {n0 : Nat} (hw : ∀ d ∈ tables_1, d.before a0 Z = true) (hs : Stat Z) (n : Addr) (a : Addr) (v : Addr) (kv : ClassId) (us : List Int32) (cnt : Int32) (h0 : Heap) (E_n : Exa Z h0 n "java/lang/String") (F_n_coder : Fld Z h0 n "java/lang/String" "coder" "B" (.int (0 : Int32))) (F_n_value : Fld Z h0 n "java/lang/String" "value" "[B" .null) (E_a : Exa Z h0 a "java/lang/StringBuilder") (F_a_value : Fld Z h0 a "java/lang/AbstractStringBuilder" "value" "[B" (.ref v)) (F_a_coder : Fld Z h0 a "java/lang/AbstractStringBuilder" "coder" "B" (.int (0 : Int32))) (F_a_count : Fld Z h0 a "java/lang/AbstractStringBuilder" "count" "I" (.int cnt)) (V_v : Arv Z h0 v kv .byte (34 : Int32) (us.map Value.int) (.int (0 : Int32))) (hc0 : ¬ cnt < 0) (hcnt : cnt.toNatClampNeg = us.length) (hlt : us.length < 34) (ne_a_n : a ≠ n) (ne_v_n : v ≠ n) :
    Met l Z EL0 n0 NR0 KN0 N_22 jdk_42_method_150_code 5 (Option.none : Option Jvm.ClassFile.FieldType) R_m_si2 [n] #[(.ref n), (.ref a), .null] h0 (Q_m_si2 Z n a v kv us cnt h0) := by
  refine Met.of_go pn_m_si2 (fun mid => ef_m_si2 mid n a v kv us cnt ) ?_
  intro hO hWS
  refine Go.aload_n (pc' := 1) d_jdk_42_method_150_0 rfl rfl rfl ?_
  refine Go.initO (pc' := 4) (W := 0) d_jdk_42_method_150_1 rfl (w_15 hw) (w_16 hw) (w_17 hw) rfl (by decide) (Nat.le_of_eq rfl) (by decide) ?_
  refine Go.aload_n (pc' := 5) d_jdk_42_method_150_4 rfl rfl rfl ?_
  refine Go.callV (pc' := 8) (u := N_15) (z := N_15) (a := a) d_jdk_42_method_150_5 rfl (w_144 hw) (w_145 hw) (nf (w_147 hw) rfl) (w_147 hw) (w_146 hw) (by decide) E_a (argsL := []) (rest := []) (Pays.of_met (W := 0) (len := 3) (m_gv hw hs a v h0 F_a_value) (w_148 hw) (w_50 hw) (by decide) (by decide)) rfl rfl (lenOf pd_13 rfl) rfl (Nat.le_of_eq rfl) mem0 (by decide) (by decide) ?_
  rintro _ _ _ - - ⟨rfl, rfl, rfl⟩
  change Go _ _ _ _ _ _ _ _ _ _ _ _ _ _ [n] h0 0 0 8 #[.val (.ref n), .val (.ref a), .val .null, .unset, .unset] [(.ref v)]
  refine Go.astore_n (pc' := 9) (Ls' := #[.val (.ref n), .val (.ref a), .val .null, .val (.ref v), .unset]) d_jdk_42_method_150_8 rfl rfl rfl ?_
  refine Go.aload_n (pc' := 10) d_jdk_42_method_150_9 rfl rfl rfl ?_
  refine Go.callV (pc' := 13) (u := N_16) (z := N_17) (a := a) d_jdk_42_method_150_10 rfl (w_149 hw) (w_150 hw) (fun s hZ => own_nf (args := #[]) (mvT hZ (w_147 hw)) rfl) (w_152 hw) (w_153 hw) (by decide) E_a (argsL := []) (rest := []) (Pays.of_met (W := 0) (len := 3) (m_sl hw hs a cnt h0 E_a F_a_count) (w_154 hw) (w_42 hw) (by decide) (by decide)) rfl rfl (lenOf pd_8 rfl) rfl (Nat.le_of_eq rfl) mem0 (by decide) (by decide) ?_
  rintro _ _ _ - - ⟨rfl, rfl, rfl⟩
  change Go _ _ _ _ _ _ _ _ _ _ _ _ _ _ [n] h0 0 0 13 #[.val (.ref n), .val (.ref a), .val .null, .val (.ref v), .unset] [(.int cnt)]
  refine Go.istore (pc' := 15) (Ls' := #[.val (.ref n), .val (.ref a), .val .null, .val (.ref v), .val (.int cnt)]) d_jdk_42_method_150_13 rfl rfl ?_
  refine Go.aload_n (pc' := 16) d_jdk_42_method_150_15 rfl rfl rfl ?_
  refine Go.callV (pc' := 19) (u := N_18) (z := N_18) (a := a) d_jdk_42_method_150_16 rfl (w_157 hw) (w_158 hw) (nf (w_160 hw) rfl) (w_160 hw) (w_159 hw) (by decide) E_a (argsL := []) (rest := []) (Pays.of_met (W := 0) (len := 3) (m_ail hw hs a h0 F_a_coder) (w_161 hw) (w_50 hw) (by decide) (by decide)) rfl rfl (lenOf pd_14 rfl) rfl (Nat.le_of_eq rfl) mem0 (by decide) (by decide) ?_
  rintro _ _ _ - - ⟨rfl, rfl, rfl⟩
  change Go _ _ _ _ _ _ _ _ _ _ _ _ _ _ [n] h0 0 0 19 #[.val (.ref n), .val (.ref a), .val .null, .val (.ref v), .val (.int cnt)] [(.int (1 : Int32))]
  refine Go.ifN (pc' := 22) d_jdk_42_method_150_19 rfl ((if0 _ _).trans (feq (by decide : ¬ ((1 : Int32) = (0 : Int32)))).1) ?_
  refine Go.aload_n (pc' := 23) d_jdk_42_method_150_22 rfl rfl rfl ?_
  refine Go.iconst (pc' := 24) d_jdk_42_method_150_23 rfl ic_0 ?_
  refine Go.putFN (pc' := 27) (v' := (.int (0 : Int32))) d_jdk_42_method_150_24 rfl (List.mem_of_getElem? (i := 0) rfl) (w_30 hw) Via.refl F_n_coder E_n (Or.inr ⟨(w_31 hw), rfl, rfl⟩) (w_5 hw) (ty := .byte) (by decide) rfl rfl ?_
  intro h95 W96
  replace F_n_coder := F_n_coder.same W96
  replace E_n := E_n.wr W96
  replace F_n_value := F_n_value.other W96 (Or.inr (slot_ne (Or.inr (w_33 hw)) (Or.inr (w_31 hw)) (by decide) (t := (.array .byte)) (t' := .byte) (by decide) (by decide)))
  replace E_a := E_a.wr W96
  replace F_a_value := F_a_value.other W96 (Or.inl ne_a_n)
  replace F_a_coder := F_a_coder.other W96 (Or.inl ne_a_n)
  replace F_a_count := F_a_count.other W96 (Or.inl ne_a_n)
  replace V_v := V_v.other W96 ne_v_n
  change Go _ _ _ _ _ _ _ _ _ _ _ _ _ _ [n] h95 0 0 27 #[.val (.ref n), .val (.ref a), .val .null, .val (.ref v), .val (.int cnt)] []
  refine Go.aload_n (pc' := 28) d_jdk_42_method_150_27 rfl rfl rfl ?_
  refine Go.aload_n (pc' := 29) d_jdk_42_method_150_28 rfl rfl rfl ?_
  refine Go.iconst (pc' := 30) d_jdk_42_method_150_29 rfl ic_0 ?_
  refine Go.iload (pc' := 32) d_jdk_42_method_150_30 rfl rfl ?_
  refine Go.callS (pc' := 35) (z := N_21) d_jdk_42_method_150_32 rfl (w_162 hw) (w_163 hw) (w_105 hw) (w_164 hw) (by decide) (argsL := [(.ref v), (.int (0 : Int32)), (.int cnt)]) (rest := [(.ref n)]) (Pays.of_met (W := 1) (len := 3) (m_cor hw hs v kv us cnt h95 V_v (hc0) (hcnt) (hlt)) (w_164 hw) (w_105 hw) (by decide) (by decide)) rfl rfl (lenOf pd_12 rfl) rfl (Nat.le_of_eq rfl) mem0 (by decide) (by decide) ?_
  rintro _ h99 _ K100 le101 ⟨b97, q98, rfl, rfl, p102, p103⟩
  have o_n_b97 : n ≠ b97 := Nat.ne_of_lt (Nat.lt_of_lt_of_le E_n.lt p102)
  have o_a_b97 : a ≠ b97 := Nat.ne_of_lt (Nat.lt_of_lt_of_le E_a.lt p102)
  have o_v_b97 : v ≠ b97 := Nat.ne_of_lt (Nat.lt_of_lt_of_le V_v.lt p102)
  have ge_b97 := Nat.le_trans le101 p102
  replace E_n := E_n.keep K100
  replace F_n_value := F_n_value.keep K100 nin0
  replace E_a := E_a.keep K100
  replace F_a_value := F_a_value.keep K100 nin0
  replace F_a_coder := F_a_coder.keep K100 nin0
  replace F_a_count := F_a_count.keep K100 nin0
  replace V_v := V_v.keep K100 nin0
  replace F_n_coder := F_n_coder.keep K100 nin0
  have V_b97 := p103
  change Go _ _ _ _ _ _ _ _ _ _ _ _ _ _ [n] h99 1 34 35 #[.val (.ref n), .val (.ref a), .val .null, .val (.ref v), .val (.int cnt)] [(.ref b97), (.ref n)]
  refine Go.putF (pc' := 38) d_jdk_42_method_150_35 rfl (List.mem_of_getElem? (i := 0) rfl) (host := "") (Or.inl (w_32 hw)) Via.refl F_n_value E_n (Or.inr ⟨(w_33 hw), rfl, rfl⟩) (w_5 hw) (ty := (.array .byte)) (by decide) rfl rfl ?_
  intro h104 W105
  replace F_n_value := F_n_value.same W105
  replace E_n := E_n.wr W105
  replace E_a := E_a.wr W105
  replace F_a_value := F_a_value.other W105 (Or.inl ne_a_n)
  replace F_a_coder := F_a_coder.other W105 (Or.inl ne_a_n)
  replace F_a_count := F_a_count.other W105 (Or.inl ne_a_n)
  replace V_v := V_v.other W105 ne_v_n
  replace F_n_coder := F_n_coder.other W105 (Or.inr (slot_ne (Or.inr (w_31 hw)) (Or.inr (w_33 hw)) (by decide) (t := .byte) (t' := (.array .byte)) (by decide) (by decide)))
  replace V_b97 := V_b97.other W105 (Ne.symm o_n_b97)
  change Go _ _ _ _ _ _ _ _ _ _ _ _ _ _ [n] h104 1 34 38 #[.val (.ref n), .val (.ref a), .val .null, .val (.ref v), .val (.int cnt)] []
  refine Go.goto (pc' := 97) d_jdk_42_method_150_38 (by decide) (by decide) ?_
  exact Go.retV d_jdk_42_method_150_97 rfl (by decide) (by decide) [] sn0 ⟨b97, _, rfl, rfl, E_n, F_n_coder, F_n_value, ge_b97, V_b97⟩
abbrev R_m_si1 : Room := { frames := 4, cells := 1, slots := 34, locals := 71 }
theorem pn_m_si1 : plainFor (⟨"java/lang/String", "<init>", "(Ljava/lang/StringBuilder;)V"⟩ : MethodName) = true := by first | (refine plainFor_of_name ?_; simp [plainName, overriddenIn]; done) | decide +kernel
abbrev Q_m_si1 (Z : State) (n : Addr) (a : Addr) (v : Addr) (kv : ClassId) (us : List Int32) (cnt : Int32) (h0 : Heap) : Option Value → Heap → List Addr → Prop := fun res h' SN => ∃ (b : Addr) (kb : ClassId), res = none ∧ SN = [] ∧ Exa Z h' n "java/lang/String" ∧ Fld Z h' n "java/lang/String" "coder" "B" (.int (0 : Int32)) ∧ Fld Z h' n "java/lang/String" "value" "[B" (.ref b) ∧ h0.size ≤ b ∧ Arv Z h' b kb .byte cnt (us.map Value.int) (.int (0 : Int32))
theorem ef_m_si1 (mid : MethodId) (n : Addr) (a : Addr) (v : Addr) (kv : ClassId) (us : List Int32) (cnt : Int32) : entryFrame mid #[(.ref n), (.ref a)] 2 = mkF mid 0 #[.val (.ref n), .val (.ref a)] [] := by first | (simp [entryFrame, mkF, argsToLocals, Value.category]; done) | rfl
set_option maxRecDepth 65536 in
set_option maxHeartbeats 40000000 in
theorem m_si1 {l : Launch} {Z : State} {a0 : Array Value} {n0 : Nat} (hw : ∀ d ∈ tables_1, d.before a0 Z = true) (hs : Stat Z) (n : Addr) (a : Addr) (v : Addr) (kv : ClassId) (us : List Int32) (cnt : Int32) (h0 : Heap) (E_n : Exa Z h0 n "java/lang/String") (F_n_coder : Fld Z h0 n "java/lang/String" "coder" "B" (.int (0 : Int32))) (F_n_value : Fld Z h0 n "java/lang/String" "value" "[B" .null) (E_a : Exa Z h0 a "java/lang/StringBuilder") (F_a_value : Fld Z h0 a "java/lang/AbstractStringBuilder" "value" "[B" (.ref v)) (F_a_coder : Fld Z h0 a "java/lang/AbstractStringBuilder" "coder" "B" (.int (0 : Int32))) (F_a_count : Fld Z h0 a "java/lang/AbstractStringBuilder" "count" "I" (.int cnt)) (V_v : Arv Z h0 v kv .byte (34 : Int32) (us.map Value.int) (.int (0 : Int32))) (hc0 : ¬ cnt < 0) (hcnt : cnt.toNatClampNeg = us.length) (hlt : us.length < 34) (ne_a_n : a ≠ n) (ne_v_n : v ≠ n) :
    Met l Z EL0 n0 NR0 KN0 N_23 jdk_42_method_53_code 2 (Option.none : Option Jvm.ClassFile.FieldType) R_m_si1 [n] #[(.ref n), (.ref a)] h0 (Q_m_si1 Z n a v kv us cnt h0) := by
  refine Met.of_go pn_m_si1 (fun mid => ef_m_si1 mid n a v kv us cnt ) ?_
  intro hO hWS
  refine Go.aload_n (pc' := 1) d_jdk_42_method_53_0 rfl rfl rfl ?_
  refine Go.aload_n (pc' := 2) d_jdk_42_method_53_1 rfl rfl rfl ?_
  refine Go.aconst_null (pc' := 3) d_jdk_42_method_53_2 rfl ?_
  refine Go.callI (pc' := 6) (z := N_22) (a := n) d_jdk_42_method_53_3 rfl rfl (w_141 hw) (w_142 hw) (w_143 hw) (by decide) (argsL := [(.ref a), .null]) (rest := []) (Pays.of_met (W := 0) (len := 3) (m_si2 hw hs n a v kv us cnt h0 E_n F_n_coder F_n_value E_a F_a_value F_a_coder F_a_count V_v (hc0) (hcnt) (hlt) ne_a_n ne_v_n) (w_143 hw) (w_6 hw) (by decide) (by decide)) rfl rfl (lenOf pd_15 rfl) rfl (Nat.le_of_eq rfl) (memS (List.mem_of_getElem? (i := 0) rfl) mem0) (by decide) (by decide) ?_
  rintro _ h108 _ K109 le110 ⟨b106, q107, rfl, rfl, p111, p112, p113, p114, p115⟩
  have o_n_b106 : n ≠ b106 := Nat.ne_of_lt (Nat.lt_of_lt_of_le E_n.lt p114)
  have o_a_b106 : a ≠ b106 := Nat.ne_of_lt (Nat.lt_of_lt_of_le E_a.lt p114)
  have o_v_b106 : v ≠ b106 := Nat.ne_of_lt (Nat.lt_of_lt_of_le V_v.lt p114)
  have ge_b106 := Nat.le_trans le110 p114
  replace E_n := E_n.keep K109
  replace E_a := E_a.keep K109
  replace F_a_value := F_a_value.keep K109 (ninS ne_a_n nin0)
  replace F_a_coder := F_a_coder.keep K109 (ninS ne_a_n nin0)
  replace F_a_count := F_a_count.keep K109 (ninS ne_a_n nin0)
  replace V_v := V_v.keep K109 (ninS ne_v_n nin0)
  have F_n_coder := p112
  have F_n_value := p113
  have V_b106 := p115
  change Go _ _ _ _ _ _ _ _ _ _ _ _ _ _ [n] h108 1 34 6 #[.val (.ref n), .val (.ref a)] []
  exact Go.retV d_jdk_42_method_53_6 rfl (by decide) (by decide) [] sn0 ⟨b106, _, rfl, rfl, E_n, F_n_coder, F_n_value, ge_b106, V_b106⟩
abbrev R_m_sts : Room := { frames := 5, cells := 2, slots := 38, locals := 85 }
theorem pn_m_sts : plainFor (⟨"java/lang/StringBuilder", "toString", "()Ljava/lang/String;"⟩ : MethodName) = true := by first | (refine plainFor_of_name ?_; simp [plainName, overriddenIn]; done) | decide +kernel
abbrev Q_m_sts (Z : State) (a : Addr) (v : Addr) (kv : ClassId) (us : List Int32) (cnt : Int32) (h0 : Heap) : Option Value → Heap → List Addr → Prop := fun res h' SN => ∃ (n : Addr) (b : Addr) (kb : ClassId), res = some (.ref n) ∧ SN = [] ∧ h0.size ≤ n ∧ Exa Z h' n "java/lang/String" ∧ Fld Z h' n "java/lang/String" "coder" "B" (.int (0 : Int32)) ∧ Fld Z h' n "java/lang/String" "value" "[B" (.ref b) ∧ h0.size ≤ b ∧ Arv Z h' b kb .byte cnt (us.map Value.int) (.int (0 : Int32))
theorem ef_m_sts (mid : MethodId) (a : Addr) (v : Addr) (kv : ClassId) (us : List Int32) (cnt : Int32) : entryFrame mid #[(.ref a)] 1 = mkF mid 0 #[.val (.ref a)] [] := by first | (simp [entryFrame, mkF, argsToLocals, Value.category]; done) | rfl
set_option maxRecDepth 65536 in
set_option maxHeartbeats 40000000 in
theorem m_sts {l : Launch} {Z : State} {a0 : Array Value} {n0 : Nat} (hw : ∀ d ∈ tables_1, d.before a0 Z = true) (hs : Stat Z) (a : Addr) (v : Addr) (kv : ClassId) (us : List Int32) (cnt : Int32) (h0 : Heap) (E_a : Exa Z h0 a "java/lang/StringBuilder") (F_a_value : Fld Z h0 a "java/lang/AbstractStringBuilder" "value" "[B" (.ref v)) (F_a_coder : Fld Z h0 a "java/lang/AbstractStringBuilder" "coder" "B" (.int (0 : Int32))) (F_a_count : Fld Z h0 a "java/lang/AbstractStringBuilder" "count" "I" (.int cnt)) (V_v : Arv Z h0 v kv .byte (34 : Int32) (us.map Value.int) (.int (0 : Int32))) (hc0 : ¬ cnt < 0) (hcnt : cnt.toNatClampNeg = us.length) (hlt : us.length < 34) :
    Met l Z EL0 n0 NR0 KN0 N_24 jdk_67_method_42_code 1 (Option.some (Jvm.ClassFile.FieldType.object "java/lang/String")) R_m_sts [] #[(.ref a)] h0 (Q_m_sts Z a v kv us cnt h0) := by
  refine Met.of_go pn_m_sts (fun mid => ef_m_sts mid a v kv us cnt ) ?_
  intro hO hWS
  refine Go.newO (pc' := 3) d_jdk_67_method_42_0 rfl (w_137 hw) (w_5 hw) (w_6 hw) (by decide) (by decide) ?_
  intro h116 b117 g118 ge_b117 x119 E_b117 D_b117 U_b117
  have o_a_b117 : a ≠ b117 := Nat.ne_of_lt (Nat.lt_of_lt_of_le E_a.lt (Nat.le_of_eq g118))
  have o_v_b117 : v ≠ b117 := Nat.ne_of_lt (Nat.lt_of_lt_of_le V_v.lt (Nat.le_of_eq g118))
  replace E_a := E_a.ext x119
  replace F_a_value := F_a_value.ext x119
  replace F_a_coder := F_a_coder.ext x119
  replace F_a_count := F_a_count.ext x119
  replace V_v := V_v.ext x119
  have F_b117_coder : Fld Z h116 b117 "java/lang/String" "coder" "B" (.int (0 : Int32)) := D_b117 (Or.inr (w_31 hw)) (ty := .byte) (by decide)
  have F_b117_value : Fld Z h116 b117 "java/lang/String" "value" "[B" .null := D_b117 (Or.inr (w_33 hw)) (ty := (.array .byte)) (by decide)
  change Go _ _ _ _ _ _ _ _ _ _ _ _ _ _ [b117] h116 1 4 3 #[.val (.ref a)] [(.ref b117)]
  refine Go.dup (pc' := 4) d_jdk_67_method_42_3 rfl rfl ?_
  refine Go.aload_n (pc' := 5) d_jdk_67_method_42_4 rfl rfl rfl ?_
  refine Go.callI (pc' := 8) (z := N_23) (a := b117) d_jdk_67_method_42_5 rfl rfl (w_138 hw) (w_139 hw) (w_140 hw) (by decide) (argsL := [(.ref a)]) (rest := [(.ref b117)]) (Pays.of_met (W := 1) (len := 3) (m_si1 hw hs b117 a v kv us cnt h116 E_b117 F_b117_coder F_b117_value E_a F_a_value F_a_coder F_a_count V_v (hc0) (hcnt) (hlt) o_a_b117 o_v_b117) (w_140 hw) (w_6 hw) (by decide) (by decide)) rfl rfl (lenOf pd_16 rfl) rfl (Nat.le_of_eq rfl) (memS (List.mem_of_getElem? (i := 0) rfl) mem0) (by decide) (by decide) ?_
  rintro _ h122 _ K123 le124 ⟨b120, q121, rfl, rfl, p125, p126, p127, p128, p129⟩
  have o_a_b120 : a ≠ b120 := Nat.ne_of_lt (Nat.lt_of_lt_of_le E_a.lt p128)
  have o_v_b120 : v ≠ b120 := Nat.ne_of_lt (Nat.lt_of_lt_of_le V_v.lt p128)
  have o_b117_b120 : b117 ≠ b120 := Nat.ne_of_lt (Nat.lt_of_lt_of_le E_b117.lt p128)
  have ge_b120 := Nat.le_trans le124 p128
  replace E_a := E_a.keep K123
  replace F_a_value := F_a_value.keep K123 (ninS o_a_b117 nin0)
  replace F_a_coder := F_a_coder.keep K123 (ninS o_a_b117 nin0)
  replace F_a_count := F_a_count.keep K123 (ninS o_a_b117 nin0)
  replace V_v := V_v.keep K123 (ninS o_v_b117 nin0)
  replace E_b117 := E_b117.keep K123
  have F_b117_coder := p126
  have F_b117_value := p127
  have V_b120 := p129
  change Go _ _ _ _ _ _ _ _ _ _ _ _ _ _ [b117] h122 2 38 8 #[.val (.ref a)] [(.ref b117)]
  exact Go.retA d_jdk_67_method_42_8 rfl rfl rfl (by decide) (by decide) [] sn0 ⟨b117, b120, _, rfl, rfl, ge_b117, E_b117, F_b117_coder, F_b117_value, ge_b120, V_b120⟩
theorem thrW {Z : State} {a0 : Array Value} (hw : ∀ d ∈ tables_1, d.before a0 Z = true) : ThrW Z a0 "com/example/slackline/slackline/UsageException" 6 := fun d hd => by
  simp only [ThrWL, List.mem_cons, List.not_mem_nil, or_false] at hd
  rcases hd with rfl | rfl | rfl | rfl | rfl | rfl | rfl | rfl | rfl | rfl | rfl | rfl | rfl | rfl | rfl | rfl | rfl | rfl | rfl | rfl | rfl | rfl | rfl | rfl | rfl | rfl | rfl | rfl | rfl | rfl
  · exact (w_183 hw)
  · exact (w_201 hw)
  · exact (w_196 hw)
  · exact (by have e : jdk_78_method_18_code = LibCode.Throwable.Fill.code := (by decide +kernel); exact e ▸ (w_202 hw))
  · exact (w_203 hw)
  · exact (w_204 hw)
  · exact (w_16 hw)
  · exact (w_17 hw)
  · exact (w_185 hw)
  · exact (w_194 hw)
  · exact (w_207 hw)
  · exact (w_186 hw)
  · exact (w_189 hw)
  · exact (w_192 hw)
  · exact (w_188 hw)
  · exact (w_191 hw)
  · exact (w_212 hw)
  · exact (w_187 hw)
  · exact (w_190 hw)
  · exact (w_193 hw)
  · exact (w_217 hw)
  · exact (w_218 hw)
  · exact (w_219 hw)
  · exact (w_199 hw)
  · exact (w_200 hw)
  · exact (w_198 hw)
  · exact (w_216 hw)
  · exact (w_39 hw)
  · exact (w_214 hw)
  · exact (w_215 hw)
abbrev R_m_thr : Room := { frames := 3, cells := 1, slots := 2752, locals := 42 }
theorem pn_m_thr : plainFor (⟨"java/lang/Throwable", "<init>", "(Ljava/lang/String;)V"⟩ : MethodName) = true := by first | (refine plainFor_of_name ?_; simp [plainName, overriddenIn]; done) | decide +kernel
abbrev Q_m_thr (Z : State) (a : Addr) (m : Addr) (h0 : Heap) : Option Value → Heap → List Addr → Prop := fun res h' SN => res = none ∧ SN = [] ∧ Exa Z h' a "com/example/slackline/slackline/UsageException" ∧ Fld Z h' a "java/lang/Throwable" "detailMessage" "Ljava/lang/String;" (.ref m)
theorem ef_m_thr (mid : MethodId) (a : Addr) (m : Addr) : entryFrame mid #[(.ref a), (.ref m)] 2 = mkF mid 0 #[.val (.ref a), .val (.ref m)] [] := by first | (simp [entryFrame, mkF, argsToLocals, Value.category]; done) | rfl
set_option maxRecDepth 65536 in
set_option maxHeartbeats 40000000 in
theorem m_thr {l : Launch} {Z : State} {a0 : Array Value} {n0 : Nat} (hw : ∀ d ∈ tables_1, d.before a0 Z = true) (hs : Stat Z) (a : Addr) (m : Addr) (h0 : Heap) (E_a : Exa Z h0 a "com/example/slackline/slackline/UsageException") (U_a : Unt h0 a) (F_a_cause : Fld Z h0 a "java/lang/Throwable" "cause" "Ljava/lang/Throwable;" .null) (F_a_stackTrace : Fld Z h0 a "java/lang/Throwable" "stackTrace" "[Ljava/lang/StackTraceElement;" .null) (F_a_suppressedExceptions : Fld Z h0 a "java/lang/Throwable" "suppressedExceptions" "Ljava/util/List;" .null) (F_a_detailMessage : Fld Z h0 a "java/lang/Throwable" "detailMessage" "Ljava/lang/String;" .null) (F_a_backtrace : Fld Z h0 a "java/lang/Throwable" "backtrace" "Ljava/lang/Object;" .null) (hst : l.stackTraces = true) :
    Met l Z EL0 n0 NR0 KN0 N_26 jdk_78_method_2_code 2 (Option.none : Option Jvm.ClassFile.FieldType) R_m_thr [a] #[(.ref a), (.ref m)] h0 (Q_m_thr Z a m h0) := by
  refine Met.of_go pn_m_thr (fun mid => ef_m_thr mid a m ) ?_
  intro hO hWS
  obtain ⟨⟨u0, S_u⟩, v0, S_v⟩ := hs_T hs
  refine Go.aload_n (pc' := 1) d_jdk_78_method_2_0 rfl rfl rfl ?_
  refine Go.initO (pc' := 4) (W := 0) d_jdk_78_method_2_1 rfl (w_185 hw) (w_16 hw) (w_17 hw) rfl (by decide) (Nat.le_of_eq rfl) (by decide) ?_
  refine Go.aload_n (pc' := 5) d_jdk_78_method_2_4 rfl rfl rfl ?_
  refine Go.aload_n (pc' := 6) d_jdk_78_method_2_5 rfl rfl rfl ?_
  refine Go.putF (pc' := 9) d_jdk_78_method_2_6 rfl (List.mem_of_getElem? (i := 0) rfl) (host := "") (Or.inl (w_186 hw)) Via.refl F_a_cause E_a (Or.inl (w_187 hw)) (w_39 hw) (ty := (.object "java/lang/Throwable")) (by decide) rfl rfl ?_
  intro h130 W131
  replace F_a_cause := F_a_cause.same W131
  replace E_a := E_a.wr W131
  replace U_a := own_unt_wr W131 U_a
  replace F_a_stackTrace := F_a_stackTrace.other W131 (Or.inr (slot_ne (Or.inl (w_190 hw)) (Or.inl (w_187 hw)) (by decide) (t := (.array (.object "java/lang/StackTraceElement"))) (t' := (.object "java/lang/Throwable")) (by decide) (by decide)))
  replace F_a_suppressedExceptions := F_a_suppressedExceptions.other W131 (Or.inr (slot_ne (Or.inl (w_193 hw)) (Or.inl (w_187 hw)) (by decide) (t := (.object "java/util/List")) (t' := (.object "java/lang/Throwable")) (by decide) (by decide)))
  replace F_a_detailMessage := F_a_detailMessage.other W131 (Or.inr (slot_ne (Or.inl (w_217 hw)) (Or.inl (w_187 hw)) (by decide) (t := (.object "java/lang/String")) (t' := (.object "java/lang/Throwable")) (by decide) (by decide)))
  replace F_a_backtrace := F_a_backtrace.other W131 (Or.inr (slot_ne (Or.inl (w_218 hw)) (Or.inl (w_187 hw)) (by decide) (t := (.object "java/lang/Object")) (t' := (.object "java/lang/Throwable")) (by decide) (by decide)))
  change Go _ _ _ _ _ _ _ _ _ _ _ _ _ _ [a] h130 0 0 9 #[.val (.ref a), .val (.ref m)] []
  refine Go.aload_n (pc' := 10) d_jdk_78_method_2_9 rfl rfl rfl ?_
  refine Go.getS (pc' := 13) d_jdk_78_method_2_10 rfl (host := "") (Or.inl (w_188 hw)) Via.refl S_u ?_
  refine Go.putF (pc' := 16) d_jdk_78_method_2_13 rfl (List.mem_of_getElem? (i := 0) rfl) (host := "") (Or.inl (w_189 hw)) Via.refl F_a_stackTrace E_a (Or.inl (w_190 hw)) (w_39 hw) (ty := (.array (.object "java/lang/StackTraceElement"))) (by decide) rfl rfl ?_
  intro h132 W133
  replace F_a_stackTrace := F_a_stackTrace.same W133
  replace E_a := E_a.wr W133
  replace U_a := own_unt_wr W133 U_a
  replace F_a_suppressedExceptions := F_a_suppressedExceptions.other W133 (Or.inr (slot_ne (Or.inl (w_193 hw)) (Or.inl (w_190 hw)) (by decide) (t := (.object "java/util/List")) (t' := (.array (.object "java/lang/StackTraceElement"))) (by decide) (by decide)))
  replace F_a_detailMessage := F_a_detailMessage.other W133 (Or.inr (slot_ne (Or.inl (w_217 hw)) (Or.inl (w_190 hw)) (by decide) (t := (.object "java/lang/String")) (t' := (.array (.object "java/lang/StackTraceElement"))) (by decide) (by decide)))
  replace F_a_backtrace := F_a_backtrace.other W133 (Or.inr (slot_ne (Or.inl (w_218 hw)) (Or.inl (w_190 hw)) (by decide) (t := (.object "java/lang/Object")) (t' := (.array (.object "java/lang/StackTraceElement"))) (by decide) (by decide)))
  replace F_a_cause := F_a_cause.other W133 (Or.inr (slot_ne (Or.inl (w_187 hw)) (Or.inl (w_190 hw)) (by decide) (t := (.object "java/lang/Throwable")) (t' := (.array (.object "java/lang/StackTraceElement"))) (by decide) (by decide)))
  change Go _ _ _ _ _ _ _ _ _ _ _ _ _ _ [a] h132 0 0 16 #[.val (.ref a), .val (.ref m)] []
  refine Go.aload_n (pc' := 17) d_jdk_78_method_2_16 rfl rfl rfl ?_
  refine Go.getS (pc' := 20) d_jdk_78_method_2_17 rfl (host := "") (Or.inl (w_191 hw)) Via.refl S_v ?_
  refine Go.putF (pc' := 23) d_jdk_78_method_2_20 rfl (List.mem_of_getElem? (i := 0) rfl) (host := "") (Or.inl (w_192 hw)) Via.refl F_a_suppressedExceptions E_a (Or.inl (w_193 hw)) (w_39 hw) (ty := (.object "java/util/List")) (by decide) rfl rfl ?_
  intro h134 W135
  replace F_a_suppressedExceptions := F_a_suppressedExceptions.same W135
  replace E_a := E_a.wr W135
  replace U_a := own_unt_wr W135 U_a
  replace F_a_detailMessage := F_a_detailMessage.other W135 (Or.inr (slot_ne (Or.inl (w_217 hw)) (Or.inl (w_193 hw)) (by decide) (t := (.object "java/lang/String")) (t' := (.object "java/util/List")) (by decide) (by decide)))
  replace F_a_backtrace := F_a_backtrace.other W135 (Or.inr (slot_ne (Or.inl (w_218 hw)) (Or.inl (w_193 hw)) (by decide) (t := (.object "java/lang/Object")) (t' := (.object "java/util/List")) (by decide) (by decide)))
  replace F_a_cause := F_a_cause.other W135 (Or.inr (slot_ne (Or.inl (w_187 hw)) (Or.inl (w_193 hw)) (by decide) (t := (.object "java/lang/Throwable")) (t' := (.object "java/util/List")) (by decide) (by decide)))
  replace F_a_stackTrace := F_a_stackTrace.other W135 (Or.inr (slot_ne (Or.inl (w_190 hw)) (Or.inl (w_193 hw)) (by decide) (t := (.array (.object "java/lang/StackTraceElement"))) (t' := (.object "java/util/List")) (by decide) (by decide)))
  change Go _ _ _ _ _ _ _ _ _ _ _ _ _ _ [a] h134 0 0 23 #[.val (.ref a), .val (.ref m)] []
  refine Go.aload_n (pc' := 24) d_jdk_78_method_2_23 rfl rfl rfl ?_
  refine Go.callV (pc' := 27) (u := N_25) (z := N_25) (a := a) d_jdk_78_method_2_24 rfl (w_194 hw) (w_195 hw) (nf (w_197 hw) rfl) (w_197 hw) (w_196 hw) (by decide) E_a (argsL := []) (rest := []) (own_fillPays (W := 0) hst (thrW hw) S_u E_a U_a F_a_stackTrace F_a_backtrace (by decide) (by decide)) rfl rfl (lenOf pd_17 rfl) rfl (Nat.le_of_eq rfl) (memS (List.mem_of_getElem? (i := 0) rfl) mem0) (by decide) (by decide) ?_
  rintro _ h136 _ K137 le138 ⟨rfl, rfl, E_n, hM⟩
  replace F_a_detailMessage := hM _ F_a_detailMessage
  replace E_a := E_a.keep K137
  change Go _ _ _ _ _ _ _ _ _ _ _ _ _ _ [a] h136 1 2752 27 #[.val (.ref a), .val (.ref m)] [(.ref a)]
  refine Go.pop (pc' := 28) d_jdk_78_method_2_27 rfl rfl ?_
  refine Go.aload_n (pc' := 29) d_jdk_78_method_2_28 rfl rfl rfl ?_
  refine Go.aload_n (pc' := 30) d_jdk_78_method_2_29 rfl rfl rfl ?_
  refine Go.putF (pc' := 33) d_jdk_78_method_2_30 rfl (List.mem_of_getElem? (i := 0) rfl) (host := "") (Or.inl (w_221 hw)) Via.refl F_a_detailMessage E_a (Or.inl (w_217 hw)) (w_39 hw) (ty := (.object "java/lang/String")) (by decide) rfl rfl ?_
  intro h139 W140
  replace F_a_detailMessage := F_a_detailMessage.same W140
  replace E_a := E_a.wr W140
  change Go _ _ _ _ _ _ _ _ _ _ _ _ _ _ [a] h139 1 2752 33 #[.val (.ref a), .val (.ref m)] []
  exact Go.retV d_jdk_78_method_2_33 rfl (by decide) (by decide) [] sn0 ⟨rfl, rfl, E_a, F_a_detailMessage⟩
abbrev R_m_exc : Room := { frames := 4, cells := 1, slots := 2752, locals := 55 }
theorem pn_m_exc : plainFor (⟨"java/lang/Exception", "<init>", "(Ljava/lang/String;)V"⟩ : MethodName) = true := by first | (refine plainFor_of_name ?_; simp [plainName, overriddenIn]; done) | decide +kernel
abbrev Q_m_exc (Z : State) (a : Addr) (m : Addr) (h0 : Heap) : Option Value → Heap → List Addr → Prop := fun res h' SN => res = none ∧ SN = [] ∧ Exa Z h' a "com/example/slackline/slackline/UsageException" ∧ Fld Z h' a "java/lang/Throwable" "detailMessage" "Ljava/lang/String;" (.ref m)
theorem ef_m_exc (mid : MethodId) (a : Addr) (m : Addr) : entryFrame mid #[(.ref a), (.ref m)] 2 = mkF mid 0 #[.val (.ref a), .val (.ref m)] [] := by first | (simp [entryFrame, mkF, argsToLocals, Value.category]; done) | rfl
set_option maxRecDepth 65536 in
set_option maxHeartbeats 40000000 in
theorem m_exc {l : Launch} {Z : State} {a0 : Array Value} {n0 : Nat} (hw : ∀ d ∈ tables_1, d.before a0 Z = true) (hs : Stat Z) (a : Addr) (m : Addr) (h0 : Heap) (E_a : Exa Z h0 a "com/example/slackline/slackline/UsageException") (U_a : Unt h0 a) (F_a_cause : Fld Z h0 a "java/lang/Throwable" "cause" "Ljava/lang/Throwable;" .null) (F_a_stackTrace : Fld Z h0 a "java/lang/Throwable" "stackTrace" "[Ljava/lang/StackTraceElement;" .null) (F_a_suppressedExceptions : Fld Z h0 a "java/lang/Throwable" "suppressedExceptions" "Ljava/util/List;" .null) (F_a_detailMessage : Fld Z h0 a "java/lang/Throwable" "detailMessage" "Ljava/lang/String;" .null) (F_a_backtrace : Fld Z h0 a "java/lang/Throwable" "backtrace" "Ljava/lang/Object;" .null) (hst : l.stackTraces = true) :
    Met l Z EL0 n0 NR0 KN0 N_27 jdk_59_method_2_code 2 (Option.none : Option Jvm.ClassFile.FieldType) R_m_exc [a] #[(.ref a), (.ref m)] h0 (Q_m_exc Z a m h0) := by
  refine Met.of_go pn_m_exc (fun mid => ef_m_exc mid a m ) ?_
  intro hO hWS
  refine Go.aload_n (pc' := 1) d_jdk_59_method_2_0 rfl rfl rfl ?_
  refine Go.aload_n (pc' := 2) d_jdk_59_method_2_1 rfl rfl rfl ?_
  refine Go.callI (pc' := 5) (z := N_26) (a := a) d_jdk_59_method_2_2 rfl rfl (w_179 hw) (w_180 hw) (w_184 hw) (by decide) (argsL := [(.ref m)]) (rest := []) (Pays.of_met (W := 0) (len := 3) (m_thr hw hs a m h0 E_a U_a F_a_cause F_a_stackTrace F_a_suppressedExceptions F_a_detailMessage F_a_backtrace (hst)) (w_184 hw) (w_183 hw) (by decide) (by decide)) rfl rfl (lenOf pd_6 rfl) rfl (Nat.le_of_eq rfl) (memS (List.mem_of_getElem? (i := 0) rfl) mem0) (by decide) (by decide) ?_
  rintro _ h141 _ K142 le143 ⟨rfl, rfl, p144, p145⟩
  replace E_a := E_a.keep K142
  have F_a_detailMessage := p145
  change Go _ _ _ _ _ _ _ _ _ _ _ _ _ _ [a] h141 1 2752 5 #[.val (.ref a), .val (.ref m)] []
  exact Go.retV d_jdk_59_method_2_5 rfl (by decide) (by decide) [] sn0 ⟨rfl, rfl, E_a, F_a_detailMessage⟩
abbrev R_m_own : Room := { frames := 5, cells := 1, slots := 2752, locals := 68 }
theorem pn_m_own : plainFor (⟨"com/example/slackline/slackline/UsageException", "<init>", "(Ljava/lang/String;)V"⟩ : MethodName) = true := by first | (refine plainFor_of_name ?_; simp [plainName, overriddenIn]; done) | decide +kernel
abbrev Q_m_own (Z : State) (a : Addr) (m : Addr) (h0 : Heap) : Option Value → Heap → List Addr → Prop := fun res h' SN => res = none ∧ SN = [] ∧ Exa Z h' a "com/example/slackline/slackline/UsageException" ∧ Fld Z h' a "java/lang/Throwable" "detailMessage" "Ljava/lang/String;" (.ref m)
theorem ef_m_own (mid : MethodId) (a : Addr) (m : Addr) : entryFrame mid #[(.ref a), (.ref m)] 2 = mkF mid 0 #[.val (.ref a), .val (.ref m)] [] := by first | (simp [entryFrame, mkF, argsToLocals, Value.category]; done) | rfl
set_option maxRecDepth 65536 in
set_option maxHeartbeats 40000000 in
theorem m_own {l : Launch} {Z : State} {a0 : Array Value} {n0 : Nat} (hw : ∀ d ∈ tables_1, d.before a0 Z = true) (hs : Stat Z) (a : Addr) (m : Addr) (h0 : Heap) (E_a : Exa Z h0 a "com/example/slackline/slackline/UsageException") (U_a : Unt h0 a) (F_a_cause : Fld Z h0 a "java/lang/Throwable" "cause" "Ljava/lang/Throwable;" .null) (F_a_stackTrace : Fld Z h0 a "java/lang/Throwable" "stackTrace" "[Ljava/lang/StackTraceElement;" .null) (F_a_suppressedExceptions : Fld Z h0 a "java/lang/Throwable" "suppressedExceptions" "Ljava/util/List;" .null) (F_a_detailMessage : Fld Z h0 a "java/lang/Throwable" "detailMessage" "Ljava/lang/String;" .null) (F_a_backtrace : Fld Z h0 a "java/lang/Throwable" "backtrace" "Ljava/lang/Object;" .null) (hst : l.stackTraces = true) :
    Met l Z EL0 n0 NR0 KN0 N_28 prog_53_method_1_code 2 (Option.none : Option Jvm.ClassFile.FieldType) R_m_own [a] #[(.ref a), (.ref m)] h0 (Q_m_own Z a m h0) := by
  refine Met.of_go pn_m_own (fun mid => ef_m_own mid a m ) ?_
  intro hO hWS
  refine Go.aload_n (pc' := 1) d_prog_53_method_1_0 rfl rfl rfl ?_
  refine Go.aload_n (pc' := 2) d_prog_53_method_1_1 rfl rfl rfl ?_
  refine Go.callI (pc' := 5) (z := N_27) (a := a) d_prog_53_method_1_2 rfl rfl (w_174 hw) (w_175 hw) (w_178 hw) (by decide) (argsL := [(.ref m)]) (rest := []) (Pays.of_met (W := 0) (len := 3) (m_exc hw hs a m h0 E_a U_a F_a_cause F_a_stackTrace F_a_suppressedExceptions F_a_detailMessage F_a_backtrace (hst)) (w_178 hw) (w_177 hw) (by decide) (by decide)) rfl rfl (lenOf pd_6 rfl) rfl (Nat.le_of_eq rfl) (memS (List.mem_of_getElem? (i := 0) rfl) mem0) (by decide) (by decide) ?_
  rintro _ h146 _ K147 le148 ⟨rfl, rfl, p149, p150⟩
  replace E_a := E_a.keep K147
  have F_a_detailMessage := p150
  change Go _ _ _ _ _ _ _ _ _ _ _ _ _ _ [a] h146 1 2752 5 #[.val (.ref a), .val (.ref m)] []
  exact Go.retV d_prog_53_method_1_5 rfl (by decide) (by decide) [] sn0 ⟨rfl, rfl, E_a, F_a_detailMessage⟩
abbrev R_m_gm : Room := { frames := 0, cells := 0, slots := 0, locals := 0 }
theorem pn_m_gm : plainFor (⟨"java/lang/Throwable", "getMessage", "()Ljava/lang/String;"⟩ : MethodName) = true := by first | (refine plainFor_of_name ?_; simp [plainName, overriddenIn]; done) | decide +kernel
abbrev Q_m_gm (Z : State) (a : Addr) (m : Addr) (h0 : Heap) : Option Value → Heap → List Addr → Prop := fun res h' SN => res = some (.ref m) ∧ SN = [] ∧ h0 = h'
theorem ef_m_gm (mid : MethodId) (a : Addr) (m : Addr) : entryFrame mid #[(.ref a)] 1 = mkF mid 0 #[.val (.ref a)] [] := by first | (simp [entryFrame, mkF, argsToLocals, Value.category]; done) | rfl
set_option maxRecDepth 65536 in
set_option maxHeartbeats 40000000 in
theorem m_gm {l : Launch} {Z : State} {a0 : Array Value} {n0 : Nat} (hw : ∀ d ∈ tables_1, d.before a0 Z = true) (hs : Stat Z) (a : Addr) (m : Addr) (h0 : Heap) (F_a_detailMessage : Fld Z h0 a "java/lang/Throwable" "detailMessage" "Ljava/lang/String;" (.ref m)) :
    Met l Z EL0 n0 NR0 KN0 N_29 jdk_78_method_6_code 1 (Option.some (Jvm.ClassFile.FieldType.object "java/lang/String")) R_m_gm [] #[(.ref a)] h0 (Q_m_gm Z a m h0) := by
  refine Met.of_go pn_m_gm (fun mid => ef_m_gm mid a m ) ?_
  intro hO hWS
  refine Go.aload_n (pc' := 1) d_jdk_78_method_6_0 rfl rfl rfl ?_
  refine Go.getF (pc' := 4) d_jdk_78_method_6_1 rfl (host := "") (Or.inl (w_221 hw)) Via.refl F_a_detailMessage ?_
  exact Go.retA d_jdk_78_method_6_4 rfl rfl rfl (by decide) (by decide) [] sn0 ⟨rfl, rfl, rfl⟩
abbrev R_m_un : Room := { frames := 6, cells := 11, slots := 2946, locals := 99 }
theorem pn_m_un : plainFor (⟨"com/example/slackline/slackline/UsageException", "unrecognizedOption", "(Ljava/lang/String;)Lcom/example/slackline/slackline/UsageException;"⟩ : MethodName) = true := by first | (refine plainFor_of_name ?_; simp [plainName, overriddenIn]; done) | decide +kernel
abbrev Q_m_un (Z : State) (s : Addr) (t : Addr) (kt : ClassId) (ws : List Int32) (z2 : Int32) (h0 : Heap) : Option Value → Heap → List Addr → Prop := fun res h' SN => ∃ (e : Addr) (n : Addr) (b : Addr) (kb : ClassId), res = some (.ref e) ∧ SN = [] ∧ Exa Z h' e "com/example/slackline/slackline/UsageException" ∧ Fld Z h' e "java/lang/Throwable" "detailMessage" "Ljava/lang/String;" (.ref n) ∧ Exa Z h' n "java/lang/String" ∧ Fld Z h' n "java/lang/String" "coder" "B" (.int (0 : Int32)) ∧ Fld Z h' n "java/lang/String" "value" "[B" (.ref b) ∧ Arv Z h' b kb .byte (((21 : Int32) + z2) + (1 : Int32)) (((PFX ++ ws) ++ [(39 : Int32)]).map Value.int) (.int (0 : Int32))
theorem ef_m_un (mid : MethodId) (s : Addr) (t : Addr) (kt : ClassId) (ws : List Int32) (z2 : Int32) : entryFrame mid #[(.ref s)] 1 = mkF mid 0 #[.val (.ref s)] [] := by first | (simp [entryFrame, mkF, argsToLocals, Value.category]; done) | rfl
set_option maxRecDepth 65536 in
set_option maxHeartbeats 40000000 in
theorem m_un {l : Launch} {Z : State} {a0 : Array Value} {n0 : Nat} (hw : ∀ d ∈ tables_1, d.before a0 Z = true) (hs : Stat Z) (s : Addr) (t : Addr) (kt : ClassId) (ws : List Int32) (z2 : Int32) (h0 : Heap) (E_s : Exa Z h0 s "java/lang/String") (F_s_coder : Fld Z h0 s "java/lang/String" "coder" "B" (.int (0 : Int32))) (F_s_value : Fld Z h0 s "java/lang/String" "value" "[B" (.ref t)) (V_t : Arv Z h0 t kt .byte z2 (ws.map Value.int) (.int (0 : Int32))) (hz2 : z2.toNatClampNeg = ws.length) (hw3 : ws.length ≤ 3) (hst : l.stackTraces = true) :
    Met l Z EL0 n0 NR0 KN0 N_30 prog_53_method_2_code 1 (Option.some (Jvm.ClassFile.FieldType.object "com/example/slackline/slackline/UsageException")) R_m_un [] #[(.ref s)] h0 (Q_m_un Z s t kt ws z2 h0) := by
  refine Met.of_go pn_m_un (fun mid => ef_m_un mid s t kt ws z2 ) ?_
  intro hO hWS
  have zn := arv_nn V_t
  have e21 : (21 : Int32).toNatClampNeg = 21 := by decide
  have e1 : (1 : Int32).toNatClampNeg = 1 := by decide
  have a1 := own_addc (c := (21 : Int32)) (z := z2) (by decide) zn (by omega)
  have a2 := own_addc (c := (21 : Int32) + z2) (z := (1 : Int32)) a1.1 (by decide) (by omega)
  refine Go.newO (pc' := 3) d_prog_53_method_2_0 rfl (w_38 hw) (w_39 hw) (w_36 hw) (by decide) (by decide) ?_
  intro h151 b152 g153 ge_b152 x154 E_b152 D_b152 U_b152
  have o_s_b152 : s ≠ b152 := Nat.ne_of_lt (Nat.lt_of_lt_of_le E_s.lt (Nat.le_of_eq g153))
  have o_t_b152 : t ≠ b152 := Nat.ne_of_lt (Nat.lt_of_lt_of_le V_t.lt (Nat.le_of_eq g153))
  replace E_s := E_s.ext x154
  replace F_s_coder := F_s_coder.ext x154
  replace F_s_value := F_s_value.ext x154
  replace V_t := V_t.ext x154
  have F_b152_cause : Fld Z h151 b152 "java/lang/Throwable" "cause" "Ljava/lang/Throwable;" .null := D_b152 (Or.inl (w_187 hw)) (ty := (.object "java/lang/Throwable")) (by decide)
  have F_b152_stackTrace : Fld Z h151 b152 "java/lang/Throwable" "stackTrace" "[Ljava/lang/StackTraceElement;" .null := D_b152 (Or.inl (w_190 hw)) (ty := (.array (.object "java/lang/StackTraceElement"))) (by decide)
  have F_b152_suppressedExceptions : Fld Z h151 b152 "java/lang/Throwable" "suppressedExceptions" "Ljava/util/List;" .null := D_b152 (Or.inl (w_193 hw)) (ty := (.object "java/util/List")) (by decide)
  have F_b152_detailMessage : Fld Z h151 b152 "java/lang/Throwable" "detailMessage" "Ljava/lang/String;" .null := D_b152 (Or.inl (w_217 hw)) (ty := (.object "java/lang/String")) (by decide)
  have F_b152_backtrace : Fld Z h151 b152 "java/lang/Throwable" "backtrace" "Ljava/lang/Object;" .null := D_b152 (Or.inl (w_218 hw)) (ty := (.object "java/lang/Object")) (by decide)
  have F_b152_depth : Fld Z h151 b152 "java/lang/Throwable" "depth" "I" (.int (0 : Int32)) := D_b152 (Or.inl (w_219 hw)) (ty := .int) (by decide)
  change Go _ _ _ _ _ _ _ _ _ _ _ _ _ _ [b152] h151 1 6 3 #[.val (.ref s)] [(.ref b152)]
  refine Go.dup (pc' := 4) d_prog_53_method_2_3 rfl rfl ?_
  refine Go.newO (pc' := 7) d_prog_53_method_2_4 rfl (w_40 hw) (w_41 hw) (w_42 hw) (by decide) (by decide) ?_
  intro h155 b156 g157 ge_b156 x158 E_b156 D_b156 U_b156
  have o_s_b156 : s ≠ b156 := Nat.ne_of_lt (Nat.lt_of_lt_of_le E_s.lt (Nat.le_of_eq g157))
  have o_t_b156 : t ≠ b156 := Nat.ne_of_lt (Nat.lt_of_lt_of_le V_t.lt (Nat.le_of_eq g157))
  have o_b152_b156 : b152 ≠ b156 := Nat.ne_of_lt (Nat.lt_of_lt_of_le E_b152.lt (Nat.le_of_eq g157))
  replace E_s := E_s.ext x158
  replace F_s_coder := F_s_coder.ext x158
  replace F_s_value := F_s_value.ext x158
  replace V_t := V_t.ext x158
  replace E_b152 := E_b152.ext x158
  replace U_b152 := unt_ext x158 U_b152
  replace F_b152_cause := F_b152_cause.ext x158
  replace F_b152_stackTrace := F_b152_stackTrace.ext x158
  replace F_b152_suppressedExceptions := F_b152_suppressedExceptions.ext x158
  replace F_b152_detailMessage := F_b152_detailMessage.ext x158
  replace F_b152_backtrace := F_b152_backtrace.ext x158
  replace F_b152_depth := F_b152_depth.ext x158
  have F_b156_value : Fld Z h155 b156 "java/lang/AbstractStringBuilder" "value" "[B" .null := D_b156 (Or.inl (w_55 hw)) (ty := (.array .byte)) (by decide)
  have F_b156_coder : Fld Z h155 b156 "java/lang/AbstractStringBuilder" "coder" "B" (.int (0 : Int32)) := D_b156 (Or.inl (w_57 hw)) (ty := .byte) (by decide)
  have F_b156_count : Fld Z h155 b156 "java/lang/AbstractStringBuilder" "count" "I" (.int (0 : Int32)) := D_b156 (Or.inl (w_82 hw)) (ty := .int) (by decide)
  change Go _ _ _ _ _ _ _ _ _ _ _ _ _ _ [b156, b152] h155 2 10 7 #[.val (.ref s)] [(.ref b156), (.ref b152), (.ref b152)]
  refine Go.dup (pc' := 8) d_prog_53_method_2_7 rfl rfl ?_
  refine Go.callI (pc' := 11) (z := N_1) (a := b156) d_prog_53_method_2_8 rfl rfl (w_43 hw) (w_44 hw) (w_45 hw) (by decide) (argsL := []) (rest := [(.ref b156), (.ref b152), (.ref b152)]) (Pays.of_met (W := 3) (len := 3) (m_sb hw hs b156 h155 E_b156 F_b156_value F_b156_coder F_b156_count) (w_45 hw) (w_42 hw) (by decide) (by decide)) rfl rfl (lenOf pd_18 rfl) rfl (Nat.le_of_eq rfl) (memS (List.mem_of_getElem? (i := 0) rfl) mem0) (by decide) (by decide) ?_
  rintro _ h161 _ K162 le163 ⟨b159, q160, rfl, rfl, p164, p165, p166, p167, p168, p169⟩
  have o_s_b159 : s ≠ b159 := Nat.ne_of_lt (Nat.lt_of_lt_of_le E_s.lt p168)
  have o_t_b159 : t ≠ b159 := Nat.ne_of_lt (Nat.lt_of_lt_of_le V_t.lt p168)
  have o_b152_b159 : b152 ≠ b159 := Nat.ne_of_lt (Nat.lt_of_lt_of_le E_b152.lt p168)
  have o_b156_b159 : b156 ≠ b159 := Nat.ne_of_lt (Nat.lt_of_lt_of_le E_b156.lt p168)
  have ge_b159 := Nat.le_trans le163 p168
  replace E_s := E_s.keep K162
  replace F_s_coder := F_s_coder.keep K162 (ninS o_s_b156 nin0)
  replace F_s_value := F_s_value.keep K162 (ninS o_s_b156 nin0)
  replace V_t := V_t.keep K162 (ninS o_t_b156 nin0)
  replace E_b152 := E_b152.keep K162
  replace U_b152 := own_unt_keep K162 (ninS o_b152_b156 nin0) U_b152
  replace F_b152_cause := F_b152_cause.keep K162 (ninS o_b152_b156 nin0)
  replace F_b152_stackTrace := F_b152_stackTrace.keep K162 (ninS o_b152_b156 nin0)
  replace F_b152_suppressedExceptions := F_b152_suppressedExceptions.keep K162 (ninS o_b152_b156 nin0)
  replace F_b152_detailMessage := F_b152_detailMessage.keep K162 (ninS o_b152_b156 nin0)
  replace F_b152_backtrace := F_b152_backtrace.keep K162 (ninS o_b152_b156 nin0)
  replace F_b152_depth := F_b152_depth.keep K162 (ninS o_b152_b156 nin0)
  replace E_b156 := E_b156.keep K162
  have F_b156_value := p165
  have F_b156_coder := p166
  have F_b156_count := p167
  have V_b159 := p169
  change Go _ _ _ _ _ _ _ _ _ _ _ _ _ _ [b159, b156, b152] h161 3 26 11 #[.val (.ref s)] [(.ref b156), (.ref b152), (.ref b152)]
  refine Go.ldcS (pc' := 13) (nn := 84) (z := 21) (vs := [(.int (117 : Int32)), (.int (110 : Int32)), (.int (114 : Int32)), (.int (101 : Int32)), (.int (99 : Int32)), (.int (111 : Int32)), (.int (103 : Int32)), (.int (110 : Int32)), (.int (105 : Int32)), (.int (122 : Int32)), (.int (101 : Int32)), (.int (100 : Int32)), (.int (32 : Int32)), (.int (111 : Int32)), (.int (112 : Int32)), (.int (116 : Int32)), (.int (105 : Int32)), (.int (111 : Int32)), (.int (110 : Int32)), (.int (32 : Int32)), (.int (39 : Int32))]) rfl d_prog_53_method_2_11 rfl (w_58 hw) (sA hw) (by decide) lit_0 (by decide) (by decide) (by decide) (by decide) (by decide) (by decide) ?_
  intro h170 s171 t172 q173 x174 E_s171 F_s171_coder F_s171_value V_t172 ne175
  replace E_s := E_s.ext x174
  replace F_s_coder := F_s_coder.ext x174
  replace F_s_value := F_s_value.ext x174
  replace V_t := V_t.ext x174
  replace E_b152 := E_b152.ext x174
  replace U_b152 := unt_ext x174 U_b152
  replace F_b152_cause := F_b152_cause.ext x174
  replace F_b152_stackTrace := F_b152_stackTrace.ext x174
  replace F_b152_suppressedExceptions := F_b152_suppressedExceptions.ext x174
  replace F_b152_detailMessage := F_b152_detailMessage.ext x174
  replace F_b152_backtrace := F_b152_backtrace.ext x174
  replace F_b152_depth := F_b152_depth.ext x174
  replace E_b156 := E_b156.ext x174
  replace F_b156_value := F_b156_value.ext x174
  replace F_b156_coder := F_b156_coder.ext x174
  replace F_b156_count := F_b156_count.ext x174
  replace V_b159 := V_b159.ext x174
  have o_b159_s171 := (ne175 b159 (List.mem_of_getElem? (i := 0) rfl)).1
  have o_b159_t172 := (ne175 b159 (List.mem_of_getElem? (i := 0) rfl)).2
  have o_b156_s171 := (ne175 b156 (List.mem_of_getElem? (i := 1) rfl)).1
  have o_b156_t172 := (ne175 b156 (List.mem_of_getElem? (i := 1) rfl)).2
  have o_b152_s171 := (ne175 b152 (List.mem_of_getElem? (i := 2) rfl)).1
  have o_b152_t172 := (ne175 b152 (List.mem_of_getElem? (i := 2) rfl)).2
  change Go _ _ _ _ _ _ _ _ _ _ _ _ _ _ [b159, b156, b152] h170 5 114 13 #[.val (.ref s)] [(.ref s171), (.ref b156), (.ref b152), (.ref b152)]
  replace V_t172 : Arv Z h170 t172 q173 .byte (21 : Int32) (PFX.map Value.int) (.int (0 : Int32)) := V_t172
  refine Go.callV (pc' := 16) (u := N_14) (z := N_14) (a := b156) d_prog_53_method_2_13 rfl (w_61 hw) (w_62 hw) (nf (w_64 hw) rfl) (w_64 hw) (w_63 hw) (by decide) E_b156 (argsL := [(.ref s171)]) (rest := [(.ref b152), (.ref b152)]) (Pays.of_met (W := 2) (len := 3) (m_aapg2 hw hs b156 s171 t172 q173 PFX b159 q160 h170 E_b156 F_b156_value F_b156_coder F_b156_count V_b159 E_s171 F_s171_coder F_s171_value V_t172 (rfl) (Ne.symm o_b156_b159) (Ne.symm o_b156_t172) (Ne.symm o_b159_t172) (Ne.symm o_b156_s171)) (w_65 hw) (w_42 hw) (by decide) (by decide)) rfl rfl (lenOf pd_19 rfl) rfl (Nat.le_of_eq rfl) (memS (List.mem_of_getElem? (i := 1) rfl) mem0) (by decide) (by decide) ?_
  rintro _ h178 _ K179 le180 ⟨b176, q177, rfl, rfl, p181, p182, p183, p184, p185, p186⟩
  have o_s_b176 : s ≠ b176 := Nat.ne_of_lt (Nat.lt_of_lt_of_le E_s.lt p185)
  have o_t_b176 : t ≠ b176 := Nat.ne_of_lt (Nat.lt_of_lt_of_le V_t.lt p185)
  have o_b152_b176 : b152 ≠ b176 := Nat.ne_of_lt (Nat.lt_of_lt_of_le E_b152.lt p185)
  have o_b156_b176 : b156 ≠ b176 := Nat.ne_of_lt (Nat.lt_of_lt_of_le E_b156.lt p185)
  have o_b159_b176 : b159 ≠ b176 := Nat.ne_of_lt (Nat.lt_of_lt_of_le V_b159.lt p185)
  have o_s171_b176 : s171 ≠ b176 := Nat.ne_of_lt (Nat.lt_of_lt_of_le E_s171.lt p185)
  have o_t172_b176 : t172 ≠ b176 := Nat.ne_of_lt (Nat.lt_of_lt_of_le V_t172.lt p185)
  have ge_b176 := Nat.le_trans le180 p185
  replace E_s := E_s.keep K179
  replace F_s_coder := F_s_coder.keep K179 (ninS o_s_b156 nin0)
  replace F_s_value := F_s_value.keep K179 (ninS o_s_b156 nin0)
  replace V_t := V_t.keep K179 (ninS o_t_b156 nin0)
  replace E_b152 := E_b152.keep K179
  replace U_b152 := own_unt_keep K179 (ninS o_b152_b156 nin0) U_b152
  replace F_b152_cause := F_b152_cause.keep K179 (ninS o_b152_b156 nin0)
  replace F_b152_stackTrace := F_b152_stackTrace.keep K179 (ninS o_b152_b156 nin0)
  replace F_b152_suppressedExceptions := F_b152_suppressedExceptions.keep K179 (ninS o_b152_b156 nin0)
  replace F_b152_detailMessage := F_b152_detailMessage.keep K179 (ninS o_b152_b156 nin0)
  replace F_b152_backtrace := F_b152_backtrace.keep K179 (ninS o_b152_b156 nin0)
  replace F_b152_depth := F_b152_depth.keep K179 (ninS o_b152_b156 nin0)
  replace E_b156 := E_b156.keep K179
  replace V_b159 := V_b159.keep K179 (ninS (Ne.symm o_b156_b159) nin0)
  replace E_s171 := E_s171.keep K179
  replace F_s171_coder := F_s171_coder.keep K179 (ninS (Ne.symm o_b156_s171) nin0)
  replace F_s171_value := F_s171_value.keep K179 (ninS (Ne.symm o_b156_s171) nin0)
  replace V_t172 := V_t172.keep K179 (ninS (Ne.symm o_b156_t172) nin0)
  have F_b156_value := p182
  have F_b156_coder := p183
  have F_b156_count := p184
  have V_b176 := p186
  change Go _ _ _ _ _ _ _ _ _ _ _ _ _ _ [b176, b159, b156, b152] h178 6 148 16 #[.val (.ref s)] [(.ref b156), (.ref b152), (.ref b152)]
  refine Go.aload_n (pc' := 17) d_prog_53_method_2_16 rfl rfl rfl ?_
  refine Go.callV (pc' := 20) (u := N_14) (z := N_14) (a := b156) d_prog_53_method_2_17 rfl (w_61 hw) (w_62 hw) (nf (w_64 hw) rfl) (w_64 hw) (w_63 hw) (by decide) E_b156 (argsL := [(.ref s)]) (rest := [(.ref b152), (.ref b152)]) (Pays.of_met (W := 2) (len := 3) (m_aapf2 hw hs b156 s t kt ws z2 b176 q177 PFX (21 : Int32) h178 E_b156 F_b156_value F_b156_coder F_b156_count V_b176 E_s F_s_coder F_s_value V_t (hz2) (by decide) (e21) (show 21 + ws.length ≤ 34 from by omega) (Ne.symm o_b156_b176) o_t_b156 o_t_b176 o_s_b156) (w_65 hw) (w_42 hw) (by decide) (by decide)) rfl rfl (lenOf pd_19 rfl) rfl (Nat.le_of_eq rfl) (memS (List.mem_of_getElem? (i := 2) rfl) (memS (List.mem_of_getElem? (i := 0) rfl) mem0)) (by decide) (by decide) ?_
  rintro _ h187 _ K188 le189 ⟨rfl, rfl, p190, p191, p192, p193, p194⟩
  replace E_s := E_s.keep K188
  replace F_s_coder := F_s_coder.keep K188 (ninS o_s_b156 (ninS o_s_b176 nin0))
  replace F_s_value := F_s_value.keep K188 (ninS o_s_b156 (ninS o_s_b176 nin0))
  replace V_t := V_t.keep K188 (ninS o_t_b156 (ninS o_t_b176 nin0))
  replace E_b152 := E_b152.keep K188
  replace U_b152 := own_unt_keep K188 (ninS o_b152_b156 (ninS o_b152_b176 nin0)) U_b152
  replace F_b152_cause := F_b152_cause.keep K188 (ninS o_b152_b156 (ninS o_b152_b176 nin0))
  replace F_b152_stackTrace := F_b152_stackTrace.keep K188 (ninS o_b152_b156 (ninS o_b152_b176 nin0))
  replace F_b152_suppressedExceptions := F_b152_suppressedExceptions.keep K188 (ninS o_b152_b156 (ninS o_b152_b176 nin0))
  replace F_b152_detailMessage := F_b152_detailMessage.keep K188 (ninS o_b152_b156 (ninS o_b152_b176 nin0))
  replace F_b152_backtrace := F_b152_backtrace.keep K188 (ninS o_b152_b156 (ninS o_b152_b176 nin0))
  replace F_b152_depth := F_b152_depth.keep K188 (ninS o_b152_b156 (ninS o_b152_b176 nin0))
  replace E_b156 := E_b156.keep K188
  replace V_b159 := V_b159.keep K188 (ninS (Ne.symm o_b156_b159) (ninS o_b159_b176 nin0))
  replace E_s171 := E_s171.keep K188
  replace F_s171_coder := F_s171_coder.keep K188 (ninS (Ne.symm o_b156_s171) (ninS o_s171_b176 nin0))
  replace F_s171_value := F_s171_value.keep K188 (ninS (Ne.symm o_b156_s171) (ninS o_s171_b176 nin0))
  replace V_t172 := V_t172.keep K188 (ninS (Ne.symm o_b156_t172) (ninS o_t172_b176 nin0))
  have F_b156_value := p191
  have F_b156_coder := p192
  have F_b156_count := p193
  have V_b176 := p194
  change Go _ _ _ _ _ _ _ _ _ _ _ _ _ _ [b176, b159, b156, b152] h187 6 148 20 #[.val (.ref s)] [(.ref b156), (.ref b152), (.ref b152)]
  refine Go.ldcS (pc' := 22) (nn := 4) (z := 1) (vs := [(.int (39 : Int32))]) rfl d_prog_53_method_2_20 rfl (w_131 hw) (sA hw) (by decide) lit_1 (by decide) (by decide) (by decide) (by decide) (by decide) (by decide) ?_
  intro h195 s196 t197 q198 x199 E_s196 F_s196_coder F_s196_value V_t197 ne200
  replace E_s := E_s.ext x199
  replace F_s_coder := F_s_coder.ext x199
  replace F_s_value := F_s_value.ext x199
  replace V_t := V_t.ext x199
  replace E_b152 := E_b152.ext x199
  replace U_b152 := unt_ext x199 U_b152
  replace F_b152_cause := F_b152_cause.ext x199
  replace F_b152_stackTrace := F_b152_stackTrace.ext x199
  replace F_b152_suppressedExceptions := F_b152_suppressedExceptions.ext x199
  replace F_b152_detailMessage := F_b152_detailMessage.ext x199
  replace F_b152_backtrace := F_b152_backtrace.ext x199
  replace F_b152_depth := F_b152_depth.ext x199
  replace E_b156 := E_b156.ext x199
  replace V_b159 := V_b159.ext x199
  replace E_s171 := E_s171.ext x199
  replace F_s171_coder := F_s171_coder.ext x199
  replace F_s171_value := F_s171_value.ext x199
  replace V_t172 := V_t172.ext x199
  replace F_b156_value := F_b156_value.ext x199
  replace F_b156_coder := F_b156_coder.ext x199
  replace F_b156_count := F_b156_count.ext x199
  replace V_b176 := V_b176.ext x199
  have o_b176_s196 := (ne200 b176 (List.mem_of_getElem? (i := 0) rfl)).1
  have o_b176_t197 := (ne200 b176 (List.mem_of_getElem? (i := 0) rfl)).2
  have o_b159_s196 := (ne200 b159 (List.mem_of_getElem? (i := 1) rfl)).1
  have o_b159_t197 := (ne200 b159 (List.mem_of_getElem? (i := 1) rfl)).2
  have o_b156_s196 := (ne200 b156 (List.mem_of_getElem? (i := 2) rfl)).1
  have o_b156_t197 := (ne200 b156 (List.mem_of_getElem? (i := 2) rfl)).2
  have o_b152_s196 := (ne200 b152 (List.mem_of_getElem? (i := 3) rfl)).1
  have o_b152_t197 := (ne200 b152 (List.mem_of_getElem? (i := 3) rfl)).2
  change Go _ _ _ _ _ _ _ _ _ _ _ _ _ _ [b176, b159, b156, b152] h195 8 156 22 #[.val (.ref s)] [(.ref s196), (.ref b156), (.ref b152), (.ref b152)]
  replace V_t197 : Arv Z h195 t197 q198 .byte (1 : Int32) ([(39 : Int32)].map Value.int) (.int (0 : Int32)) := V_t197
  refine Go.callV (pc' := 25) (u := N_14) (z := N_14) (a := b156) d_prog_53_method_2_22 rfl (w_61 hw) (w_62 hw) (nf (w_64 hw) rfl) (w_64 hw) (w_63 hw) (by decide) E_b156 (argsL := [(.ref s196)]) (rest := [(.ref b152), (.ref b152)]) (Pays.of_met (W := 2) (len := 3) (m_aapf2 hw hs b156 s196 t197 q198 [(39 : Int32)] (1 : Int32) b176 q177 (PFX ++ ws) ((21 : Int32) + z2) h195 E_b156 F_b156_value F_b156_coder F_b156_count V_b176 E_s196 F_s196_coder F_s196_value V_t197 (e1) (a1.1) (by rw [List.length_append, a1.2, e21, hz2]; rfl) (by rw [List.length_append]; show 21 + ws.length + 1 ≤ 34; omega) (Ne.symm o_b156_b176) (Ne.symm o_b156_t197) (Ne.symm o_b176_t197) (Ne.symm o_b156_s196)) (w_65 hw) (w_42 hw) (by decide) (by decide)) rfl rfl (lenOf pd_19 rfl) rfl (Nat.le_of_eq rfl) (memS (List.mem_of_getElem? (i := 2) rfl) (memS (List.mem_of_getElem? (i := 0) rfl) mem0)) (by decide) (by decide) ?_
  rintro _ h201 _ K202 le203 ⟨rfl, rfl, p204, p205, p206, p207, p208⟩
  replace E_s := E_s.keep K202
  replace F_s_coder := F_s_coder.keep K202 (ninS o_s_b156 (ninS o_s_b176 nin0))
  replace F_s_value := F_s_value.keep K202 (ninS o_s_b156 (ninS o_s_b176 nin0))
  replace V_t := V_t.keep K202 (ninS o_t_b156 (ninS o_t_b176 nin0))
  replace E_b152 := E_b152.keep K202
  replace U_b152 := own_unt_keep K202 (ninS o_b152_b156 (ninS o_b152_b176 nin0)) U_b152
  replace F_b152_cause := F_b152_cause.keep K202 (ninS o_b152_b156 (ninS o_b152_b176 nin0))
  replace F_b152_stackTrace := F_b152_stackTrace.keep K202 (ninS o_b152_b156 (ninS o_b152_b176 nin0))
  replace F_b152_suppressedExceptions := F_b152_suppressedExceptions.keep K202 (ninS o_b152_b156 (ninS o_b152_b176 nin0))
  replace F_b152_detailMessage := F_b152_detailMessage.keep K202 (ninS o_b152_b156 (ninS o_b152_b176 nin0))
  replace F_b152_backtrace := F_b152_backtrace.keep K202 (ninS o_b152_b156 (ninS o_b152_b176 nin0))
  replace F_b152_depth := F_b152_depth.keep K202 (ninS o_b152_b156 (ninS o_b152_b176 nin0))
  replace E_b156 := E_b156.keep K202
  replace V_b159 := V_b159.keep K202 (ninS (Ne.symm o_b156_b159) (ninS o_b159_b176 nin0))
  replace E_s171 := E_s171.keep K202
  replace F_s171_coder := F_s171_coder.keep K202 (ninS (Ne.symm o_b156_s171) (ninS o_s171_b176 nin0))
  replace F_s171_value := F_s171_value.keep K202 (ninS (Ne.symm o_b156_s171) (ninS o_s171_b176 nin0))
  replace V_t172 := V_t172.keep K202 (ninS (Ne.symm o_b156_t172) (ninS o_t172_b176 nin0))
  replace E_s196 := E_s196.keep K202
  replace F_s196_coder := F_s196_coder.keep K202 (ninS (Ne.symm o_b156_s196) (ninS (Ne.symm o_b176_s196) nin0))
  replace F_s196_value := F_s196_value.keep K202 (ninS (Ne.symm o_b156_s196) (ninS (Ne.symm o_b176_s196) nin0))
  replace V_t197 := V_t197.keep K202 (ninS (Ne.symm o_b156_t197) (ninS (Ne.symm o_b176_t197) nin0))
  have F_b156_value := p205
  have F_b156_coder := p206
  have F_b156_count := p207
  have V_b176 := p208
  change Go _ _ _ _ _ _ _ _ _ _ _ _ _ _ [b176, b159, b156, b152] h201 8 156 25 #[.val (.ref s)] [(.ref b156), (.ref b152), (.ref b152)]
  refine Go.callV (pc' := 28) (u := N_24) (z := N_24) (a := b156) d_prog_53_method_2_25 rfl (w_132 hw) (w_133 hw) (nf (w_135 hw) rfl) (w_135 hw) (w_134 hw) (by decide) E_b156 (argsL := []) (rest := [(.ref b152), (.ref b152)]) (Pays.of_met (W := 2) (len := 3) (m_sts hw hs b156 b176 q177 ((PFX ++ ws) ++ [(39 : Int32)]) (((21 : Int32) + z2) + (1 : Int32)) h201 E_b156 F_b156_value F_b156_coder F_b156_count V_b176 (a2.1) (by rw [List.length_append, List.length_append, a2.2, a1.2, e21, e1, hz2]; rfl) (by rw [List.length_append, List.length_append]; show 21 + ws.length + 1 < 34; omega)) (w_136 hw) (w_42 hw) (by decide) (by decide)) rfl rfl (lenOf pd_20 rfl) rfl (Nat.le_of_eq rfl) mem0 (by decide) (by decide) ?_
  rintro _ h212 _ K213 le214 ⟨b209, b210, q211, rfl, rfl, p215, p216, p217, p218, p219, p220⟩
  have o_s_b209 : s ≠ b209 := Nat.ne_of_lt (Nat.lt_of_lt_of_le E_s.lt p215)
  have o_t_b209 : t ≠ b209 := Nat.ne_of_lt (Nat.lt_of_lt_of_le V_t.lt p215)
  have o_b152_b209 : b152 ≠ b209 := Nat.ne_of_lt (Nat.lt_of_lt_of_le E_b152.lt p215)
  have o_b156_b209 : b156 ≠ b209 := Nat.ne_of_lt (Nat.lt_of_lt_of_le E_b156.lt p215)
  have o_b159_b209 : b159 ≠ b209 := Nat.ne_of_lt (Nat.lt_of_lt_of_le V_b159.lt p215)
  have o_s171_b209 : s171 ≠ b209 := Nat.ne_of_lt (Nat.lt_of_lt_of_le E_s171.lt p215)
  have o_t172_b209 : t172 ≠ b209 := Nat.ne_of_lt (Nat.lt_of_lt_of_le V_t172.lt p215)
  have o_s196_b209 : s196 ≠ b209 := Nat.ne_of_lt (Nat.lt_of_lt_of_le E_s196.lt p215)
  have o_t197_b209 : t197 ≠ b209 := Nat.ne_of_lt (Nat.lt_of_lt_of_le V_t197.lt p215)
  have o_b176_b209 : b176 ≠ b209 := Nat.ne_of_lt (Nat.lt_of_lt_of_le V_b176.lt p215)
  have ge_b209 := Nat.le_trans le214 p215
  have o_s_b210 : s ≠ b210 := Nat.ne_of_lt (Nat.lt_of_lt_of_le E_s.lt p219)
  have o_t_b210 : t ≠ b210 := Nat.ne_of_lt (Nat.lt_of_lt_of_le V_t.lt p219)
  have o_b152_b210 : b152 ≠ b210 := Nat.ne_of_lt (Nat.lt_of_lt_of_le E_b152.lt p219)
  have o_b156_b210 : b156 ≠ b210 := Nat.ne_of_lt (Nat.lt_of_lt_of_le E_b156.lt p219)
  have o_b159_b210 : b159 ≠ b210 := Nat.ne_of_lt (Nat.lt_of_lt_of_le V_b159.lt p219)
  have o_s171_b210 : s171 ≠ b210 := Nat.ne_of_lt (Nat.lt_of_lt_of_le E_s171.lt p219)
  have o_t172_b210 : t172 ≠ b210 := Nat.ne_of_lt (Nat.lt_of_lt_of_le V_t172.lt p219)
  have o_s196_b210 : s196 ≠ b210 := Nat.ne_of_lt (Nat.lt_of_lt_of_le E_s196.lt p219)
  have o_t197_b210 : t197 ≠ b210 := Nat.ne_of_lt (Nat.lt_of_lt_of_le V_t197.lt p219)
  have o_b176_b210 : b176 ≠ b210 := Nat.ne_of_lt (Nat.lt_of_lt_of_le V_b176.lt p219)
  have ge_b210 := Nat.le_trans le214 p219
  replace E_s := E_s.keep K213
  replace F_s_coder := F_s_coder.keep K213 nin0
  replace F_s_value := F_s_value.keep K213 nin0
  replace V_t := V_t.keep K213 nin0
  replace E_b152 := E_b152.keep K213
  replace U_b152 := own_unt_keep K213 nin0 U_b152
  replace F_b152_cause := F_b152_cause.keep K213 nin0
  replace F_b152_stackTrace := F_b152_stackTrace.keep K213 nin0
  replace F_b152_suppressedExceptions := F_b152_suppressedExceptions.keep K213 nin0
  replace F_b152_detailMessage := F_b152_detailMessage.keep K213 nin0
  replace F_b152_backtrace := F_b152_backtrace.keep K213 nin0
  replace F_b152_depth := F_b152_depth.keep K213 nin0
  replace E_b156 := E_b156.keep K213
  replace V_b159 := V_b159.keep K213 nin0
  replace E_s171 := E_s171.keep K213
  replace F_s171_coder := F_s171_coder.keep K213 nin0
  replace F_s171_value := F_s171_value.keep K213 nin0
  replace V_t172 := V_t172.keep K213 nin0
  replace E_s196 := E_s196.keep K213
  replace F_s196_coder := F_s196_coder.keep K213 nin0
  replace F_s196_value := F_s196_value.keep K213 nin0
  replace V_t197 := V_t197.keep K213 nin0
  replace F_b156_value := F_b156_value.keep K213 nin0
  replace F_b156_coder := F_b156_coder.keep K213 nin0
  replace F_b156_count := F_b156_count.keep K213 nin0
  replace V_b176 := V_b176.keep K213 nin0
  have E_b209 := p216
  have F_b209_coder := p217
  have F_b209_value := p218
  have V_b210 := p220
  change Go _ _ _ _ _ _ _ _ _ _ _ _ _ _ [b176, b159, b156, b152] h212 10 194 28 #[.val (.ref s)] [(.ref b209), (.ref b152), (.ref b152)]
  refine Go.callI (pc' := 31) (z := N_28) (a := b152) d_prog_53_method_2_28 rfl rfl (w_171 hw) (w_172 hw) (w_173 hw) (by decide) (argsL := [(.ref b209)]) (rest := [(.ref b152)]) (Pays.of_met (W := 1) (len := 3) (m_own hw hs b152 b209 h212 E_b152 U_b152 F_b152_cause F_b152_stackTrace F_b152_suppressedExceptions F_b152_detailMessage F_b152_backtrace (hst)) (w_173 hw) (w_36 hw) (by decide) (by decide)) rfl rfl (lenOf pd_6 rfl) rfl (Nat.le_of_eq rfl) (memS (List.mem_of_getElem? (i := 3) rfl) mem0) (by decide) (by decide) ?_
  rintro _ h221 _ K222 le223 ⟨rfl, rfl, p224, p225⟩
  replace E_s := E_s.keep K222
  replace F_s_coder := F_s_coder.keep K222 (ninS o_s_b152 nin0)
  replace F_s_value := F_s_value.keep K222 (ninS o_s_b152 nin0)
  replace V_t := V_t.keep K222 (ninS o_t_b152 nin0)
  replace E_b152 := E_b152.keep K222
  replace E_b156 := E_b156.keep K222
  replace V_b159 := V_b159.keep K222 (ninS (Ne.symm o_b152_b159) nin0)
  replace E_s171 := E_s171.keep K222
  replace F_s171_coder := F_s171_coder.keep K222 (ninS (Ne.symm o_b152_s171) nin0)
  replace F_s171_value := F_s171_value.keep K222 (ninS (Ne.symm o_b152_s171) nin0)
  replace V_t172 := V_t172.keep K222 (ninS (Ne.symm o_b152_t172) nin0)
  replace E_s196 := E_s196.keep K222
  replace F_s196_coder := F_s196_coder.keep K222 (ninS (Ne.symm o_b152_s196) nin0)
  replace F_s196_value := F_s196_value.keep K222 (ninS (Ne.symm o_b152_s196) nin0)
  replace V_t197 := V_t197.keep K222 (ninS (Ne.symm o_b152_t197) nin0)
  replace F_b156_value := F_b156_value.keep K222 (ninS (Ne.symm o_b152_b156) nin0)
  replace F_b156_coder := F_b156_coder.keep K222 (ninS (Ne.symm o_b152_b156) nin0)
  replace F_b156_count := F_b156_count.keep K222 (ninS (Ne.symm o_b152_b156) nin0)
  replace V_b176 := V_b176.keep K222 (ninS (Ne.symm o_b152_b176) nin0)
  replace E_b209 := E_b209.keep K222
  replace F_b209_coder := F_b209_coder.keep K222 (ninS (Ne.symm o_b152_b209) nin0)
  replace F_b209_value := F_b209_value.keep K222 (ninS (Ne.symm o_b152_b209) nin0)
  replace V_b210 := V_b210.keep K222 (ninS (Ne.symm o_b152_b210) nin0)
  have F_b152_detailMessage := p225
  change Go _ _ _ _ _ _ _ _ _ _ _ _ _ _ [b176, b159, b156, b152] h221 11 2946 31 #[.val (.ref s)] [(.ref b152)]
  exact Go.retA d_prog_53_method_2_31 rfl rfl rfl (by decide) (by decide) [] sn0 ⟨b152, b209, b210, _, rfl, rfl, E_b152, F_b152_detailMessage, E_b209, F_b209_coder, F_b209_value, V_b210⟩
abbrev R_m_cmpL : Room := { frames := 0, cells := 0, slots := 0, locals := 0 }
set_option maxRecDepth 65536 in
set_option maxHeartbeats 40000000 in
theorem m_cmpL_loop {l : Launch} {Z : State} {n0 : Nat} {h0 : Heap} {Q : Option Value → Heap → List Addr → Prop} {c t : Addr} {kc kt : ClassId} {cs : List Int32} {z : Int32} (hz : z.toNatClampNeg = cs.length) (hcs : ∀ x ∈ cs, ¬ x < 0 ∧ ¬ 255 < x) (ne_c_t : c ≠ t)
    (K : ∀ h' o, Arv Z h' t kt .byte z (cs.map lowV) (.int (0 : Int32)) → Go l Z EL0 n0 NR0 KN0 N_31 jdk_52_method_21_code 7 (Option.some Jvm.ClassFile.FieldType.int) R_m_cmpL h0 [t] Q [t] h' 0 0 44 #[.val (.ref c), .val (.int (Int32.ofNat cs.length)), .val (.ref t), .val (.int (Int32.ofNat cs.length)), .val (.int z), .val (.int (Int32.ofNat cs.length)), o] []) :
    ∀ (m i : Nat) (h : Heap) (o : Slot), i + m = cs.length → One o → Arv Z h c kc .char z (cs.map Value.int) (.int (0 : Int32)) → Arv Z h t kt .byte z ((cs.take i).map lowV ++ List.replicate m (.int (0 : Int32))) (.int (0 : Int32)) →
      Go l Z EL0 n0 NR0 KN0 N_31 jdk_52_method_21_code 7 (Option.some Jvm.ClassFile.FieldType.int) R_m_cmpL h0 [t] Q [t] h 0 0 3 #[.val (.ref c), .val (.int (Int32.ofNat i)), .val (.ref t), .val (.int (Int32.ofNat i)), .val (.int z), .val (.int (Int32.ofNat i)), o] [] := by
  intro m
  induction m with
  | zero =>
    intro i h o hi ho V_c V_t
    obtain rfl : i = cs.length := by omega
    have zn := arv_nn V_c
    have q := (back32 zn).2
    refine Go.iload (pc' := 5) d_jdk_52_method_21_3 rfl rfl ?_
    refine Go.iload (pc' := 7) d_jdk_52_method_21_5 rfl rfl ?_
    refine Go.icmpY (pc' := 44) d_jdk_52_method_21_7 (by decide) (by decide) (flt (ofNat_ge zn (by omega) (Nat.le_of_eq hz) : ¬ ((Int32.ofNat cs.length) < z))).2.1 ?_
    refine K h o ?_
    simpa using V_t
  | succ m ih =>
    intro i h o hi ho V_c V_t
    have zn := arv_nn V_c
    have q := (back32 zn).2
    have hi2 : i < cs.length := by omega
    have b1 := getD_mem hcs hi2
    have ci := ofNat_clamp (i := i) (by omega)
    have nn := ofNat_nn (i := i) (by omega)
    have lt := ofNat_lt (i := i) zn (by omega)
    refine Go.iload (pc' := 5) d_jdk_52_method_21_3 rfl rfl ?_
    refine Go.iload (pc' := 7) d_jdk_52_method_21_5 rfl rfl ?_
    refine Go.icmpN (pc' := 10) d_jdk_52_method_21_7 rfl (tlt (lt : (Int32.ofNat i) < z)).2.1 ?_
    refine Go.aload_n (pc' := 11) d_jdk_52_method_21_10 rfl rfl rfl ?_
    refine Go.iload_n (pc' := 12) d_jdk_52_method_21_11 rfl rfl ?_
    refine Go.caloadV (pc' := 13) (v := (.int (cs.getD i 0))) d_jdk_52_method_21_12 rfl V_c ⟨nn, lt⟩ (by rw [ci]; exact getD_int cs i) ?_
    refine Go.istoreS (pc' := 15) (Ls' := #[.val (.ref c), .val (.int (Int32.ofNat i)), .val (.ref t), .val (.int (Int32.ofNat i)), .val (.int z), .val (.int (Int32.ofNat i)), .val (.int (cs.getD i 0))]) d_jdk_52_method_21_13 rfl rfl ho rfl ?_
    refine Go.iload (pc' := 17) d_jdk_52_method_21_15 rfl rfl ?_
    refine Go.sipush (pc' := 20) d_jdk_52_method_21_17 rfl ics_255 ?_
    refine Go.icmpY (pc' := 26) d_jdk_52_method_21_20 (by decide) (by decide) (flt (b1.2 : ¬ ((255 : Int32) < (cs.getD i 0)))).2.2.2 ?_
    refine Go.aload_n (pc' := 27) d_jdk_52_method_21_26 rfl rfl rfl ?_
    refine Go.iload_n (pc' := 28) d_jdk_52_method_21_27 rfl rfl ?_
    refine Go.iload (pc' := 30) d_jdk_52_method_21_28 rfl rfl ?_
    refine Go.i2b (pc' := 31) d_jdk_52_method_21_30 rfl ?_
    refine Go.bastoreV (pc' := 32) (i := i) d_jdk_52_method_21_31 rfl (List.mem_of_getElem? (i := 0) rfl) V_t ⟨nn, lt⟩ ci (by simp; omega) ?_
    intro h2 W2 V_t2
    rw [nar_byte] at V_t2
    have V_t3 := V_t2
    rw [show (Value.int (cs.getD i 0).toInt8.toInt32) = lowV (cs.getD i 0) from rfl, set_low cs i m hi2] at V_t3
    replace V_c := V_c.other W2 ne_c_t
    change Go _ _ _ _ _ _ _ _ _ _ _ _ _ _ [t] h2 0 0 32 #[.val (.ref c), .val (.int (Int32.ofNat i)), .val (.ref t), .val (.int (Int32.ofNat i)), .val (.int z), .val (.int (Int32.ofNat i)), .val (.int (cs.getD i 0))] []
    refine Go.iinc (pc' := 35) (Ls' := #[.val (.ref c), .val (.int ((Int32.ofNat i) + (1 : Int32))), .val (.ref t), .val (.int (Int32.ofNat i)), .val (.int z), .val (.int (Int32.ofNat i)), .val (.int (cs.getD i 0))]) d_jdk_52_method_21_32 rfl ic_1 rfl rfl ?_
    refine Go.iinc (pc' := 38) (Ls' := #[.val (.ref c), .val (.int ((Int32.ofNat i) + (1 : Int32))), .val (.ref t), .val (.int ((Int32.ofNat i) + (1 : Int32))), .val (.int z), .val (.int (Int32.ofNat i)), .val (.int (cs.getD i 0))]) d_jdk_52_method_21_35 rfl ic_1 rfl rfl ?_
    refine Go.iinc (pc' := 41) (Ls' := #[.val (.ref c), .val (.int ((Int32.ofNat i) + (1 : Int32))), .val (.ref t), .val (.int ((Int32.ofNat i) + (1 : Int32))), .val (.int z), .val (.int ((Int32.ofNat i) + (1 : Int32))), .val (.int (cs.getD i 0))]) d_jdk_52_method_21_38 rfl ic_1 rfl rfl ?_
    refine Go.goto (pc' := 3) d_jdk_52_method_21_41 (by decide) (by decide) ?_
    rw [ofNat_succ i]
    exact ih (i + 1) h2 _ (by omega) (One.val rfl) V_c V_t3
theorem pn_m_cmpL : plainFor (⟨"java/lang/StringUTF16", "compress", "([CI[BII)I"⟩ : MethodName) = true := by first | (refine plainFor_of_name ?_; simp [plainName, overriddenIn]; done) | decide +kernel
theorem ef_m_cmpL (m : MethodId) (c t : Addr) (z : Int32) : entryFrame m #[(.ref c), (.int (0 : Int32)), (.ref t), (.int (0 : Int32)), (.int z)] 7 = mkF m 0 #[.val (.ref c), .val (.int (0 : Int32)), .val (.ref t), .val (.int (0 : Int32)), .val (.int z), .unset, .unset] [] := by first | (simp [entryFrame, mkF, argsToLocals, Value.category]; done) | rfl
set_option maxRecDepth 65536 in
set_option maxHeartbeats 40000000 in
theorem m_cmpL {l : Launch} {Z : State} {a0 : Array Value} {n0 : Nat} (hw : ∀ d ∈ tables_1, d.before a0 Z = true) (hs : Stat Z) (c t : Addr) (kc kt : ClassId) (cs : List Int32) (z : Int32) (h0 : Heap) (V_c : Arv Z h0 c kc .char z (cs.map Value.int) (.int (0 : Int32))) (V_t : Arv Z h0 t kt .byte z (List.replicate cs.length (.int (0 : Int32))) (.int (0 : Int32))) (hz : z.toNatClampNeg = cs.length) (hcs : ∀ x ∈ cs, ¬ x < 0 ∧ ¬ 255 < x) (ne_c_t : c ≠ t) :
    Met l Z EL0 n0 NR0 KN0 N_31 jdk_52_method_21_code 7 (Option.some Jvm.ClassFile.FieldType.int) R_m_cmpL [t] #[(.ref c), (.int (0 : Int32)), (.ref t), (.int (0 : Int32)), (.int z)] h0 (fun v h' SN => v = some (.int z) ∧ SN = [] ∧ Arv Z h' t kt .byte z (cs.map lowV) (.int (0 : Int32))) := by
  refine Met.of_go pn_m_cmpL (fun m => ef_m_cmpL m c t z) ?_
  intro hO hWS
  refine Go.iconst (pc' := 1) d_jdk_52_method_21_0 rfl ic_0 ?_
  refine Go.istore (pc' := 3) (Ls' := #[.val (.ref c), .val (.int (0 : Int32)), .val (.ref t), .val (.int (0 : Int32)), .val (.int z), .val (.int (0 : Int32)), .unset]) d_jdk_52_method_21_1 rfl rfl ?_
  refine m_cmpL_loop (kc := kc) hz hcs ne_c_t (fun h' o V => ?_) cs.length 0 h0 _ (by omega) One.u V_c (by simpa using V_t)
  refine Go.iload (pc' := 46) d_jdk_52_method_21_44 rfl rfl ?_
  exact Go.retI d_jdk_52_method_21_46 rfl (by decide) (by decide) [] sn0 ⟨rfl, rfl, V⟩
abbrev R_m_cmp : Room := { frames := 1, cells := 1, slots := 25, locals := 18 }
theorem pn_m_cmp : plainFor (⟨"java/lang/StringUTF16", "compress", "([CII)[B"⟩ : MethodName) = true := by first | (refine plainFor_of_name ?_; simp [plainName, overriddenIn]; done) | decide +kernel
abbrev Q_m_cmp (Z : State) (c : Addr) (kc : ClassId) (cs : List Int32) (z : Int32) (h0 : Heap) : Option Value → Heap → List Addr → Prop := fun res h' SN => ∃ (t : Addr) (kt : ClassId), res = some (.ref t) ∧ SN = [] ∧ h0.size ≤ t ∧ Arv Z h' t kt .byte z (cs.map lowV) (.int (0 : Int32))
theorem ef_m_cmp (mid : MethodId) (c : Addr) (kc : ClassId) (cs : List Int32) (z : Int32) : entryFrame mid #[(.ref c), (.int (0 : Int32)), (.int z)] 6 = mkF mid 0 #[.val (.ref c), .val (.int (0 : Int32)), .val (.int z), .unset, .unset, .unset] [] := by first | (simp [entryFrame, mkF, argsToLocals, Value.category]; done) | rfl
set_option maxRecDepth 65536 in
set_option maxHeartbeats 40000000 in
theorem m_cmp {l : Launch} {Z : State} {a0 : Array Value} {n0 : Nat} (hw : ∀ d ∈ tables_1, d.before a0 Z = true) (hs : Stat Z) (c : Addr) (kc : ClassId) (cs : List Int32) (z : Int32) (h0 : Heap) (V_c : Arv Z h0 c kc .char z (cs.map Value.int) (.int (0 : Int32))) (hz : z.toNatClampNeg = cs.length) (hcs : ∀ x ∈ cs, ¬ x < 0 ∧ ¬ 255 < x) (hcap : z.toNatClampNeg ≤ CAP) :
    Met l Z EL0 n0 NR0 KN0 N_32 jdk_52_method_16_code 6 (Option.some (Jvm.ClassFile.FieldType.array Jvm.ClassFile.FieldType.byte)) R_m_cmp [] #[(.ref c), (.int (0 : Int32)), (.int z)] h0 (Q_m_cmp Z c kc cs z h0) := by
  refine Met.of_go pn_m_cmp (fun mid => ef_m_cmp mid c kc cs z ) ?_
  intro hO hWS
  have zn := arv_nn V_c
  refine Go.iload_n (pc' := 1) d_jdk_52_method_16_0 rfl rfl ?_
  refine Go.newP (pc' := 3) (cap := CAP) (ad := "[B") d_jdk_52_method_16_1 rfl (w_23 hw) (by decide) zn hcap (by decide) (by decide) (by decide) ?_
  intro h1 b1 g1 ge_b1 k1 x1 V_b1 E_b1
  have o_c_b1 : c ≠ b1 := Nat.ne_of_lt (Nat.lt_of_lt_of_le V_c.lt (Nat.le_of_eq g1))
  replace V_c := V_c.ext x1
  replace V_b1 : Arv Z h1 b1 k1 .byte z (List.replicate cs.length (.int (0 : Int32))) (.int (0 : Int32)) := V_b1.pad (fun i => pad_rep [] _ cs.length i)
  change Go _ _ _ _ _ _ _ _ _ _ _ _ _ _ [b1] h1 1 25 3 #[.val (.ref c), .val (.int (0 : Int32)), .val (.int z), .unset, .unset, .unset] [(.ref b1)]
  refine Go.astore_n (pc' := 4) (Ls' := #[.val (.ref c), .val (.int (0 : Int32)), .val (.int z), .val (.ref b1), .unset, .unset]) d_jdk_52_method_16_3 rfl rfl rfl ?_
  refine Go.aload_n (pc' := 5) d_jdk_52_method_16_4 rfl rfl rfl ?_
  refine Go.iload_n (pc' := 6) d_jdk_52_method_16_5 rfl rfl ?_
  refine Go.aload_n (pc' := 7) d_jdk_52_method_16_6 rfl rfl rfl ?_
  refine Go.iconst (pc' := 8) d_jdk_52_method_16_7 rfl ic_0 ?_
  refine Go.iload_n (pc' := 9) d_jdk_52_method_16_8 rfl rfl ?_
  refine Go.callS (pc' := 12) (z := N_31) d_jdk_52_method_16_9 rfl (w_24 hw) (w_25 hw) (w_21 hw) (w_26 hw) (by decide) (argsL := [(.ref c), (.int (0 : Int32)), (.ref b1), (.int (0 : Int32)), (.int z)]) (rest := []) (Pays.of_met (W := 0) (len := 3) (m_cmpL hw hs c b1 kc k1 cs z h1 V_c V_b1 (hz) (hcs) o_c_b1) (w_26 hw) (w_21 hw) (by decide) (by decide)) rfl rfl (lenOf pd_21 rfl) rfl (Nat.le_of_eq rfl) (memS (List.mem_of_getElem? (i := 0) rfl) mem0) (by decide) (by decide) ?_
  rintro _ h226 _ K227 le228 ⟨rfl, rfl, p229⟩
  replace V_c := V_c.keep K227 (ninS o_c_b1 nin0)
  have V_b1 := p229
  change Go _ _ _ _ _ _ _ _ _ _ _ _ _ _ [b1] h226 1 25 12 #[.val (.ref c), .val (.int (0 : Int32)), .val (.int z), .val (.ref b1), .unset, .unset] [(.int z)]
  refine Go.istore (pc' := 14) (Ls' := #[.val (.ref c), .val (.int (0 : Int32)), .val (.int z), .val (.ref b1), .val (.int z), .unset]) d_jdk_52_method_16_12 rfl rfl ?_
  refine Go.iload (pc' := 16) d_jdk_52_method_16_14 rfl rfl ?_
  refine Go.iload_n (pc' := 17) d_jdk_52_method_16_16 rfl rfl ?_
  refine Go.icmpY (pc' := 57) d_jdk_52_method_16_17 (by decide) (by decide) (teq (rfl : z = z)).1 ?_
  refine Go.aload_n (pc' := 58) d_jdk_52_method_16_57 rfl rfl rfl ?_
  exact Go.retA d_jdk_52_method_16_58 rfl rfl rfl (by decide) (by decide) [] sn0 ⟨b1, k1, rfl, rfl, ge_b1, V_b1⟩
abbrev R_m_cfl : Room := { frames := 0, cells := 0, slots := 0, locals := 0 }
theorem pn_m_cfl : plainFor (⟨"java/lang/StringUTF16", "coderFromArrayLen", "([BI)B"⟩ : MethodName) = true := by first | (refine plainFor_of_name ?_; simp [plainName, overriddenIn]; done) | decide +kernel
abbrev Q_m_cfl (Z : State) (t : Addr) (kt : ClassId) (z : Int32) (vs : List Value) (h0 : Heap) : Option Value → Heap → List Addr → Prop := fun res h' SN => res = some (.int (0 : Int32)) ∧ SN = [] ∧ h0 = h'
theorem ef_m_cfl (mid : MethodId) (t : Addr) (kt : ClassId) (z : Int32) (vs : List Value) : entryFrame mid #[(.ref t), (.int z)] 2 = mkF mid 0 #[.val (.ref t), .val (.int z)] [] := by first | (simp [entryFrame, mkF, argsToLocals, Value.category]; done) | rfl
set_option maxRecDepth 65536 in
set_option maxHeartbeats 40000000 in
theorem m_cfl {l : Launch} {Z : State} {a0 : Array Value} {n0 : Nat} (hw : ∀ d ∈ tables_1, d.before a0 Z = true) (hs : Stat Z) (t : Addr) (kt : ClassId) (z : Int32) (vs : List Value) (h0 : Heap) (V_t : Arv Z h0 t kt .byte z vs (.int (0 : Int32))) :
    Met l Z EL0 n0 NR0 KN0 N_33 jdk_52_method_15_code 2 (Option.some Jvm.ClassFile.FieldType.byte) R_m_cfl [] #[(.ref t), (.int z)] h0 (Q_m_cfl Z t kt z vs h0) := by
  refine Met.of_go pn_m_cfl (fun mid => ef_m_cfl mid t kt z vs ) ?_
  intro hO hWS
  refine Go.iload_n (pc' := 1) d_jdk_52_method_15_0 rfl rfl ?_
  refine Go.aload_n (pc' := 2) d_jdk_52_method_15_1 rfl rfl rfl ?_
  refine Go.lenV (pc' := 3) d_jdk_52_method_15_2 rfl V_t ?_
  refine Go.isub (pc' := 4) d_jdk_52_method_15_3 rfl ?_
  refine Go.bipush (pc' := 6) d_jdk_52_method_15_4 rfl icb_31 ?_
  refine Go.iushr (pc' := 7) d_jdk_52_method_15_6 rfl ?_
  refine Go.i2b (pc' := 8) d_jdk_52_method_15_7 rfl ?_
  rw [own_coder0]
  exact Go.retS (ty := .byte) d_jdk_52_method_15_8 rfl (by simp) rfl (by decide) (by decide) [] sn0 ⟨rfl, rfl, rfl⟩
abbrev R_m_str4 : Room := { frames := 2, cells := 1, slots := 25, locals := 35 }
theorem pn_m_str4 : plainFor (⟨"java/lang/String", "<init>", "([CIILjava/lang/Void;)V"⟩ : MethodName) = true := by first | (refine plainFor_of_name ?_; simp [plainName, overriddenIn]; done) | decide +kernel
abbrev Q_m_str4 (Z : State) (a : Addr) (c : Addr) (kc : ClassId) (cs : List Int32) (z : Int32) (h0 : Heap) : Option Value → Heap → List Addr → Prop := fun res h' SN => ∃ (t : Addr) (kt : ClassId), res = none ∧ SN = [] ∧ Exa Z h' a "java/lang/String" ∧ Fld Z h' a "java/lang/String" "coder" "B" (.int (0 : Int32)) ∧ Fld Z h' a "java/lang/String" "value" "[B" (.ref t) ∧ Arv Z h' t kt .byte z (cs.map lowV) (.int (0 : Int32)) ∧ h0.size ≤ t
theorem ef_m_str4 (mid : MethodId) (a : Addr) (c : Addr) (kc : ClassId) (cs : List Int32) (z : Int32) : entryFrame mid #[(.ref a), (.ref c), (.int (0 : Int32)), (.int z), .null] 6 = mkF mid 0 #[.val (.ref a), .val (.ref c), .val (.int (0 : Int32)), .val (.int z), .val .null, .unset] [] := by first | (simp [entryFrame, mkF, argsToLocals, Value.category]; done) | rfl
set_option maxRecDepth 65536 in
set_option maxHeartbeats 40000000 in
theorem m_str4 {l : Launch} {Z : State} {a0 : Array Value} {n0 : Nat} (hw : ∀ d ∈ tables_1, d.before a0 Z = true) (hs : Stat Z) (a : Addr) (c : Addr) (kc : ClassId) (cs : List Int32) (z : Int32) (h0 : Heap) (E_a : Exa Z h0 a "java/lang/String") (F_a_coder : Fld Z h0 a "java/lang/String" "coder" "B" (.int (0 : Int32))) (F_a_value : Fld Z h0 a "java/lang/String" "value" "[B" .null) (V_c : Arv Z h0 c kc .char z (cs.map Value.int) (.int (0 : Int32))) (hz : z.toNatClampNeg = cs.length) (hcs : ∀ x ∈ cs, ¬ x < 0 ∧ ¬ 255 < x) (hcs0 : cs ≠ []) (hcap : z.toNatClampNeg ≤ CAP) (ne_c_a : c ≠ a) :
    Met l Z EL0 n0 NR0 KN0 N_34 jdk_42_method_149_code 6 (Option.none : Option Jvm.ClassFile.FieldType) R_m_str4 [a] #[(.ref a), (.ref c), (.int (0 : Int32)), (.int z), .null] h0 (Q_m_str4 Z a c kc cs z h0) := by
  refine Met.of_go pn_m_str4 (fun mid => ef_m_str4 mid a c kc cs z ) ?_
  intro hO hWS
  obtain ⟨zc, S_c, hzc⟩ := hs_c hs
  have zn := arv_nn V_c
  refine Go.aload_n (pc' := 1) d_jdk_42_method_149_0 rfl rfl rfl ?_
  refine Go.initO (pc' := 4) (W := 0) d_jdk_42_method_149_1 rfl (w_15 hw) (w_16 hw) (w_17 hw) rfl (by decide) (Nat.le_of_eq rfl) (by decide) ?_
  refine Go.iload_n (pc' := 5) d_jdk_42_method_149_4 rfl rfl ?_
  refine Go.ifY (pc' := 27) d_jdk_42_method_149_5 (by decide) (by decide) ((if0 _ _).trans (feq (own_nz hz hcs0 : ¬ (z = (0 : Int32)))).2) ?_
  refine Go.getS (pc' := 30) d_jdk_42_method_149_27 rfl (host := "") (Or.inl (w_18 hw)) Via.refl S_c ?_
  refine Go.ifN (pc' := 33) d_jdk_42_method_149_30 rfl ((if0 _ _).trans (feq (hzc : ¬ (zc = (0 : Int32)))).1) ?_
  refine Go.aload_n (pc' := 34) d_jdk_42_method_149_33 rfl rfl rfl ?_
  refine Go.iload_n (pc' := 35) d_jdk_42_method_149_34 rfl rfl ?_
  refine Go.iload_n (pc' := 36) d_jdk_42_method_149_35 rfl rfl ?_
  refine Go.callS (pc' := 39) (z := N_32) d_jdk_42_method_149_36 rfl (w_19 hw) (w_20 hw) (w_21 hw) (w_22 hw) (by decide) (argsL := [(.ref c), (.int (0 : Int32)), (.int z)]) (rest := []) (Pays.of_met (W := 0) (len := 3) (m_cmp hw hs c kc cs z h0 V_c (hz) (hcs) (hcap)) (w_22 hw) (w_21 hw) (by decide) (by decide)) rfl rfl (lenOf pd_22 rfl) rfl (Nat.le_of_eq rfl) mem0 (by decide) (by decide) ?_
  rintro _ h232 _ K233 le234 ⟨b230, q231, rfl, rfl, p235, p236⟩
  have o_a_b230 : a ≠ b230 := Nat.ne_of_lt (Nat.lt_of_lt_of_le E_a.lt p235)
  have o_c_b230 : c ≠ b230 := Nat.ne_of_lt (Nat.lt_of_lt_of_le V_c.lt p235)
  have ge_b230 := Nat.le_trans le234 p235
  replace E_a := E_a.keep K233
  replace F_a_coder := F_a_coder.keep K233 nin0
  replace F_a_value := F_a_value.keep K233 nin0
  replace V_c := V_c.keep K233 nin0
  have V_b230 := p236
  change Go _ _ _ _ _ _ _ _ _ _ _ _ _ _ [a] h232 1 25 39 #[.val (.ref a), .val (.ref c), .val (.int (0 : Int32)), .val (.int z), .val .null, .unset] [(.ref b230)]
  refine Go.astore (pc' := 41) (Ls' := #[.val (.ref a), .val (.ref c), .val (.int (0 : Int32)), .val (.int z), .val .null, .val (.ref b230)]) d_jdk_42_method_149_39 rfl rfl rfl ?_
  refine Go.aload_n (pc' := 42) d_jdk_42_method_149_41 rfl rfl rfl ?_
  refine Go.aload (pc' := 44) d_jdk_42_method_149_42 rfl rfl rfl ?_
  refine Go.iload_n (pc' := 45) d_jdk_42_method_149_44 rfl rfl ?_
  refine Go.callS (pc' := 48) (z := N_33) d_jdk_42_method_149_45 rfl (w_27 hw) (w_28 hw) (w_21 hw) (w_29 hw) (by decide) (argsL := [(.ref b230), (.int z)]) (rest := [(.ref a)]) (Pays.of_met (W := 1) (len := 3) (m_cfl hw hs b230 q231 z (cs.map lowV) h232 V_b230) (w_29 hw) (w_21 hw) (by decide) (by decide)) rfl rfl (lenOf pd_23 rfl) rfl (Nat.le_of_eq rfl) mem0 (by decide) (by decide) ?_
  rintro _ _ _ - - ⟨rfl, rfl, rfl⟩
  change Go _ _ _ _ _ _ _ _ _ _ _ _ _ _ [a] h232 1 25 48 #[.val (.ref a), .val (.ref c), .val (.int (0 : Int32)), .val (.int z), .val .null, .val (.ref b230)] [(.int (0 : Int32)), (.ref a)]
  refine Go.putFN (pc' := 51) (v' := (.int (0 : Int32))) d_jdk_42_method_149_48 rfl (List.mem_of_getElem? (i := 0) rfl) (w_30 hw) Via.refl F_a_coder E_a (Or.inr ⟨(w_31 hw), rfl, rfl⟩) (w_5 hw) (ty := .byte) (by decide) rfl rfl ?_
  intro h237 W238
  replace F_a_coder := F_a_coder.same W238
  replace E_a := E_a.wr W238
  replace F_a_value := F_a_value.other W238 (Or.inr (slot_ne (Or.inr (w_33 hw)) (Or.inr (w_31 hw)) (by decide) (t := (.array .byte)) (t' := .byte) (by decide) (by decide)))
  replace V_c := V_c.other W238 ne_c_a
  replace V_b230 := V_b230.other W238 (Ne.symm o_a_b230)
  change Go _ _ _ _ _ _ _ _ _ _ _ _ _ _ [a] h237 1 25 51 #[.val (.ref a), .val (.ref c), .val (.int (0 : Int32)), .val (.int z), .val .null, .val (.ref b230)] []
  refine Go.aload_n (pc' := 52) d_jdk_42_method_149_51 rfl rfl rfl ?_
  refine Go.aload (pc' := 54) d_jdk_42_method_149_52 rfl rfl rfl ?_
  refine Go.putF (pc' := 57) d_jdk_42_method_149_54 rfl (List.mem_of_getElem? (i := 0) rfl) (host := "") (Or.inl (w_32 hw)) Via.refl F_a_value E_a (Or.inr ⟨(w_33 hw), rfl, rfl⟩) (w_5 hw) (ty := (.array .byte)) (by decide) rfl rfl ?_
  intro h239 W240
  replace F_a_value := F_a_value.same W240
  replace E_a := E_a.wr W240
  replace V_c := V_c.other W240 ne_c_a
  replace V_b230 := V_b230.other W240 (Ne.symm o_a_b230)
  replace F_a_coder := F_a_coder.other W240 (Or.inr (slot_ne (Or.inr (w_31 hw)) (Or.inr (w_33 hw)) (by decide) (t := .byte) (t' := (.array .byte)) (by decide) (by decide)))
  change Go _ _ _ _ _ _ _ _ _ _ _ _ _ _ [a] h239 1 25 57 #[.val (.ref a), .val (.ref c), .val (.int (0 : Int32)), .val (.int z), .val .null, .val (.ref b230)] []
  exact Go.retV d_jdk_42_method_149_57 rfl (by decide) (by decide) [] sn0 ⟨b230, q231, rfl, rfl, E_a, F_a_coder, F_a_value, V_b230, ge_b230⟩
abbrev R_m_str : Room := { frames := 3, cells := 1, slots := 25, locals := 52 }
theorem pn_m_str : plainFor (⟨"java/lang/String", "<init>", "([C)V"⟩ : MethodName) = true := by first | (refine plainFor_of_name ?_; simp [plainName, overriddenIn]; done) | decide +kernel
abbrev Q_m_str (Z : State) (a : Addr) (c : Addr) (kc : ClassId) (cs : List Int32) (z : Int32) (h0 : Heap) : Option Value → Heap → List Addr → Prop := fun res h' SN => ∃ (t : Addr) (kt : ClassId), res = none ∧ SN = [] ∧ Exa Z h' a "java/lang/String" ∧ Fld Z h' a "java/lang/String" "coder" "B" (.int (0 : Int32)) ∧ Fld Z h' a "java/lang/String" "value" "[B" (.ref t) ∧ Arv Z h' t kt .byte z (cs.map lowV) (.int (0 : Int32)) ∧ h0.size ≤ t
theorem ef_m_str (mid : MethodId) (a : Addr) (c : Addr) (kc : ClassId) (cs : List Int32) (z : Int32) : entryFrame mid #[(.ref a), (.ref c)] 2 = mkF mid 0 #[.val (.ref a), .val (.ref c)] [] := by first | (simp [entryFrame, mkF, argsToLocals, Value.category]; done) | rfl
set_option maxRecDepth 65536 in
set_option maxHeartbeats 40000000 in
theorem m_str {l : Launch} {Z : State} {a0 : Array Value} {n0 : Nat} (hw : ∀ d ∈ tables_1, d.before a0 Z = true) (hs : Stat Z) (a : Addr) (c : Addr) (kc : ClassId) (cs : List Int32) (z : Int32) (h0 : Heap) (E_a : Exa Z h0 a "java/lang/String") (F_a_coder : Fld Z h0 a "java/lang/String" "coder" "B" (.int (0 : Int32))) (F_a_value : Fld Z h0 a "java/lang/String" "value" "[B" .null) (V_c : Arv Z h0 c kc .char z (cs.map Value.int) (.int (0 : Int32))) (hz : z.toNatClampNeg = cs.length) (hcs : ∀ x ∈ cs, ¬ x < 0 ∧ ¬ 255 < x) (hcs0 : cs ≠ []) (hcap : z.toNatClampNeg ≤ CAP) (ne_c_a : c ≠ a) :
    Met l Z EL0 n0 NR0 KN0 N_35 jdk_42_method_3_code 2 (Option.none : Option Jvm.ClassFile.FieldType) R_m_str [a] #[(.ref a), (.ref c)] h0 (Q_m_str Z a c kc cs z h0) := by
  refine Met.of_go pn_m_str (fun mid => ef_m_str mid a c kc cs z ) ?_
  intro hO hWS
  refine Go.aload_n (pc' := 1) d_jdk_42_method_3_0 rfl rfl rfl ?_
  refine Go.aload_n (pc' := 2) d_jdk_42_method_3_1 rfl rfl rfl ?_
  refine Go.iconst (pc' := 3) d_jdk_42_method_3_2 rfl ic_0 ?_
  refine Go.aload_n (pc' := 4) d_jdk_42_method_3_3 rfl rfl rfl ?_
  refine Go.lenV (pc' := 5) d_jdk_42_method_3_4 rfl V_c ?_
  refine Go.aconst_null (pc' := 6) d_jdk_42_method_3_5 rfl ?_
  refine Go.callI (pc' := 9) (z := N_34) (a := a) d_jdk_42_method_3_6 rfl rfl (w_11 hw) (w_12 hw) (w_14 hw) (by decide) (argsL := [(.ref c), (.int (0 : Int32)), (.int z), .null]) (rest := []) (Pays.of_met (W := 0) (len := 3) (m_str4 hw hs a c kc cs z h0 E_a F_a_coder F_a_value V_c (hz) (hcs) (hcs0) (hcap) ne_c_a) (w_14 hw) (w_6 hw) (by decide) (by decide)) rfl rfl (lenOf pd_24 rfl) rfl (Nat.le_of_eq rfl) (memS (List.mem_of_getElem? (i := 0) rfl) mem0) (by decide) (by decide) ?_
  rintro _ h243 _ K244 le245 ⟨b241, q242, rfl, rfl, p246, p247, p248, p249, p250⟩
  have o_a_b241 : a ≠ b241 := Nat.ne_of_lt (Nat.lt_of_lt_of_le E_a.lt p250)
  have o_c_b241 : c ≠ b241 := Nat.ne_of_lt (Nat.lt_of_lt_of_le V_c.lt p250)
  have ge_b241 := Nat.le_trans le245 p250
  replace E_a := E_a.keep K244
  replace V_c := V_c.keep K244 (ninS ne_c_a nin0)
  have F_a_coder := p247
  have F_a_value := p248
  have V_b241 := p249
  change Go _ _ _ _ _ _ _ _ _ _ _ _ _ _ [a] h243 1 25 9 #[.val (.ref a), .val (.ref c)] []
  exact Go.retV d_jdk_42_method_3_9 rfl (by decide) (by decide) [] sn0 ⟨b241, q242, rfl, rfl, E_a, F_a_coder, F_a_value, V_b241, ge_b241⟩
abbrev R_m_str4e : Room := { frames := 1, cells := 4, slots := 8, locals := 12 }
theorem pn_m_str4e : plainFor (⟨"java/lang/String", "<init>", "([CIILjava/lang/Void;)V"⟩ : MethodName) = true := by first | (refine plainFor_of_name ?_; simp [plainName, overriddenIn]; done) | decide +kernel
abbrev Q_m_str4e (Z : State) (a : Addr) (c : Addr) (h0 : Heap) : Option Value → Heap → List Addr → Prop := fun res h' SN => ∃ (t : Addr) (kt : ClassId), res = none ∧ SN = [] ∧ Exa Z h' a "java/lang/String" ∧ Fld Z h' a "java/lang/String" "coder" "B" (.int (0 : Int32)) ∧ Fld Z h' a "java/lang/String" "value" "[B" (.ref t) ∧ Arv Z h' t kt .byte (0 : Int32) [] (.int (0 : Int32))
theorem ef_m_str4e (mid : MethodId) (a : Addr) (c : Addr) : entryFrame mid #[(.ref a), (.ref c), (.int (0 : Int32)), (.int (0 : Int32)), .null] 6 = mkF mid 0 #[.val (.ref a), .val (.ref c), .val (.int (0 : Int32)), .val (.int (0 : Int32)), .val .null, .unset] [] := by first | (simp [entryFrame, mkF, argsToLocals, Value.category]; done) | rfl
set_option maxRecDepth 65536 in
set_option maxHeartbeats 40000000 in
theorem m_str4e {l : Launch} {Z : State} {a0 : Array Value} {n0 : Nat} (hw : ∀ d ∈ tables_1, d.before a0 Z = true) (hs : Stat Z) (a : Addr) (c : Addr) (h0 : Heap) (E_a : Exa Z h0 a "java/lang/String") (F_a_coder : Fld Z h0 a "java/lang/String" "coder" "B" (.int (0 : Int32))) (F_a_value : Fld Z h0 a "java/lang/String" "value" "[B" .null) :
    Met l Z EL0 n0 NR0 KN0 N_34 jdk_42_method_149_code 6 (Option.none : Option Jvm.ClassFile.FieldType) R_m_str4e [a] #[(.ref a), (.ref c), (.int (0 : Int32)), (.int (0 : Int32)), .null] h0 (Q_m_str4e Z a c h0) := by
  refine Met.of_go pn_m_str4e (fun mid => ef_m_str4e mid a c ) ?_
  intro hO hWS
  refine Go.aload_n (pc' := 1) d_jdk_42_method_149_0 rfl rfl rfl ?_
  refine Go.initO (pc' := 4) (W := 0) d_jdk_42_method_149_1 rfl (w_15 hw) (w_16 hw) (w_17 hw) rfl (by decide) (Nat.le_of_eq rfl) (by decide) ?_
  refine Go.iload_n (pc' := 5) d_jdk_42_method_149_4 rfl rfl ?_
  refine Go.ifN (pc' := 8) d_jdk_42_method_149_5 rfl ((if0 _ _).trans (teq (rfl : (0 : Int32) = (0 : Int32))).2) ?_
  refine Go.aload_n (pc' := 9) d_jdk_42_method_149_8 rfl rfl rfl ?_
  refine Go.ldcS (pc' := 11) (nn := 0) (z := 0) (vs := []) rfl d_jdk_42_method_149_9 rfl (w_241 hw) (sA hw) (by decide) lit_2 (by decide) (by decide) (by decide) (by decide) (by decide) (by decide) ?_
  intro h251 s252 t253 q254 x255 E_s252 F_s252_coder F_s252_value V_t253 ne256
  replace E_a := E_a.ext x255
  replace F_a_coder := F_a_coder.ext x255
  replace F_a_value := F_a_value.ext x255
  have o_a_s252 := (ne256 a (List.mem_of_getElem? (i := 0) rfl)).1
  have o_a_t253 := (ne256 a (List.mem_of_getElem? (i := 0) rfl)).2
  change Go _ _ _ _ _ _ _ _ _ _ _ _ _ _ [a] h251 2 4 11 #[.val (.ref a), .val (.ref c), .val (.int (0 : Int32)), .val (.int (0 : Int32)), .val .null, .unset] [(.ref s252), (.ref a)]
  refine Go.getF (pc' := 14) d_jdk_42_method_149_11 rfl (host := "") (Or.inl (w_32 hw)) Via.refl F_s252_value ?_
  refine Go.putF (pc' := 17) d_jdk_42_method_149_14 rfl (List.mem_of_getElem? (i := 0) rfl) (host := "") (Or.inl (w_32 hw)) Via.refl F_a_value E_a (Or.inr ⟨(w_33 hw), rfl, rfl⟩) (w_5 hw) (ty := (.array .byte)) (by decide) rfl rfl ?_
  intro h257 W258
  replace F_a_value := F_a_value.same W258
  replace E_a := E_a.wr W258
  replace F_a_coder := F_a_coder.other W258 (Or.inr (slot_ne (Or.inr (w_31 hw)) (Or.inr (w_33 hw)) (by decide) (t := .byte) (t' := (.array .byte)) (by decide) (by decide)))
  replace E_s252 := E_s252.wr W258
  replace F_s252_coder := F_s252_coder.other W258 (Or.inl (Ne.symm o_a_s252))
  replace F_s252_value := F_s252_value.other W258 (Or.inl (Ne.symm o_a_s252))
  replace V_t253 := V_t253.other W258 (Ne.symm o_a_t253)
  change Go _ _ _ _ _ _ _ _ _ _ _ _ _ _ [a] h257 2 4 17 #[.val (.ref a), .val (.ref c), .val (.int (0 : Int32)), .val (.int (0 : Int32)), .val .null, .unset] []
  refine Go.aload_n (pc' := 18) d_jdk_42_method_149_17 rfl rfl rfl ?_
  refine Go.ldcS (pc' := 20) (nn := 0) (z := 0) (vs := []) rfl d_jdk_42_method_149_18 rfl (w_241 hw) (sA hw) (by decide) lit_2 (by decide) (by decide) (by decide) (by decide) (by decide) (by decide) ?_
  intro h259 s260 t261 q262 x263 E_s260 F_s260_coder F_s260_value V_t261 ne264
  replace E_a := E_a.ext x263
  replace F_a_coder := F_a_coder.ext x263
  replace E_s252 := E_s252.ext x263
  replace F_s252_coder := F_s252_coder.ext x263
  replace F_s252_value := F_s252_value.ext x263
  replace V_t253 := V_t253.ext x263
  replace F_a_value := F_a_value.ext x263
  have o_a_s260 := (ne264 a (List.mem_of_getElem? (i := 0) rfl)).1
  have o_a_t261 := (ne264 a (List.mem_of_getElem? (i := 0) rfl)).2
  change Go _ _ _ _ _ _ _ _ _ _ _ _ _ _ [a] h259 4 8 20 #[.val (.ref a), .val (.ref c), .val (.int (0 : Int32)), .val (.int (0 : Int32)), .val .null, .unset] [(.ref s260), (.ref a)]
  refine Go.getF (pc' := 23) d_jdk_42_method_149_20 rfl (host := "") (Or.inl (w_30 hw)) Via.refl F_s260_coder ?_
  refine Go.putFN (pc' := 26) (v' := (.int (0 : Int32))) d_jdk_42_method_149_23 rfl (List.mem_of_getElem? (i := 0) rfl) (w_30 hw) Via.refl F_a_coder E_a (Or.inr ⟨(w_31 hw), rfl, rfl⟩) (w_5 hw) (ty := .byte) (by decide) rfl rfl ?_
  intro h265 W266
  replace F_a_coder := F_a_coder.same W266
  replace E_a := E_a.wr W266
  replace E_s252 := E_s252.wr W266
  replace F_s252_coder := F_s252_coder.other W266 (Or.inl (Ne.symm o_a_s252))
  replace F_s252_value := F_s252_value.other W266 (Or.inl (Ne.symm o_a_s252))
  replace V_t253 := V_t253.other W266 (Ne.symm o_a_t253)
  replace F_a_value := F_a_value.other W266 (Or.inr (slot_ne (Or.inr (w_33 hw)) (Or.inr (w_31 hw)) (by decide) (t := (.array .byte)) (t' := .byte) (by decide) (by decide)))
  replace E_s260 := E_s260.wr W266
  replace F_s260_coder := F_s260_coder.other W266 (Or.inl (Ne.symm o_a_s260))
  replace F_s260_value := F_s260_value.other W266 (Or.inl (Ne.symm o_a_s260))
  replace V_t261 := V_t261.other W266 (Ne.symm o_a_t261)
  change Go _ _ _ _ _ _ _ _ _ _ _ _ _ _ [a] h265 4 8 26 #[.val (.ref a), .val (.ref c), .val (.int (0 : Int32)), .val (.int (0 : Int32)), .val .null, .unset] []
  exact Go.retV d_jdk_42_method_149_26 rfl (by decide) (by decide) [] sn0 ⟨t253, q254, rfl, rfl, E_a, F_a_coder, F_a_value, V_t253⟩
abbrev R_m_stre : Room := { frames := 2, cells := 4, slots := 8, locals := 29 }
theorem pn_m_stre : plainFor (⟨"java/lang/String", "<init>", "([C)V"⟩ : MethodName) = true := by first | (refine plainFor_of_name ?_; simp [plainName, overriddenIn]; done) | decide +kernel
abbrev Q_m_stre (Z : State) (a : Addr) (c : Addr) (kc : ClassId) (vs : List Value) (h0 : Heap) : Option Value → Heap → List Addr → Prop := fun res h' SN => ∃ (t : Addr) (kt : ClassId), res = none ∧ SN = [] ∧ Exa Z h' a "java/lang/String" ∧ Fld Z h' a "java/lang/String" "coder" "B" (.int (0 : Int32)) ∧ Fld Z h' a "java/lang/String" "value" "[B" (.ref t) ∧ Arv Z h' t kt .byte (0 : Int32) [] (.int (0 : Int32))
theorem ef_m_stre (mid : MethodId) (a : Addr) (c : Addr) (kc : ClassId) (vs : List Value) : entryFrame mid #[(.ref a), (.ref c)] 2 = mkF mid 0 #[.val (.ref a), .val (.ref c)] [] := by first | (simp [entryFrame, mkF, argsToLocals, Value.category]; done) | rfl
set_option maxRecDepth 65536 in
set_option maxHeartbeats 40000000 in
theorem m_stre {l : Launch} {Z : State} {a0 : Array Value} {n0 : Nat} (hw : ∀ d ∈ tables_1, d.before a0 Z = true) (hs : Stat Z) (a : Addr) (c : Addr) (kc : ClassId) (vs : List Value) (h0 : Heap) (E_a : Exa Z h0 a "java/lang/String") (F_a_coder : Fld Z h0 a "java/lang/String" "coder" "B" (.int (0 : Int32))) (F_a_value : Fld Z h0 a "java/lang/String" "value" "[B" .null) (V_c : Arv Z h0 c kc .char (0 : Int32) vs (.int (0 : Int32))) (ne_c_a : c ≠ a) :
    Met l Z EL0 n0 NR0 KN0 N_35 jdk_42_method_3_code 2 (Option.none : Option Jvm.ClassFile.FieldType) R_m_stre [a] #[(.ref a), (.ref c)] h0 (Q_m_stre Z a c kc vs h0) := by
  refine Met.of_go pn_m_stre (fun mid => ef_m_stre mid a c kc vs ) ?_
  intro hO hWS
  refine Go.aload_n (pc' := 1) d_jdk_42_method_3_0 rfl rfl rfl ?_
  refine Go.aload_n (pc' := 2) d_jdk_42_method_3_1 rfl rfl rfl ?_
  refine Go.iconst (pc' := 3) d_jdk_42_method_3_2 rfl ic_0 ?_
  refine Go.aload_n (pc' := 4) d_jdk_42_method_3_3 rfl rfl rfl ?_
  refine Go.lenV (pc' := 5) d_jdk_42_method_3_4 rfl V_c ?_
  refine Go.aconst_null (pc' := 6) d_jdk_42_method_3_5 rfl ?_
  refine Go.callI (pc' := 9) (z := N_34) (a := a) d_jdk_42_method_3_6 rfl rfl (w_11 hw) (w_12 hw) (w_14 hw) (by decide) (argsL := [(.ref c), (.int (0 : Int32)), (.int (0 : Int32)), .null]) (rest := []) (Pays.of_met (W := 0) (len := 3) (m_str4e hw hs a c h0 E_a F_a_coder F_a_value) (w_14 hw) (w_6 hw) (by decide) (by decide)) rfl rfl (lenOf pd_24 rfl) rfl (Nat.le_of_eq rfl) (memS (List.mem_of_getElem? (i := 0) rfl) mem0) (by decide) (by decide) ?_
  rintro _ h269 _ K270 le271 ⟨b267, q268, rfl, rfl, p272, p273, p274, p275⟩
  replace E_a := E_a.keep K270
  replace V_c := V_c.keep K270 (ninS ne_c_a nin0)
  have F_a_coder := p273
  have F_a_value := p274
  have V_b267 := p275
  change Go _ _ _ _ _ _ _ _ _ _ _ _ _ _ [a] h269 4 8 9 #[.val (.ref a), .val (.ref c)] []
  exact Go.retV d_jdk_42_method_3_9 rfl (by decide) (by decide) [] sn0 ⟨b267, q268, rfl, rfl, E_a, F_a_coder, F_a_value, V_b267⟩
abbrev RL_l1e : Room := { frames := 0, cells := 0, slots := 0, locals := 0 }
set_option maxRecDepth 65536 in
set_option maxHeartbeats 40000000 in
theorem m_l1e_loop {l : Launch} {Z : State} {n0 : Nat} {h0 : Heap} {Q : Option Value → Heap → List Addr → Prop} {t s : Addr} {kt ks : ClassId} {us ws : List Int32} {z : Int32} (hz : z.toNatClampNeg = us.length) (hl : us.length = ws.length) (V_t : Arv Z h0 t kt .byte z (us.map Value.int) (.int (0 : Int32))) (V_s : Arv Z h0 s ks .byte z (ws.map Value.int) (.int (0 : Int32))) (hQ : Q (some (.int (own_eqb us ws))) h0 []) :
    ∀ (m i : Nat), i + m = us.length → us.take i = ws.take i → Go l Z EL0 n0 NR0 KN0 N_36 jdk_43_method_13_code 3 (Option.some Jvm.ClassFile.FieldType.boolean) RL_l1e h0 [] Q [] h0 0 0 9 #[.val (.ref t), .val (.ref s), .val (.int (Int32.ofNat i))] [] := by
  intro m
  induction m with
  | zero =>
    intro i hi ht
    obtain rfl : i = us.length := by omega
    have zn := arv_nn V_t
    have q := (back32 zn).2
    have e : us = ws := by rw [List.take_length, hl, List.take_length] at ht; exact ht
    rw [own_eqb_pos e] at hQ
    refine Go.iload_n (pc' := 10) d_jdk_43_method_13_9 rfl rfl ?_
    refine Go.aload_n (pc' := 11) d_jdk_43_method_13_10 rfl rfl rfl ?_
    refine Go.lenV (pc' := 12) d_jdk_43_method_13_11 rfl V_t ?_
    refine Go.icmpY (pc' := 32) d_jdk_43_method_13_12 (by decide) (by decide) (flt (ofNat_ge zn (by omega) (Nat.le_of_eq hz) : ¬ ((Int32.ofNat us.length) < z))).2.1 ?_
    refine Go.iconst (pc' := 33) d_jdk_43_method_13_32 rfl ic_1 ?_
    exact Go.retS (ty := .boolean) d_jdk_43_method_13_33 rfl (by simp) rfl (by decide) (by decide) [] sn0 hQ
  | succ m ih =>
    intro i hi ht
    have zn := arv_nn V_t
    have q := (back32 zn).2
    have hi2 : i < us.length := by omega
    have ci := ofNat_clamp (i := i) (by omega)
    have nn := ofNat_nn (i := i) (by omega)
    have lt := ofNat_lt (i := i) zn (by omega)
    refine Go.iload_n (pc' := 10) d_jdk_43_method_13_9 rfl rfl ?_
    refine Go.aload_n (pc' := 11) d_jdk_43_method_13_10 rfl rfl rfl ?_
    refine Go.lenV (pc' := 12) d_jdk_43_method_13_11 rfl V_t ?_
    refine Go.icmpN (pc' := 15) d_jdk_43_method_13_12 rfl (tlt (lt : (Int32.ofNat i) < z)).2.1 ?_
    refine Go.aload_n (pc' := 16) d_jdk_43_method_13_15 rfl rfl rfl ?_
    refine Go.iload_n (pc' := 17) d_jdk_43_method_13_16 rfl rfl ?_
    refine Go.baloadV (pc' := 18) (v := (.int (us.getD i 0))) d_jdk_43_method_13_17 rfl V_t ⟨nn, lt⟩ (by rw [ci]; exact getD_int us i) ?_
    refine Go.aload_n (pc' := 19) d_jdk_43_method_13_18 rfl rfl rfl ?_
    refine Go.iload_n (pc' := 20) d_jdk_43_method_13_19 rfl rfl ?_
    refine Go.baloadV (pc' := 21) (v := (.int (ws.getD i 0))) d_jdk_43_method_13_20 rfl V_s ⟨nn, lt⟩ (by rw [ci]; exact getD_int ws i) ?_
    by_cases h1 : (us.getD i 0) = (ws.getD i 0)
    · skip
      refine Go.icmpY (pc' := 26) d_jdk_43_method_13_21 (by decide) (by decide) (teq (h1 : (us.getD i 0) = (ws.getD i 0))).1 ?_
      refine Go.iinc (pc' := 29) (Ls' := #[.val (.ref t), .val (.ref s), .val (.int ((Int32.ofNat i) + (1 : Int32)))]) d_jdk_43_method_13_26 rfl ic_1 rfl rfl ?_
      refine Go.goto (pc' := 9) d_jdk_43_method_13_29 (by decide) (by decide) ?_
      rw [ofNat_succ i]
      exact ih (i + 1) (by omega) (own_take_succ hi2 (by omega) ht h1)
    · skip
      refine Go.icmpN (pc' := 24) d_jdk_43_method_13_21 rfl (feq (h1 : ¬ ((us.getD i 0) = (ws.getD i 0)))).1 ?_
      refine Go.iconst (pc' := 25) d_jdk_43_method_13_24 rfl ic_0 ?_
      rw [own_eqb_neg (fun e => h1 (by rw [e]))] at hQ
      exact Go.retS (ty := .boolean) d_jdk_43_method_13_25 rfl (by simp) rfl (by decide) (by decide) [] sn0 hQ
abbrev R_m_l1e : Room := { frames := 0, cells := 0, slots := 0, locals := 0 }
theorem pn_m_l1e : plainFor (⟨"java/lang/StringLatin1", "equals", "([B[B)Z"⟩ : MethodName) = true := by first | (refine plainFor_of_name ?_; simp [plainName, overriddenIn]; done) | decide +kernel
abbrev Q_m_l1e (Z : State) (t : Addr) (s : Addr) (kt : ClassId) (ks : ClassId) (us : List Int32) (ws : List Int32) (z : Int32) (z2 : Int32) (h0 : Heap) : Option Value → Heap → List Addr → Prop := fun res h' SN => res = some (.int (own_eqb us ws)) ∧ SN = [] ∧ h0 = h'
theorem ef_m_l1e (mid : MethodId) (t : Addr) (s : Addr) (kt : ClassId) (ks : ClassId) (us : List Int32) (ws : List Int32) (z : Int32) (z2 : Int32) : entryFrame mid #[(.ref t), (.ref s)] 3 = mkF mid 0 #[.val (.ref t), .val (.ref s), .unset] [] := by first | (simp [entryFrame, mkF, argsToLocals, Value.category]; done) | rfl
set_option maxRecDepth 65536 in
set_option maxHeartbeats 40000000 in
theorem m_l1e {l : Launch} {Z : State} {a0 : Array Value} {n0 : Nat} (hw : ∀ d ∈ tables_1, d.before a0 Z = true) (hs : Stat Z) (t : Addr) (s : Addr) (kt : ClassId) (ks : ClassId) (us : List Int32) (ws : List Int32) (z : Int32) (z2 : Int32) (h0 : Heap) (V_t : Arv Z h0 t kt .byte z (us.map Value.int) (.int (0 : Int32))) (V_s : Arv Z h0 s ks .byte z2 (ws.map Value.int) (.int (0 : Int32))) (hz : z.toNatClampNeg = us.length) (hw2 : z2.toNatClampNeg = ws.length) :
    Met l Z EL0 n0 NR0 KN0 N_36 jdk_43_method_13_code 3 (Option.some Jvm.ClassFile.FieldType.boolean) R_m_l1e [] #[(.ref t), (.ref s)] h0 (Q_m_l1e Z t s kt ks us ws z z2 h0) := by
  refine Met.of_go pn_m_l1e (fun mid => ef_m_l1e mid t s kt ks us ws z z2 ) ?_
  intro hO hWS
  refine Go.aload_n (pc' := 1) d_jdk_43_method_13_0 rfl rfl rfl ?_
  refine Go.lenV (pc' := 2) d_jdk_43_method_13_1 rfl V_t ?_
  refine Go.aload_n (pc' := 3) d_jdk_43_method_13_2 rfl rfl rfl ?_
  refine Go.lenV (pc' := 4) d_jdk_43_method_13_3 rfl V_s ?_
  by_cases h1 : z = z2
  · skip
    refine Go.icmpN (pc' := 7) d_jdk_43_method_13_4 rfl (teq (h1 : z = z2)).2 ?_
    subst h1
    refine Go.iconst (pc' := 8) d_jdk_43_method_13_7 rfl ic_0 ?_
    refine Go.istore_n (pc' := 9) (Ls' := #[.val (.ref t), .val (.ref s), .val (.int (0 : Int32))]) d_jdk_43_method_13_8 rfl rfl ?_
    exact m_l1e_loop hz (by rw [← hz, ← hw2]) V_t V_s ⟨rfl, rfl, rfl⟩ us.length 0 (by omega) rfl
  · skip
    refine Go.icmpY (pc' := 34) d_jdk_43_method_13_4 (by decide) (by decide) (feq (h1 : ¬ (z = z2))).2 ?_
    refine Go.iconst (pc' := 35) d_jdk_43_method_13_34 rfl ic_0 ?_
    exact Go.retS (ty := .boolean) d_jdk_43_method_13_35 rfl (by simp) rfl (by decide) (by decide) [] sn0 ⟨by rw [own_eqb_neg (fun e => h1 (own_clamp_inj (arv_nn V_t) (arv_nn V_s) (by rw [hz, hw2, e])))], rfl, rfl⟩
abbrev R_m_seq : Room := { frames := 1, cells := 0, slots := 0, locals := 14 }
theorem pn_m_seq : plainFor (⟨"java/lang/String", "equals", "(Ljava/lang/Object;)Z"⟩ : MethodName) = true := by first | (refine plainFor_of_name ?_; simp [plainName, overriddenIn]; done) | decide +kernel
abbrev Q_m_seq (Z : State) (a : Addr) (b : Addr) (t : Addr) (s : Addr) (kt : ClassId) (ks : ClassId) (us : List Int32) (ws : List Int32) (z : Int32) (z2 : Int32) (h0 : Heap) : Option Value → Heap → List Addr → Prop := fun res h' SN => res = some (.int (own_eqb us ws)) ∧ SN = [] ∧ h0 = h'
theorem ef_m_seq (mid : MethodId) (a : Addr) (b : Addr) (t : Addr) (s : Addr) (kt : ClassId) (ks : ClassId) (us : List Int32) (ws : List Int32) (z : Int32) (z2 : Int32) : entryFrame mid #[(.ref a), (.ref b)] 3 = mkF mid 0 #[.val (.ref a), .val (.ref b), .unset] [] := by first | (simp [entryFrame, mkF, argsToLocals, Value.category]; done) | rfl
set_option maxRecDepth 65536 in
set_option maxHeartbeats 40000000 in
theorem m_seq {l : Launch} {Z : State} {a0 : Array Value} {n0 : Nat} (hw : ∀ d ∈ tables_1, d.before a0 Z = true) (hs : Stat Z) (a : Addr) (b : Addr) (t : Addr) (s : Addr) (kt : ClassId) (ks : ClassId) (us : List Int32) (ws : List Int32) (z : Int32) (z2 : Int32) (h0 : Heap) (E_a : Exa Z h0 a "java/lang/String") (F_a_coder : Fld Z h0 a "java/lang/String" "coder" "B" (.int (0 : Int32))) (F_a_value : Fld Z h0 a "java/lang/String" "value" "[B" (.ref t)) (V_t : Arv Z h0 t kt .byte z (us.map Value.int) (.int (0 : Int32))) (E_b : Exa Z h0 b "java/lang/String") (F_b_coder : Fld Z h0 b "java/lang/String" "coder" "B" (.int (0 : Int32))) (F_b_value : Fld Z h0 b "java/lang/String" "value" "[B" (.ref s)) (V_s : Arv Z h0 s ks .byte z2 (ws.map Value.int) (.int (0 : Int32))) (hz : z.toNatClampNeg = us.length) (hw2 : z2.toNatClampNeg = ws.length) :
    Met l Z EL0 n0 NR0 KN0 N_37 jdk_42_method_66_code 3 (Option.some Jvm.ClassFile.FieldType.boolean) R_m_seq [] #[(.ref a), (.ref b)] h0 (Q_m_seq Z a b t s kt ks us ws z z2 h0) := by
  refine Met.of_go pn_m_seq (fun mid => ef_m_seq mid a b t s kt ks us ws z z2 ) ?_
  intro hO hWS
  obtain ⟨zc, S_c, hzc⟩ := hs_c hs
  refine Go.aload_n (pc' := 1) d_jdk_42_method_66_0 rfl rfl rfl ?_
  refine Go.aload_n (pc' := 2) d_jdk_42_method_66_1 rfl rfl rfl ?_
  by_cases hab : a = b
  · skip
    refine Go.acmp (pc' := 5) (same := true) d_jdk_42_method_66_2 rfl rfl (decide_eq_true (by rw [hab])) (by decide) (by decide) ?_
    refine Go.iconst (pc' := 6) d_jdk_42_method_66_5 rfl ic_1 ?_
    subst hab
    obtain rfl := own_fld_uniq F_a_value F_b_value
    exact Go.retS (ty := .boolean) d_jdk_42_method_66_6 rfl (by simp) rfl (by decide) (by decide) [] sn0 ⟨by rw [own_eqb_pos (own_arv_uniq V_t V_s hz hw2)], rfl, rfl⟩
  · skip
    refine Go.acmp (pc' := 7) (same := false) d_jdk_42_method_66_2 rfl rfl (decide_eq_false (fun e => hab (Value.ref.inj e))) (by decide) (by decide) ?_
    refine Go.aload_n (pc' := 8) d_jdk_42_method_66_7 rfl rfl rfl ?_
    refine Go.instY (pc' := 11) d_jdk_42_method_66_8 rfl (w_236 hw) (Ins.self E_b) ?_
    refine Go.ifN (pc' := 14) d_jdk_42_method_66_11 rfl ((if0 _ _).trans (feq (by decide : ¬ ((1 : Int32) = (0 : Int32)))).1) ?_
    refine Go.aload_n (pc' := 15) d_jdk_42_method_66_14 rfl rfl rfl ?_
    refine Go.castY (pc' := 18) d_jdk_42_method_66_15 rfl (w_236 hw) (Ins.self E_b) ?_
    refine Go.astore_n (pc' := 19) (Ls' := #[.val (.ref a), .val (.ref b), .val (.ref b)]) d_jdk_42_method_66_18 rfl rfl rfl ?_
    refine Go.getS (pc' := 22) d_jdk_42_method_66_19 rfl (host := "") (Or.inl (w_18 hw)) Via.refl S_c ?_
    refine Go.ifN (pc' := 25) d_jdk_42_method_66_22 rfl ((if0 _ _).trans (feq (hzc : ¬ (zc = (0 : Int32)))).1) ?_
    refine Go.aload_n (pc' := 26) d_jdk_42_method_66_25 rfl rfl rfl ?_
    refine Go.getF (pc' := 29) d_jdk_42_method_66_26 rfl (host := "") (Or.inl (w_30 hw)) Via.refl F_a_coder ?_
    refine Go.aload_n (pc' := 30) d_jdk_42_method_66_29 rfl rfl rfl ?_
    refine Go.getF (pc' := 33) d_jdk_42_method_66_30 rfl (host := "") (Or.inl (w_30 hw)) Via.refl F_b_coder ?_
    refine Go.icmpN (pc' := 36) d_jdk_42_method_66_33 rfl (teq (rfl : (0 : Int32) = (0 : Int32))).2 ?_
    refine Go.aload_n (pc' := 37) d_jdk_42_method_66_36 rfl rfl rfl ?_
    refine Go.getF (pc' := 40) d_jdk_42_method_66_37 rfl (host := "") (Or.inl (w_32 hw)) Via.refl F_a_value ?_
    refine Go.aload_n (pc' := 41) d_jdk_42_method_66_40 rfl rfl rfl ?_
    refine Go.getF (pc' := 44) d_jdk_42_method_66_41 rfl (host := "") (Or.inl (w_32 hw)) Via.refl F_b_value ?_
    refine Go.callS (pc' := 47) (z := N_36) d_jdk_42_method_66_44 rfl (w_237 hw) (w_238 hw) (w_239 hw) (w_240 hw) (by decide) (argsL := [(.ref t), (.ref s)]) (rest := []) (Pays.of_met (W := 0) (len := 3) (m_l1e hw hs t s kt ks us ws z z2 h0 V_t V_s (hz) (hw2)) (w_240 hw) (w_239 hw) (by decide) (by decide)) rfl rfl (lenOf pd_25 rfl) rfl (Nat.le_of_eq rfl) mem0 (by decide) (by decide) ?_
    rintro _ _ _ - - ⟨rfl, rfl, rfl⟩
    change Go _ _ _ _ _ _ _ _ _ _ _ _ _ _ [] h0 0 0 47 #[.val (.ref a), .val (.ref b), .val (.ref b)] [(.int (own_eqb us ws))]
    by_cases h1 : (own_eqb us ws) = (0 : Int32)
    · skip
      refine Go.ifY (pc' := 54) d_jdk_42_method_66_47 (by decide) (by decide) ((if0 _ _).trans (teq (h1 : (own_eqb us ws) = (0 : Int32))).1) ?_
      refine Go.iconst (pc' := 55) d_jdk_42_method_66_54 rfl ic_0 ?_
      exact Go.retS (ty := .boolean) d_jdk_42_method_66_55 rfl (by simp) rfl (by decide) (by decide) [] sn0 ⟨by rw [h1], rfl, rfl⟩
    · skip
      refine Go.ifN (pc' := 50) d_jdk_42_method_66_47 rfl ((if0 _ _).trans (feq (h1 : ¬ ((own_eqb us ws) = (0 : Int32)))).1) ?_
      refine Go.iconst (pc' := 51) d_jdk_42_method_66_50 rfl ic_1 ?_
      refine Go.goto (pc' := 55) d_jdk_42_method_66_51 (by decide) (by decide) ?_
      exact Go.retS (ty := .boolean) d_jdk_42_method_66_55 rfl (by simp) rfl (by decide) (by decide) [] sn0 ⟨by rw [own_eqb_pos (own_eqb1 h1)], rfl, rfl⟩
abbrev R_m_opt0 : Room := { frames := 3, cells := 6, slots := 12, locals := 43 }
theorem pn_m_opt0 : plainFor (⟨"com/example/slackline/slackline/UsageExceptionUnrecognizedOptionPinLaw", "opt", "(CCCI)Ljava/lang/String;"⟩ : MethodName) = true := by first | (refine plainFor_of_name ?_; simp [plainName, overriddenIn]; done) | decide +kernel
abbrev Q_m_opt0 (Z : State) (x : Int32) (y : Int32) (z : Int32) (h0 : Heap) : Option Value → Heap → List Addr → Prop := fun res h' SN => ∃ (s : Addr) (t : Addr) (kt : ClassId), res = some (.ref s) ∧ SN = [] ∧ Exa Z h' s "java/lang/String" ∧ Fld Z h' s "java/lang/String" "coder" "B" (.int (0 : Int32)) ∧ Fld Z h' s "java/lang/String" "value" "[B" (.ref t) ∧ Arv Z h' t kt .byte (0 : Int32) (([] : List Int32).map Value.int) (.int (0 : Int32))
theorem ef_m_opt0 (mid : MethodId) (x : Int32) (y : Int32) (z : Int32) : entryFrame mid #[(.int x), (.int y), (.int z), (.int (0 : Int32))] 4 = mkF mid 0 #[.val (.int x), .val (.int y), .val (.int z), .val (.int (0 : Int32))] [] := by first | (simp [entryFrame, mkF, argsToLocals, Value.category]; done) | rfl
set_option maxRecDepth 65536 in
set_option maxHeartbeats 40000000 in
theorem m_opt0 {l : Launch} {Z : State} {a0 : Array Value} {n0 : Nat} (hw : ∀ d ∈ tables_1, d.before a0 Z = true) (hs : Stat Z) (x : Int32) (y : Int32) (z : Int32) (h0 : Heap) (hx_x : ¬ x < 0 ∧ ¬ 255 < x) (hx_y : ¬ y < 0 ∧ ¬ 255 < y) (hx_z : ¬ z < 0 ∧ ¬ 255 < z) :
    Met l Z EL0 n0 NR0 KN0 N_38 method_3_code 4 (Option.some (Jvm.ClassFile.FieldType.object "java/lang/String")) R_m_opt0 [] #[(.int x), (.int y), (.int z), (.int (0 : Int32))] h0 (Q_m_opt0 Z x y z h0) := by
  refine Met.of_go pn_m_opt0 (fun mid => ef_m_opt0 mid x y z ) ?_
  intro hO hWS
  refine Go.iload_n (pc' := 1) d_method_3_0 rfl rfl ?_
  refine Go.ifN (pc' := 4) d_method_3_1 rfl ((if0 _ _).trans (teq (rfl : (0 : Int32) = (0 : Int32))).2) ?_
  refine Go.newO (pc' := 7) d_method_3_4 rfl (w_4 hw) (w_5 hw) (w_6 hw) (by decide) (by decide) ?_
  intro h276 b277 g278 ge_b277 x279 E_b277 D_b277 U_b277
  have F_b277_coder : Fld Z h276 b277 "java/lang/String" "coder" "B" (.int (0 : Int32)) := D_b277 (Or.inr (w_31 hw)) (ty := .byte) (by decide)
  have F_b277_value : Fld Z h276 b277 "java/lang/String" "value" "[B" .null := D_b277 (Or.inr (w_33 hw)) (ty := (.array .byte)) (by decide)
  change Go _ _ _ _ _ _ _ _ _ _ _ _ _ _ [b277] h276 1 4 7 #[.val (.int x), .val (.int y), .val (.int z), .val (.int (0 : Int32))] [(.ref b277)]
  refine Go.dup (pc' := 8) d_method_3_7 rfl rfl ?_
  refine Go.iconst (pc' := 9) d_method_3_8 rfl ic_0 ?_
  refine Go.newP (pc' := 11) (cap := 0) (ad := "[C") d_method_3_9 rfl (w_7 hw) (by decide) (by decide) (by decide) (by decide) (by decide) (by decide) ?_
  intro h280 b281 g282 ge_b281 q284 x283 V_b281 E_b281
  have o_b277_b281 : b277 ≠ b281 := Nat.ne_of_lt (Nat.lt_of_lt_of_le E_b277.lt (Nat.le_of_eq g282))
  replace E_b277 := E_b277.ext x283
  replace U_b277 := unt_ext x283 U_b277
  replace F_b277_coder := F_b277_coder.ext x283
  replace F_b277_value := F_b277_value.ext x283
  replace V_b281 : Arv Z h280 b281 q284 .char (0 : Int32) [] (.int (0 : Int32)) := V_b281.pad (pad_rep [] _ 0)
  change Go _ _ _ _ _ _ _ _ _ _ _ _ _ _ [b281, b277] h280 2 4 11 #[.val (.int x), .val (.int y), .val (.int z), .val (.int (0 : Int32))] [(.ref b281), (.ref b277), (.ref b277)]
  refine Go.callI (pc' := 14) (z := N_35) (a := b277) d_method_3_11 rfl rfl (w_8 hw) (w_9 hw) (w_10 hw) (by decide) (argsL := [(.ref b281)]) (rest := [(.ref b277)]) (Pays.of_met (W := 1) (len := 3) (m_stre hw hs b277 b281 q284 [] h280 E_b277 F_b277_coder F_b277_value V_b281 (Ne.symm o_b277_b281)) (w_10 hw) (w_6 hw) (by decide) (by decide)) rfl rfl (lenOf pd_26 rfl) rfl (Nat.le_of_eq rfl) (memS (List.mem_of_getElem? (i := 1) rfl) mem0) (by decide) (by decide) ?_
  rintro _ h287 _ K288 le289 ⟨b285, q286, rfl, rfl, p290, p291, p292, p293⟩
  replace E_b277 := E_b277.keep K288
  replace V_b281 := V_b281.keep K288 (ninS (Ne.symm o_b277_b281) nin0)
  replace E_b281 := E_b281.keep K288
  have F_b277_coder := p291
  have F_b277_value := p292
  have V_b285 := p293
  change Go _ _ _ _ _ _ _ _ _ _ _ _ _ _ [b281, b277] h287 6 12 14 #[.val (.int x), .val (.int y), .val (.int z), .val (.int (0 : Int32))] [(.ref b277)]
  replace V_b285 : Arv Z h287 b285 q286 .byte (0 : Int32) (([] : List Int32).map Value.int) (.int (0 : Int32)) := V_b285
  exact Go.retA d_method_3_14 rfl rfl rfl (by decide) (by decide) [] sn0 ⟨b277, b285, _, rfl, rfl, E_b277, F_b277_coder, F_b277_value, V_b285⟩
abbrev R_m_opt1 : Room := { frames := 4, cells := 3, slots := 30, locals := 66 }
theorem pn_m_opt1 : plainFor (⟨"com/example/slackline/slackline/UsageExceptionUnrecognizedOptionPinLaw", "opt", "(CCCI)Ljava/lang/String;"⟩ : MethodName) = true := by first | (refine plainFor_of_name ?_; simp [plainName, overriddenIn]; done) | decide +kernel
abbrev Q_m_opt1 (Z : State) (x : Int32) (y : Int32) (z : Int32) (h0 : Heap) : Option Value → Heap → List Addr → Prop := fun res h' SN => ∃ (s : Addr) (t : Addr) (kt : ClassId), res = some (.ref s) ∧ SN = [] ∧ Exa Z h' s "java/lang/String" ∧ Fld Z h' s "java/lang/String" "coder" "B" (.int (0 : Int32)) ∧ Fld Z h' s "java/lang/String" "value" "[B" (.ref t) ∧ Arv Z h' t kt .byte (1 : Int32) ([x.toInt8.toInt32].map Value.int) (.int (0 : Int32))
theorem ef_m_opt1 (mid : MethodId) (x : Int32) (y : Int32) (z : Int32) : entryFrame mid #[(.int x), (.int y), (.int z), (.int (1 : Int32))] 4 = mkF mid 0 #[.val (.int x), .val (.int y), .val (.int z), .val (.int (1 : Int32))] [] := by first | (simp [entryFrame, mkF, argsToLocals, Value.category]; done) | rfl
set_option maxRecDepth 65536 in
set_option maxHeartbeats 40000000 in
theorem m_opt1 {l : Launch} {Z : State} {a0 : Array Value} {n0 : Nat} (hw : ∀ d ∈ tables_1, d.before a0 Z = true) (hs : Stat Z) (x : Int32) (y : Int32) (z : Int32) (h0 : Heap) (hx_x : ¬ x < 0 ∧ ¬ 255 < x) (hx_y : ¬ y < 0 ∧ ¬ 255 < y) (hx_z : ¬ z < 0 ∧ ¬ 255 < z) :
    Met l Z EL0 n0 NR0 KN0 N_38 method_3_code 4 (Option.some (Jvm.ClassFile.FieldType.object "java/lang/String")) R_m_opt1 [] #[(.int x), (.int y), (.int z), (.int (1 : Int32))] h0 (Q_m_opt1 Z x y z h0) := by
  refine Met.of_go pn_m_opt1 (fun mid => ef_m_opt1 mid x y z ) ?_
  intro hO hWS
  refine Go.iload_n (pc' := 1) d_method_3_0 rfl rfl ?_
  refine Go.ifY (pc' := 15) d_method_3_1 (by decide) (by decide) ((if0 _ _).trans (feq (by decide : ¬ ((1 : Int32) = (0 : Int32)))).2) ?_
  refine Go.iload_n (pc' := 16) d_method_3_15 rfl rfl ?_
  refine Go.iconst (pc' := 17) d_method_3_16 rfl ic_1 ?_
  refine Go.icmpN (pc' := 20) d_method_3_17 rfl (teq (rfl : (1 : Int32) = (1 : Int32))).2 ?_
  refine Go.newO (pc' := 23) d_method_3_20 rfl (w_4 hw) (w_5 hw) (w_6 hw) (by decide) (by decide) ?_
  intro h294 b295 g296 ge_b295 x297 E_b295 D_b295 U_b295
  have F_b295_coder : Fld Z h294 b295 "java/lang/String" "coder" "B" (.int (0 : Int32)) := D_b295 (Or.inr (w_31 hw)) (ty := .byte) (by decide)
  have F_b295_value : Fld Z h294 b295 "java/lang/String" "value" "[B" .null := D_b295 (Or.inr (w_33 hw)) (ty := (.array .byte)) (by decide)
  change Go _ _ _ _ _ _ _ _ _ _ _ _ _ _ [b295] h294 1 4 23 #[.val (.int x), .val (.int y), .val (.int z), .val (.int (1 : Int32))] [(.ref b295)]
  refine Go.dup (pc' := 24) d_method_3_23 rfl rfl ?_
  refine Go.iconst (pc' := 25) d_method_3_24 rfl ic_1 ?_
  refine Go.newP (pc' := 27) (cap := 1) (ad := "[C") d_method_3_25 rfl (w_7 hw) (by decide) (by decide) (by decide) (by decide) (by decide) (by decide) ?_
  intro h298 b299 g300 ge_b299 q302 x301 V_b299 E_b299
  have o_b295_b299 : b295 ≠ b299 := Nat.ne_of_lt (Nat.lt_of_lt_of_le E_b295.lt (Nat.le_of_eq g300))
  replace E_b295 := E_b295.ext x301
  replace U_b295 := unt_ext x301 U_b295
  replace F_b295_coder := F_b295_coder.ext x301
  replace F_b295_value := F_b295_value.ext x301
  replace V_b299 : Arv Z h298 b299 q302 .char (1 : Int32) [(.int (0 : Int32))] (.int (0 : Int32)) := V_b299.pad (pad_rep [] _ 1)
  change Go _ _ _ _ _ _ _ _ _ _ _ _ _ _ [b299, b295] h298 2 5 27 #[.val (.int x), .val (.int y), .val (.int z), .val (.int (1 : Int32))] [(.ref b299), (.ref b295), (.ref b295)]
  refine Go.dup (pc' := 28) d_method_3_27 rfl rfl ?_
  refine Go.iconst (pc' := 29) d_method_3_28 rfl ic_0 ?_
  refine Go.iload_n (pc' := 30) d_method_3_29 rfl rfl ?_
  refine Go.castoreV (pc' := 31) (i := 0) d_method_3_30 rfl (List.mem_of_getElem? (i := 0) rfl) V_b299 (by decide) (by decide) (by simp) ?_
  rw [nar_char hx_x.1 (le255 hx_x.2)]
  intro h303 W304 V_b299'
  replace E_b295 := E_b295.wr W304
  replace U_b295 := own_unt_wr W304 U_b295
  replace F_b295_coder := F_b295_coder.other W304 (Or.inl o_b295_b299)
  replace F_b295_value := F_b295_value.other W304 (Or.inl o_b295_b299)
  replace E_b299 := E_b299.wr W304
  replace V_b299 : Arv Z h303 b299 q302 .char (1 : Int32) [(.int x)] (.int (0 : Int32)) := V_b299'
  change Go _ _ _ _ _ _ _ _ _ _ _ _ _ _ [b299, b295] h303 2 5 31 #[.val (.int x), .val (.int y), .val (.int z), .val (.int (1 : Int32))] [(.ref b299), (.ref b295), (.ref b295)]
  replace V_b299 : Arv Z h303 b299 q302 .char (1 : Int32) ([x].map Value.int) (.int (0 : Int32)) := V_b299
  refine Go.callI (pc' := 34) (z := N_35) (a := b295) d_method_3_31 rfl rfl (w_8 hw) (w_9 hw) (w_10 hw) (by decide) (argsL := [(.ref b299)]) (rest := [(.ref b295)]) (Pays.of_met (W := 1) (len := 3) (m_str hw hs b295 b299 q302 [x] (1 : Int32) h303 E_b295 F_b295_coder F_b295_value V_b299 (show (1 : Int32).toNatClampNeg = 1 from by decide) ((own_one (P := fun x => ¬ x < 0 ∧ ¬ 255 < x) hx_x)) (List.cons_ne_nil _ _) (by decide) (Ne.symm o_b295_b299)) (w_10 hw) (w_6 hw) (by decide) (by decide)) rfl rfl (lenOf pd_26 rfl) rfl (Nat.le_of_eq rfl) (memS (List.mem_of_getElem? (i := 1) rfl) mem0) (by decide) (by decide) ?_
  rintro _ h307 _ K308 le309 ⟨b305, q306, rfl, rfl, p310, p311, p312, p313, p314⟩
  have o_b295_b305 : b295 ≠ b305 := Nat.ne_of_lt (Nat.lt_of_lt_of_le E_b295.lt p314)
  have o_b299_b305 : b299 ≠ b305 := Nat.ne_of_lt (Nat.lt_of_lt_of_le E_b299.lt p314)
  have ge_b305 := Nat.le_trans le309 p314
  replace E_b295 := E_b295.keep K308
  replace E_b299 := E_b299.keep K308
  replace V_b299 := V_b299.keep K308 (ninS (Ne.symm o_b295_b299) nin0)
  have F_b295_coder := p311
  have F_b295_value := p312
  have V_b305 := p313
  change Go _ _ _ _ _ _ _ _ _ _ _ _ _ _ [b299, b295] h307 3 30 34 #[.val (.int x), .val (.int y), .val (.int z), .val (.int (1 : Int32))] [(.ref b295)]
  replace V_b305 : Arv Z h307 b305 q306 .byte (1 : Int32) ([x.toInt8.toInt32].map Value.int) (.int (0 : Int32)) := V_b305
  exact Go.retA d_method_3_34 rfl rfl rfl (by decide) (by decide) [] sn0 ⟨b295, b305, _, rfl, rfl, E_b295, F_b295_coder, F_b295_value, V_b305⟩
abbrev R_m_opt2 : Room := { frames := 4, cells := 3, slots := 31, locals := 66 }
theorem pn_m_opt2 : plainFor (⟨"com/example/slackline/slackline/UsageExceptionUnrecognizedOptionPinLaw", "opt", "(CCCI)Ljava/lang/String;"⟩ : MethodName) = true := by first | (refine plainFor_of_name ?_; simp [plainName, overriddenIn]; done) | decide +kernel
abbrev Q_m_opt2 (Z : State) (x : Int32) (y : Int32) (z : Int32) (h0 : Heap) : Option Value → Heap → List Addr → Prop := fun res h' SN => ∃ (s : Addr) (t : Addr) (kt : ClassId), res = some (.ref s) ∧ SN = [] ∧ Exa Z h' s "java/lang/String" ∧ Fld Z h' s "java/lang/String" "coder" "B" (.int (0 : Int32)) ∧ Fld Z h' s "java/lang/String" "value" "[B" (.ref t) ∧ Arv Z h' t kt .byte (2 : Int32) ([x.toInt8.toInt32, y.toInt8.toInt32].map Value.int) (.int (0 : Int32))
theorem ef_m_opt2 (mid : MethodId) (x : Int32) (y : Int32) (z : Int32) : entryFrame mid #[(.int x), (.int y), (.int z), (.int (2 : Int32))] 4 = mkF mid 0 #[.val (.int x), .val (.int y), .val (.int z), .val (.int (2 : Int32))] [] := by first | (simp [entryFrame, mkF, argsToLocals, Value.category]; done) | rfl
set_option maxRecDepth 65536 in
set_option maxHeartbeats 40000000 in
theorem m_opt2 {l : Launch} {Z : State} {a0 : Array Value} {n0 : Nat} (hw : ∀ d ∈ tables_1, d.before a0 Z = true) (hs : Stat Z) (x : Int32) (y : Int32) (z : Int32) (h0 : Heap) (hx_x : ¬ x < 0 ∧ ¬ 255 < x) (hx_y : ¬ y < 0 ∧ ¬ 255 < y) (hx_z : ¬ z < 0 ∧ ¬ 255 < z) :
    Met l Z EL0 n0 NR0 KN0 N_38 method_3_code 4 (Option.some (Jvm.ClassFile.FieldType.object "java/lang/String")) R_m_opt2 [] #[(.int x), (.int y), (.int z), (.int (2 : Int32))] h0 (Q_m_opt2 Z x y z h0) := by
  refine Met.of_go pn_m_opt2 (fun mid => ef_m_opt2 mid x y z ) ?_
  intro hO hWS
  refine Go.iload_n (pc' := 1) d_method_3_0 rfl rfl ?_
  refine Go.ifY (pc' := 15) d_method_3_1 (by decide) (by decide) ((if0 _ _).trans (feq (by decide : ¬ ((2 : Int32) = (0 : Int32)))).2) ?_
  refine Go.iload_n (pc' := 16) d_method_3_15 rfl rfl ?_
  refine Go.iconst (pc' := 17) d_method_3_16 rfl ic_1 ?_
  refine Go.icmpY (pc' := 35) d_method_3_17 (by decide) (by decide) (feq (by decide : ¬ ((2 : Int32) = (1 : Int32)))).2 ?_
  refine Go.iload_n (pc' := 36) d_method_3_35 rfl rfl ?_
  refine Go.iconst (pc' := 37) d_method_3_36 rfl ic_2 ?_
  refine Go.icmpN (pc' := 40) d_method_3_37 rfl (teq (rfl : (2 : Int32) = (2 : Int32))).2 ?_
  refine Go.newO (pc' := 43) d_method_3_40 rfl (w_4 hw) (w_5 hw) (w_6 hw) (by decide) (by decide) ?_
  intro h315 b316 g317 ge_b316 x318 E_b316 D_b316 U_b316
  have F_b316_coder : Fld Z h315 b316 "java/lang/String" "coder" "B" (.int (0 : Int32)) := D_b316 (Or.inr (w_31 hw)) (ty := .byte) (by decide)
  have F_b316_value : Fld Z h315 b316 "java/lang/String" "value" "[B" .null := D_b316 (Or.inr (w_33 hw)) (ty := (.array .byte)) (by decide)
  change Go _ _ _ _ _ _ _ _ _ _ _ _ _ _ [b316] h315 1 4 43 #[.val (.int x), .val (.int y), .val (.int z), .val (.int (2 : Int32))] [(.ref b316)]
  refine Go.dup (pc' := 44) d_method_3_43 rfl rfl ?_
  refine Go.iconst (pc' := 45) d_method_3_44 rfl ic_2 ?_
  refine Go.newP (pc' := 47) (cap := 2) (ad := "[C") d_method_3_45 rfl (w_7 hw) (by decide) (by decide) (by decide) (by decide) (by decide) (by decide) ?_
  intro h319 b320 g321 ge_b320 q323 x322 V_b320 E_b320
  have o_b316_b320 : b316 ≠ b320 := Nat.ne_of_lt (Nat.lt_of_lt_of_le E_b316.lt (Nat.le_of_eq g321))
  replace E_b316 := E_b316.ext x322
  replace U_b316 := unt_ext x322 U_b316
  replace F_b316_coder := F_b316_coder.ext x322
  replace F_b316_value := F_b316_value.ext x322
  replace V_b320 : Arv Z h319 b320 q323 .char (2 : Int32) [(.int (0 : Int32)), (.int (0 : Int32))] (.int (0 : Int32)) := V_b320.pad (pad_rep [] _ 2)
  change Go _ _ _ _ _ _ _ _ _ _ _ _ _ _ [b320, b316] h319 2 6 47 #[.val (.int x), .val (.int y), .val (.int z), .val (.int (2 : Int32))] [(.ref b320), (.ref b316), (.ref b316)]
  refine Go.dup (pc' := 48) d_method_3_47 rfl rfl ?_
  refine Go.iconst (pc' := 49) d_method_3_48 rfl ic_0 ?_
  refine Go.iload_n (pc' := 50) d_method_3_49 rfl rfl ?_
  refine Go.castoreV (pc' := 51) (i := 0) d_method_3_50 rfl (List.mem_of_getElem? (i := 0) rfl) V_b320 (by decide) (by decide) (by simp) ?_
  rw [nar_char hx_x.1 (le255 hx_x.2)]
  intro h324 W325 V_b320'
  replace E_b316 := E_b316.wr W325
  replace U_b316 := own_unt_wr W325 U_b316
  replace F_b316_coder := F_b316_coder.other W325 (Or.inl o_b316_b320)
  replace F_b316_value := F_b316_value.other W325 (Or.inl o_b316_b320)
  replace E_b320 := E_b320.wr W325
  replace V_b320 : Arv Z h324 b320 q323 .char (2 : Int32) [(.int x), (.int (0 : Int32))] (.int (0 : Int32)) := V_b320'
  change Go _ _ _ _ _ _ _ _ _ _ _ _ _ _ [b320, b316] h324 2 6 51 #[.val (.int x), .val (.int y), .val (.int z), .val (.int (2 : Int32))] [(.ref b320), (.ref b316), (.ref b316)]
  refine Go.dup (pc' := 52) d_method_3_51 rfl rfl ?_
  refine Go.iconst (pc' := 53) d_method_3_52 rfl ic_1 ?_
  refine Go.iload_n (pc' := 54) d_method_3_53 rfl rfl ?_
  refine Go.castoreV (pc' := 55) (i := 1) d_method_3_54 rfl (List.mem_of_getElem? (i := 0) rfl) V_b320 (by decide) (by decide) (by simp) ?_
  rw [nar_char hx_y.1 (le255 hx_y.2)]
  intro h326 W327 V_b320'
  replace E_b316 := E_b316.wr W327
  replace U_b316 := own_unt_wr W327 U_b316
  replace F_b316_coder := F_b316_coder.other W327 (Or.inl o_b316_b320)
  replace F_b316_value := F_b316_value.other W327 (Or.inl o_b316_b320)
  replace E_b320 := E_b320.wr W327
  replace V_b320 : Arv Z h326 b320 q323 .char (2 : Int32) [(.int x), (.int y)] (.int (0 : Int32)) := V_b320'
  change Go _ _ _ _ _ _ _ _ _ _ _ _ _ _ [b320, b316] h326 2 6 55 #[.val (.int x), .val (.int y), .val (.int z), .val (.int (2 : Int32))] [(.ref b320), (.ref b316), (.ref b316)]
  replace V_b320 : Arv Z h326 b320 q323 .char (2 : Int32) ([x, y].map Value.int) (.int (0 : Int32)) := V_b320
  refine Go.callI (pc' := 58) (z := N_35) (a := b316) d_method_3_55 rfl rfl (w_8 hw) (w_9 hw) (w_10 hw) (by decide) (argsL := [(.ref b320)]) (rest := [(.ref b316)]) (Pays.of_met (W := 1) (len := 3) (m_str hw hs b316 b320 q323 [x, y] (2 : Int32) h326 E_b316 F_b316_coder F_b316_value V_b320 (show (2 : Int32).toNatClampNeg = 2 from by decide) ((own_cons (P := fun x => ¬ x < 0 ∧ ¬ 255 < x) hx_x (own_one (P := fun x => ¬ x < 0 ∧ ¬ 255 < x) hx_y))) (List.cons_ne_nil _ _) (by decide) (Ne.symm o_b316_b320)) (w_10 hw) (w_6 hw) (by decide) (by decide)) rfl rfl (lenOf pd_26 rfl) rfl (Nat.le_of_eq rfl) (memS (List.mem_of_getElem? (i := 1) rfl) mem0) (by decide) (by decide) ?_
  rintro _ h330 _ K331 le332 ⟨b328, q329, rfl, rfl, p333, p334, p335, p336, p337⟩
  have o_b316_b328 : b316 ≠ b328 := Nat.ne_of_lt (Nat.lt_of_lt_of_le E_b316.lt p337)
  have o_b320_b328 : b320 ≠ b328 := Nat.ne_of_lt (Nat.lt_of_lt_of_le E_b320.lt p337)
  have ge_b328 := Nat.le_trans le332 p337
  replace E_b316 := E_b316.keep K331
  replace E_b320 := E_b320.keep K331
  replace V_b320 := V_b320.keep K331 (ninS (Ne.symm o_b316_b320) nin0)
  have F_b316_coder := p334
  have F_b316_value := p335
  have V_b328 := p336
  change Go _ _ _ _ _ _ _ _ _ _ _ _ _ _ [b320, b316] h330 3 31 58 #[.val (.int x), .val (.int y), .val (.int z), .val (.int (2 : Int32))] [(.ref b316)]
  replace V_b328 : Arv Z h330 b328 q329 .byte (2 : Int32) ([x.toInt8.toInt32, y.toInt8.toInt32].map Value.int) (.int (0 : Int32)) := V_b328
  exact Go.retA d_method_3_58 rfl rfl rfl (by decide) (by decide) [] sn0 ⟨b316, b328, _, rfl, rfl, E_b316, F_b316_coder, F_b316_value, V_b328⟩
abbrev R_m_opt3 : Room := { frames := 4, cells := 3, slots := 32, locals := 66 }
theorem pn_m_opt3 : plainFor (⟨"com/example/slackline/slackline/UsageExceptionUnrecognizedOptionPinLaw", "opt", "(CCCI)Ljava/lang/String;"⟩ : MethodName) = true := by first | (refine plainFor_of_name ?_; simp [plainName, overriddenIn]; done) | decide +kernel
abbrev Q_m_opt3 (Z : State) (x : Int32) (y : Int32) (z : Int32) (h0 : Heap) : Option Value → Heap → List Addr → Prop := fun res h' SN => ∃ (s : Addr) (t : Addr) (kt : ClassId), res = some (.ref s) ∧ SN = [] ∧ Exa Z h' s "java/lang/String" ∧ Fld Z h' s "java/lang/String" "coder" "B" (.int (0 : Int32)) ∧ Fld Z h' s "java/lang/String" "value" "[B" (.ref t) ∧ Arv Z h' t kt .byte (3 : Int32) ([x.toInt8.toInt32, y.toInt8.toInt32, z.toInt8.toInt32].map Value.int) (.int (0 : Int32))
theorem ef_m_opt3 (mid : MethodId) (x : Int32) (y : Int32) (z : Int32) : entryFrame mid #[(.int x), (.int y), (.int z), (.int (3 : Int32))] 4 = mkF mid 0 #[.val (.int x), .val (.int y), .val (.int z), .val (.int (3 : Int32))] [] := by first | (simp [entryFrame, mkF, argsToLocals, Value.category]; done) | rfl
set_option maxRecDepth 65536 in
set_option maxHeartbeats 40000000 in
theorem m_opt3 {l : Launch} {Z : State} {a0 : Array Value} {n0 : Nat} (hw : ∀ d ∈ tables_1, d.before a0 Z = true) (hs : Stat Z) (x : Int32) (y : Int32) (z : Int32) (h0 : Heap) (hx_x : ¬ x < 0 ∧ ¬ 255 < x) (hx_y : ¬ y < 0 ∧ ¬ 255 < y) (hx_z : ¬ z < 0 ∧ ¬ 255 < z) :
    Met l Z EL0 n0 NR0 KN0 N_38 method_3_code 4 (Option.some (Jvm.ClassFile.FieldType.object "java/lang/String")) R_m_opt3 [] #[(.int x), (.int y), (.int z), (.int (3 : Int32))] h0 (Q_m_opt3 Z x y z h0) := by
  refine Met.of_go pn_m_opt3 (fun mid => ef_m_opt3 mid x y z ) ?_
  intro hO hWS
  refine Go.iload_n (pc' := 1) d_method_3_0 rfl rfl ?_
  refine Go.ifY (pc' := 15) d_method_3_1 (by decide) (by decide) ((if0 _ _).trans (feq (by decide : ¬ ((3 : Int32) = (0 : Int32)))).2) ?_
  refine Go.iload_n (pc' := 16) d_method_3_15 rfl rfl ?_
  refine Go.iconst (pc' := 17) d_method_3_16 rfl ic_1 ?_
  refine Go.icmpY (pc' := 35) d_method_3_17 (by decide) (by decide) (feq (by decide : ¬ ((3 : Int32) = (1 : Int32)))).2 ?_
  refine Go.iload_n (pc' := 36) d_method_3_35 rfl rfl ?_
  refine Go.iconst (pc' := 37) d_method_3_36 rfl ic_2 ?_
  refine Go.icmpY (pc' := 59) d_method_3_37 (by decide) (by decide) (feq (by decide : ¬ ((3 : Int32) = (2 : Int32)))).2 ?_
  refine Go.newO (pc' := 62) d_method_3_59 rfl (w_4 hw) (w_5 hw) (w_6 hw) (by decide) (by decide) ?_
  intro h338 b339 g340 ge_b339 x341 E_b339 D_b339 U_b339
  have F_b339_coder : Fld Z h338 b339 "java/lang/String" "coder" "B" (.int (0 : Int32)) := D_b339 (Or.inr (w_31 hw)) (ty := .byte) (by decide)
  have F_b339_value : Fld Z h338 b339 "java/lang/String" "value" "[B" .null := D_b339 (Or.inr (w_33 hw)) (ty := (.array .byte)) (by decide)
  change Go _ _ _ _ _ _ _ _ _ _ _ _ _ _ [b339] h338 1 4 62 #[.val (.int x), .val (.int y), .val (.int z), .val (.int (3 : Int32))] [(.ref b339)]
  refine Go.dup (pc' := 63) d_method_3_62 rfl rfl ?_
  refine Go.iconst (pc' := 64) d_method_3_63 rfl ic_3 ?_
  refine Go.newP (pc' := 66) (cap := 3) (ad := "[C") d_method_3_64 rfl (w_7 hw) (by decide) (by decide) (by decide) (by decide) (by decide) (by decide) ?_
  intro h342 b343 g344 ge_b343 q346 x345 V_b343 E_b343
  have o_b339_b343 : b339 ≠ b343 := Nat.ne_of_lt (Nat.lt_of_lt_of_le E_b339.lt (Nat.le_of_eq g344))
  replace E_b339 := E_b339.ext x345
  replace U_b339 := unt_ext x345 U_b339
  replace F_b339_coder := F_b339_coder.ext x345
  replace F_b339_value := F_b339_value.ext x345
  replace V_b343 : Arv Z h342 b343 q346 .char (3 : Int32) [(.int (0 : Int32)), (.int (0 : Int32)), (.int (0 : Int32))] (.int (0 : Int32)) := V_b343.pad (pad_rep [] _ 3)
  change Go _ _ _ _ _ _ _ _ _ _ _ _ _ _ [b343, b339] h342 2 7 66 #[.val (.int x), .val (.int y), .val (.int z), .val (.int (3 : Int32))] [(.ref b343), (.ref b339), (.ref b339)]
  refine Go.dup (pc' := 67) d_method_3_66 rfl rfl ?_
  refine Go.iconst (pc' := 68) d_method_3_67 rfl ic_0 ?_
  refine Go.iload_n (pc' := 69) d_method_3_68 rfl rfl ?_
  refine Go.castoreV (pc' := 70) (i := 0) d_method_3_69 rfl (List.mem_of_getElem? (i := 0) rfl) V_b343 (by decide) (by decide) (by simp) ?_
  rw [nar_char hx_x.1 (le255 hx_x.2)]
  intro h347 W348 V_b343'
  replace E_b339 := E_b339.wr W348
  replace U_b339 := own_unt_wr W348 U_b339
  replace F_b339_coder := F_b339_coder.other W348 (Or.inl o_b339_b343)
  replace F_b339_value := F_b339_value.other W348 (Or.inl o_b339_b343)
  replace E_b343 := E_b343.wr W348
  replace V_b343 : Arv Z h347 b343 q346 .char (3 : Int32) [(.int x), (.int (0 : Int32)), (.int (0 : Int32))] (.int (0 : Int32)) := V_b343'
  change Go _ _ _ _ _ _ _ _ _ _ _ _ _ _ [b343, b339] h347 2 7 70 #[.val (.int x), .val (.int y), .val (.int z), .val (.int (3 : Int32))] [(.ref b343), (.ref b339), (.ref b339)]
  refine Go.dup (pc' := 71) d_method_3_70 rfl rfl ?_
  refine Go.iconst (pc' := 72) d_method_3_71 rfl ic_1 ?_
  refine Go.iload_n (pc' := 73) d_method_3_72 rfl rfl ?_
  refine Go.castoreV (pc' := 74) (i := 1) d_method_3_73 rfl (List.mem_of_getElem? (i := 0) rfl) V_b343 (by decide) (by decide) (by simp) ?_
  rw [nar_char hx_y.1 (le255 hx_y.2)]
  intro h349 W350 V_b343'
  replace E_b339 := E_b339.wr W350
  replace U_b339 := own_unt_wr W350 U_b339
  replace F_b339_coder := F_b339_coder.other W350 (Or.inl o_b339_b343)
  replace F_b339_value := F_b339_value.other W350 (Or.inl o_b339_b343)
  replace E_b343 := E_b343.wr W350
  replace V_b343 : Arv Z h349 b343 q346 .char (3 : Int32) [(.int x), (.int y), (.int (0 : Int32))] (.int (0 : Int32)) := V_b343'
  change Go _ _ _ _ _ _ _ _ _ _ _ _ _ _ [b343, b339] h349 2 7 74 #[.val (.int x), .val (.int y), .val (.int z), .val (.int (3 : Int32))] [(.ref b343), (.ref b339), (.ref b339)]
  refine Go.dup (pc' := 75) d_method_3_74 rfl rfl ?_
  refine Go.iconst (pc' := 76) d_method_3_75 rfl ic_2 ?_
  refine Go.iload_n (pc' := 77) d_method_3_76 rfl rfl ?_
  refine Go.castoreV (pc' := 78) (i := 2) d_method_3_77 rfl (List.mem_of_getElem? (i := 0) rfl) V_b343 (by decide) (by decide) (by simp) ?_
  rw [nar_char hx_z.1 (le255 hx_z.2)]
  intro h351 W352 V_b343'
  replace E_b339 := E_b339.wr W352
  replace U_b339 := own_unt_wr W352 U_b339
  replace F_b339_coder := F_b339_coder.other W352 (Or.inl o_b339_b343)
  replace F_b339_value := F_b339_value.other W352 (Or.inl o_b339_b343)
  replace E_b343 := E_b343.wr W352
  replace V_b343 : Arv Z h351 b343 q346 .char (3 : Int32) [(.int x), (.int y), (.int z)] (.int (0 : Int32)) := V_b343'
  change Go _ _ _ _ _ _ _ _ _ _ _ _ _ _ [b343, b339] h351 2 7 78 #[.val (.int x), .val (.int y), .val (.int z), .val (.int (3 : Int32))] [(.ref b343), (.ref b339), (.ref b339)]
  replace V_b343 : Arv Z h351 b343 q346 .char (3 : Int32) ([x, y, z].map Value.int) (.int (0 : Int32)) := V_b343
  refine Go.callI (pc' := 81) (z := N_35) (a := b339) d_method_3_78 rfl rfl (w_8 hw) (w_9 hw) (w_10 hw) (by decide) (argsL := [(.ref b343)]) (rest := [(.ref b339)]) (Pays.of_met (W := 1) (len := 3) (m_str hw hs b339 b343 q346 [x, y, z] (3 : Int32) h351 E_b339 F_b339_coder F_b339_value V_b343 (show (3 : Int32).toNatClampNeg = 3 from by decide) ((own_cons (P := fun x => ¬ x < 0 ∧ ¬ 255 < x) hx_x (own_cons (P := fun x => ¬ x < 0 ∧ ¬ 255 < x) hx_y (own_one (P := fun x => ¬ x < 0 ∧ ¬ 255 < x) hx_z)))) (List.cons_ne_nil _ _) (by decide) (Ne.symm o_b339_b343)) (w_10 hw) (w_6 hw) (by decide) (by decide)) rfl rfl (lenOf pd_26 rfl) rfl (Nat.le_of_eq rfl) (memS (List.mem_of_getElem? (i := 1) rfl) mem0) (by decide) (by decide) ?_
  rintro _ h355 _ K356 le357 ⟨b353, q354, rfl, rfl, p358, p359, p360, p361, p362⟩
  have o_b339_b353 : b339 ≠ b353 := Nat.ne_of_lt (Nat.lt_of_lt_of_le E_b339.lt p362)
  have o_b343_b353 : b343 ≠ b353 := Nat.ne_of_lt (Nat.lt_of_lt_of_le E_b343.lt p362)
  have ge_b353 := Nat.le_trans le357 p362
  replace E_b339 := E_b339.keep K356
  replace E_b343 := E_b343.keep K356
  replace V_b343 := V_b343.keep K356 (ninS (Ne.symm o_b339_b343) nin0)
  have F_b339_coder := p359
  have F_b339_value := p360
  have V_b353 := p361
  change Go _ _ _ _ _ _ _ _ _ _ _ _ _ _ [b343, b339] h355 3 32 81 #[.val (.int x), .val (.int y), .val (.int z), .val (.int (3 : Int32))] [(.ref b339)]
  replace V_b353 : Arv Z h355 b353 q354 .byte (3 : Int32) ([x.toInt8.toInt32, y.toInt8.toInt32, z.toInt8.toInt32].map Value.int) (.int (0 : Int32)) := V_b353
  exact Go.retA d_method_3_81 rfl rfl rfl (by decide) (by decide) [] sn0 ⟨b339, b353, _, rfl, rfl, E_b339, F_b339_coder, F_b339_value, V_b353⟩
abbrev R_m_expected0 : Room := { frames := 4, cells := 3, slots := 51, locals := 66 }
theorem pn_m_expected0 : plainFor (⟨"com/example/slackline/slackline/UsageExceptionUnrecognizedOptionPinLaw", "expected", "(CCCI)Ljava/lang/String;"⟩ : MethodName) = true := by first | (refine plainFor_of_name ?_; simp [plainName, overriddenIn]; done) | decide +kernel
abbrev Q_m_expected0 (Z : State) (x : Int32) (y : Int32) (z : Int32) (h0 : Heap) : Option Value → Heap → List Addr → Prop := fun res h' SN => ∃ (s : Addr) (t : Addr) (kt : ClassId), res = some (.ref s) ∧ SN = [] ∧ Exa Z h' s "java/lang/String" ∧ Fld Z h' s "java/lang/String" "coder" "B" (.int (0 : Int32)) ∧ Fld Z h' s "java/lang/String" "value" "[B" (.ref t) ∧ Arv Z h' t kt .byte (22 : Int32) ([(117 : Int32), (110 : Int32), (114 : Int32), (101 : Int32), (99 : Int32), (111 : Int32), (103 : Int32), (110 : Int32), (105 : Int32), (122 : Int32), (101 : Int32), (100 : Int32), (32 : Int32), (111 : Int32), (112 : Int32), (116 : Int32), (105 : Int32), (111 : Int32), (110 : Int32), (32 : Int32), (39 : Int32), (39 : Int32)].map Value.int) (.int (0 : Int32))
theorem ef_m_expected0 (mid : MethodId) (x : Int32) (y : Int32) (z : Int32) : entryFrame mid #[(.int x), (.int y), (.int z), (.int (0 : Int32))] 4 = mkF mid 0 #[.val (.int x), .val (.int y), .val (.int z), .val (.int (0 : Int32))] [] := by first | (simp [entryFrame, mkF, argsToLocals, Value.category]; done) | rfl
set_option maxRecDepth 65536 in
set_option maxHeartbeats 40000000 in
theorem m_expected0 {l : Launch} {Z : State} {a0 : Array Value} {n0 : Nat} (hw : ∀ d ∈ tables_1, d.before a0 Z = true) (hs : Stat Z) (x : Int32) (y : Int32) (z : Int32) (h0 : Heap) (hx_x : ¬ x < 0 ∧ ¬ 255 < x) (hx_y : ¬ y < 0 ∧ ¬ 255 < y) (hx_z : ¬ z < 0 ∧ ¬ 255 < z) :
    Met l Z EL0 n0 NR0 KN0 N_39 method_4_code 4 (Option.some (Jvm.ClassFile.FieldType.object "java/lang/String")) R_m_expected0 [] #[(.int x), (.int y), (.int z), (.int (0 : Int32))] h0 (Q_m_expected0 Z x y z h0) := by
  refine Met.of_go pn_m_expected0 (fun mid => ef_m_expected0 mid x y z ) ?_
  intro hO hWS
  refine Go.iload_n (pc' := 1) d_method_4_0 rfl rfl ?_
  refine Go.ifN (pc' := 4) d_method_4_1 rfl ((if0 _ _).trans (teq (rfl : (0 : Int32) = (0 : Int32))).2) ?_
  refine Go.newO (pc' := 7) d_method_4_4 rfl (w_4 hw) (w_5 hw) (w_6 hw) (by decide) (by decide) ?_
  intro h363 b364 g365 ge_b364 x366 E_b364 D_b364 U_b364
  have F_b364_coder : Fld Z h363 b364 "java/lang/String" "coder" "B" (.int (0 : Int32)) := D_b364 (Or.inr (w_31 hw)) (ty := .byte) (by decide)
  have F_b364_value : Fld Z h363 b364 "java/lang/String" "value" "[B" .null := D_b364 (Or.inr (w_33 hw)) (ty := (.array .byte)) (by decide)
  change Go _ _ _ _ _ _ _ _ _ _ _ _ _ _ [b364] h363 1 4 7 #[.val (.int x), .val (.int y), .val (.int z), .val (.int (0 : Int32))] [(.ref b364)]
  refine Go.dup (pc' := 8) d_method_4_7 rfl rfl ?_
  refine Go.bipush (pc' := 10) d_method_4_8 rfl icb_22 ?_
  refine Go.newP (pc' := 12) (cap := 22) (ad := "[C") d_method_4_10 rfl (w_7 hw) (by decide) (by decide) (by decide) (by decide) (by decide) (by decide) ?_
  intro h367 b368 g369 ge_b368 q371 x370 V_b368 E_b368
  have o_b364_b368 : b364 ≠ b368 := Nat.ne_of_lt (Nat.lt_of_lt_of_le E_b364.lt (Nat.le_of_eq g369))
  replace E_b364 := E_b364.ext x370
  replace U_b364 := unt_ext x370 U_b364
  replace F_b364_coder := F_b364_coder.ext x370
  replace F_b364_value := F_b364_value.ext x370
  replace V_b368 : Arv Z h367 b368 q371 .char (22 : Int32) [(.int (0 : Int32)), (.int (0 : Int32)), (.int (0 : Int32)), (.int (0 : Int32)), (.int (0 : Int32)), (.int (0 : Int32)), (.int (0 : Int32)), (.int (0 : Int32)), (.int (0 : Int32)), (.int (0 : Int32)), (.int (0 : Int32)), (.int (0 : Int32)), (.int (0 : Int32)), (.int (0 : Int32)), (.int (0 : Int32)), (.int (0 : Int32)), (.int (0 : Int32)), (.int (0 : Int32)), (.int (0 : Int32)), (.int (0 : Int32)), (.int (0 : Int32)), (.int (0 : Int32))] (.int (0 : Int32)) := V_b368.pad (pad_rep [] _ 22)
  change Go _ _ _ _ _ _ _ _ _ _ _ _ _ _ [b368, b364] h367 2 26 12 #[.val (.int x), .val (.int y), .val (.int z), .val (.int (0 : Int32))] [(.ref b368), (.ref b364), (.ref b364)]
  refine Go.dup (pc' := 13) d_method_4_12 rfl rfl ?_
  refine Go.iconst (pc' := 14) d_method_4_13 rfl ic_0 ?_
  refine Go.bipush (pc' := 16) d_method_4_14 rfl icb_117 ?_
  refine Go.castoreV (pc' := 17) (i := 0) d_method_4_16 rfl (List.mem_of_getElem? (i := 0) rfl) V_b368 (by decide) (by decide) (by simp) ?_
  rw [show nar .char (117 : Int32) = (117 : Int32) from by decide]
  intro h372 W373 V_b368'
  replace E_b364 := E_b364.wr W373
  replace U_b364 := own_unt_wr W373 U_b364
  replace F_b364_coder := F_b364_coder.other W373 (Or.inl o_b364_b368)
  replace F_b364_value := F_b364_value.other W373 (Or.inl o_b364_b368)
  replace E_b368 := E_b368.wr W373
  replace V_b368 : Arv Z h372 b368 q371 .char (22 : Int32) [(.int (117 : Int32)), (.int (0 : Int32)), (.int (0 : Int32)), (.int (0 : Int32)), (.int (0 : Int32)), (.int (0 : Int32)), (.int (0 : Int32)), (.int (0 : Int32)), (.int (0 : Int32)), (.int (0 : Int32)), (.int (0 : Int32)), (.int (0 : Int32)), (.int (0 : Int32)), (.int (0 : Int32)), (.int (0 : Int32)), (.int (0 : Int32)), (.int (0 : Int32)), (.int (0 : Int32)), (.int (0 : Int32)), (.int (0 : Int32)), (.int (0 : Int32)), (.int (0 : Int32))] (.int (0 : Int32)) := V_b368'
  change Go _ _ _ _ _ _ _ _ _ _ _ _ _ _ [b368, b364] h372 2 26 17 #[.val (.int x), .val (.int y), .val (.int z), .val (.int (0 : Int32))] [(.ref b368), (.ref b364), (.ref b364)]
  refine Go.dup (pc' := 18) d_method_4_17 rfl rfl ?_
  refine Go.iconst (pc' := 19) d_method_4_18 rfl ic_1 ?_
  refine Go.bipush (pc' := 21) d_method_4_19 rfl icb_110 ?_
  refine Go.castoreV (pc' := 22) (i := 1) d_method_4_21 rfl (List.mem_of_getElem? (i := 0) rfl) V_b368 (by decide) (by decide) (by simp) ?_
  rw [show nar .char (110 : Int32) = (110 : Int32) from by decide]
  intro h374 W375 V_b368'
  replace E_b364 := E_b364.wr W375
  replace U_b364 := own_unt_wr W375 U_b364
  replace F_b364_coder := F_b364_coder.other W375 (Or.inl o_b364_b368)
  replace F_b364_value := F_b364_value.other W375 (Or.inl o_b364_b368)
  replace E_b368 := E_b368.wr W375
  replace V_b368 : Arv Z h374 b368 q371 .char (22 : Int32) [(.int (117 : Int32)), (.int (110 : Int32)), (.int (0 : Int32)), (.int (0 : Int32)), (.int (0 : Int32)), (.int (0 : Int32)), (.int (0 : Int32)), (.int (0 : Int32)), (.int (0 : Int32)), (.int (0 : Int32)), (.int (0 : Int32)), (.int (0 : Int32)), (.int (0 : Int32)), (.int (0 : Int32)), (.int (0 : Int32)), (.int (0 : Int32)), (.int (0 : Int32)), (.int (0 : Int32)), (.int (0 : Int32)), (.int (0 : Int32)), (.int (0 : Int32)), (.int (0 : Int32))] (.int (0 : Int32)) := V_b368'
  change Go _ _ _ _ _ _ _ _ _ _ _ _ _ _ [b368, b364] h374 2 26 22 #[.val (.int x), .val (.int y), .val (.int z), .val (.int (0 : Int32))] [(.ref b368), (.ref b364), (.ref b364)]
  refine Go.dup (pc' := 23) d_method_4_22 rfl rfl ?_
  refine Go.iconst (pc' := 24) d_method_4_23 rfl ic_2 ?_
  refine Go.bipush (pc' := 26) d_method_4_24 rfl icb_114 ?_
  refine Go.castoreV (pc' := 27) (i := 2) d_method_4_26 rfl (List.mem_of_getElem? (i := 0) rfl) V_b368 (by decide) (by decide) (by simp) ?_
  rw [show nar .char (114 : Int32) = (114 : Int32) from by decide]
  intro h376 W377 V_b368'
  replace E_b364 := E_b364.wr W377
  replace U_b364 := own_unt_wr W377 U_b364
  replace F_b364_coder := F_b364_coder.other W377 (Or.inl o_b364_b368)
  replace F_b364_value := F_b364_value.other W377 (Or.inl o_b364_b368)
  replace E_b368 := E_b368.wr W377
  replace V_b368 : Arv Z h376 b368 q371 .char (22 : Int32) [(.int (117 : Int32)), (.int (110 : Int32)), (.int (114 : Int32)), (.int (0 : Int32)), (.int (0 : Int32)), (.int (0 : Int32)), (.int (0 : Int32)), (.int (0 : Int32)), (.int (0 : Int32)), (.int (0 : Int32)), (.int (0 : Int32)), (.int (0 : Int32)), (.int (0 : Int32)), (.int (0 : Int32)), (.int (0 : Int32)), (.int (0 : Int32)), (.int (0 : Int32)), (.int (0 : Int32)), (.int (0 : Int32)), (.int (0 : Int32)), (.int (0 : Int32)), (.int (0 : Int32))] (.int (0 : Int32)) := V_b368'
  change Go _ _ _ _ _ _ _ _ _ _ _ _ _ _ [b368, b364] h376 2 26 27 #[.val (.int x), .val (.int y), .val (.int z), .val (.int (0 : Int32))] [(.ref b368), (.ref b364), (.ref b364)]
  refine Go.dup (pc' := 28) d_method_4_27 rfl rfl ?_
  refine Go.iconst (pc' := 29) d_method_4_28 rfl ic_3 ?_
  refine Go.bipush (pc' := 31) d_method_4_29 rfl icb_101 ?_
  refine Go.castoreV (pc' := 32) (i := 3) d_method_4_31 rfl (List.mem_of_getElem? (i := 0) rfl) V_b368 (by decide) (by decide) (by simp) ?_
  rw [show nar .char (101 : Int32) = (101 : Int32) from by decide]
  intro h378 W379 V_b368'
  replace E_b364 := E_b364.wr W379
  replace U_b364 := own_unt_wr W379 U_b364
  replace F_b364_coder := F_b364_coder.other W379 (Or.inl o_b364_b368)
  replace F_b364_value := F_b364_value.other W379 (Or.inl o_b364_b368)
  replace E_b368 := E_b368.wr W379
  replace V_b368 : Arv Z h378 b368 q371 .char (22 : Int32) [(.int (117 : Int32)), (.int (110 : Int32)), (.int (114 : Int32)), (.int (101 : Int32)), (.int (0 : Int32)), (.int (0 : Int32)), (.int (0 : Int32)), (.int (0 : Int32)), (.int (0 : Int32)), (.int (0 : Int32)), (.int (0 : Int32)), (.int (0 : Int32)), (.int (0 : Int32)), (.int (0 : Int32)), (.int (0 : Int32)), (.int (0 : Int32)), (.int (0 : Int32)), (.int (0 : Int32)), (.int (0 : Int32)), (.int (0 : Int32)), (.int (0 : Int32)), (.int (0 : Int32))] (.int (0 : Int32)) := V_b368'
  change Go _ _ _ _ _ _ _ _ _ _ _ _ _ _ [b368, b364] h378 2 26 32 #[.val (.int x), .val (.int y), .val (.int z), .val (.int (0 : Int32))] [(.ref b368), (.ref b364), (.ref b364)]
  refine Go.dup (pc' := 33) d_method_4_32 rfl rfl ?_
  refine Go.iconst (pc' := 34) d_method_4_33 rfl ic_4 ?_
  refine Go.bipush (pc' := 36) d_method_4_34 rfl icb_99 ?_
  refine Go.castoreV (pc' := 37) (i := 4) d_method_4_36 rfl (List.mem_of_getElem? (i := 0) rfl) V_b368 (by decide) (by decide) (by simp) ?_
  rw [show nar .char (99 : Int32) = (99 : Int32) from by decide]
  intro h380 W381 V_b368'
  replace E_b364 := E_b364.wr W381
  replace U_b364 := own_unt_wr W381 U_b364
  replace F_b364_coder := F_b364_coder.other W381 (Or.inl o_b364_b368)
  replace F_b364_value := F_b364_value.other W381 (Or.inl o_b364_b368)
  replace E_b368 := E_b368.wr W381
  replace V_b368 : Arv Z h380 b368 q371 .char (22 : Int32) [(.int (117 : Int32)), (.int (110 : Int32)), (.int (114 : Int32)), (.int (101 : Int32)), (.int (99 : Int32)), (.int (0 : Int32)), (.int (0 : Int32)), (.int (0 : Int32)), (.int (0 : Int32)), (.int (0 : Int32)), (.int (0 : Int32)), (.int (0 : Int32)), (.int (0 : Int32)), (.int (0 : Int32)), (.int (0 : Int32)), (.int (0 : Int32)), (.int (0 : Int32)), (.int (0 : Int32)), (.int (0 : Int32)), (.int (0 : Int32)), (.int (0 : Int32)), (.int (0 : Int32))] (.int (0 : Int32)) := V_b368'
  change Go _ _ _ _ _ _ _ _ _ _ _ _ _ _ [b368, b364] h380 2 26 37 #[.val (.int x), .val (.int y), .val (.int z), .val (.int (0 : Int32))] [(.ref b368), (.ref b364), (.ref b364)]
  refine Go.dup (pc' := 38) d_method_4_37 rfl rfl ?_
  refine Go.iconst (pc' := 39) d_method_4_38 rfl ic_5 ?_
  refine Go.bipush (pc' := 41) d_method_4_39 rfl icb_111 ?_
  refine Go.castoreV (pc' := 42) (i := 5) d_method_4_41 rfl (List.mem_of_getElem? (i := 0) rfl) V_b368 (by decide) (by decide) (by simp) ?_
  rw [show nar .char (111 : Int32) = (111 : Int32) from by decide]
  intro h382 W383 V_b368'
  replace E_b364 := E_b364.wr W383
  replace U_b364 := own_unt_wr W383 U_b364
  replace F_b364_coder := F_b364_coder.other W383 (Or.inl o_b364_b368)
  replace F_b364_value := F_b364_value.other W383 (Or.inl o_b364_b368)
  replace E_b368 := E_b368.wr W383
  replace V_b368 : Arv Z h382 b368 q371 .char (22 : Int32) [(.int (117 : Int32)), (.int (110 : Int32)), (.int (114 : Int32)), (.int (101 : Int32)), (.int (99 : Int32)), (.int (111 : Int32)), (.int (0 : Int32)), (.int (0 : Int32)), (.int (0 : Int32)), (.int (0 : Int32)), (.int (0 : Int32)), (.int (0 : Int32)), (.int (0 : Int32)), (.int (0 : Int32)), (.int (0 : Int32)), (.int (0 : Int32)), (.int (0 : Int32)), (.int (0 : Int32)), (.int (0 : Int32)), (.int (0 : Int32)), (.int (0 : Int32)), (.int (0 : Int32))] (.int (0 : Int32)) := V_b368'
  change Go _ _ _ _ _ _ _ _ _ _ _ _ _ _ [b368, b364] h382 2 26 42 #[.val (.int x), .val (.int y), .val (.int z), .val (.int (0 : Int32))] [(.ref b368), (.ref b364), (.ref b364)]
  refine Go.dup (pc' := 43) d_method_4_42 rfl rfl ?_
  refine Go.bipush (pc' := 45) d_method_4_43 rfl icb_6 ?_
  refine Go.bipush (pc' := 47) d_method_4_45 rfl icb_103 ?_
  refine Go.castoreV (pc' := 48) (i := 6) d_method_4_47 rfl (List.mem_of_getElem? (i := 0) rfl) V_b368 (by decide) (by decide) (by simp) ?_
  rw [show nar .char (103 : Int32) = (103 : Int32) from by decide]
  intro h384 W385 V_b368'
  replace E_b364 := E_b364.wr W385
  replace U_b364 := own_unt_wr W385 U_b364
  replace F_b364_coder := F_b364_coder.other W385 (Or.inl o_b364_b368)
  replace F_b364_value := F_b364_value.other W385 (Or.inl o_b364_b368)
  replace E_b368 := E_b368.wr W385
  replace V_b368 : Arv Z h384 b368 q371 .char (22 : Int32) [(.int (117 : Int32)), (.int (110 : Int32)), (.int (114 : Int32)), (.int (101 : Int32)), (.int (99 : Int32)), (.int (111 : Int32)), (.int (103 : Int32)), (.int (0 : Int32)), (.int (0 : Int32)), (.int (0 : Int32)), (.int (0 : Int32)), (.int (0 : Int32)), (.int (0 : Int32)), (.int (0 : Int32)), (.int (0 : Int32)), (.int (0 : Int32)), (.int (0 : Int32)), (.int (0 : Int32)), (.int (0 : Int32)), (.int (0 : Int32)), (.int (0 : Int32)), (.int (0 : Int32))] (.int (0 : Int32)) := V_b368'
  change Go _ _ _ _ _ _ _ _ _ _ _ _ _ _ [b368, b364] h384 2 26 48 #[.val (.int x), .val (.int y), .val (.int z), .val (.int (0 : Int32))] [(.ref b368), (.ref b364), (.ref b364)]
  refine Go.dup (pc' := 49) d_method_4_48 rfl rfl ?_
  refine Go.bipush (pc' := 51) d_method_4_49 rfl icb_7 ?_
  refine Go.bipush (pc' := 53) d_method_4_51 rfl icb_110 ?_
  refine Go.castoreV (pc' := 54) (i := 7) d_method_4_53 rfl (List.mem_of_getElem? (i := 0) rfl) V_b368 (by decide) (by decide) (by simp) ?_
  rw [show nar .char (110 : Int32) = (110 : Int32) from by decide]
  intro h386 W387 V_b368'
  replace E_b364 := E_b364.wr W387
  replace U_b364 := own_unt_wr W387 U_b364
  replace F_b364_coder := F_b364_coder.other W387 (Or.inl o_b364_b368)
  replace F_b364_value := F_b364_value.other W387 (Or.inl o_b364_b368)
  replace E_b368 := E_b368.wr W387
  replace V_b368 : Arv Z h386 b368 q371 .char (22 : Int32) [(.int (117 : Int32)), (.int (110 : Int32)), (.int (114 : Int32)), (.int (101 : Int32)), (.int (99 : Int32)), (.int (111 : Int32)), (.int (103 : Int32)), (.int (110 : Int32)), (.int (0 : Int32)), (.int (0 : Int32)), (.int (0 : Int32)), (.int (0 : Int32)), (.int (0 : Int32)), (.int (0 : Int32)), (.int (0 : Int32)), (.int (0 : Int32)), (.int (0 : Int32)), (.int (0 : Int32)), (.int (0 : Int32)), (.int (0 : Int32)), (.int (0 : Int32)), (.int (0 : Int32))] (.int (0 : Int32)) := V_b368'
  change Go _ _ _ _ _ _ _ _ _ _ _ _ _ _ [b368, b364] h386 2 26 54 #[.val (.int x), .val (.int y), .val (.int z), .val (.int (0 : Int32))] [(.ref b368), (.ref b364), (.ref b364)]
  refine Go.dup (pc' := 55) d_method_4_54 rfl rfl ?_
  refine Go.bipush (pc' := 57) d_method_4_55 rfl icb_8 ?_
  refine Go.bipush (pc' := 59) d_method_4_57 rfl icb_105 ?_
  refine Go.castoreV (pc' := 60) (i := 8) d_method_4_59 rfl (List.mem_of_getElem? (i := 0) rfl) V_b368 (by decide) (by decide) (by simp) ?_
  rw [show nar .char (105 : Int32) = (105 : Int32) from by decide]
  intro h388 W389 V_b368'
  replace E_b364 := E_b364.wr W389
  replace U_b364 := own_unt_wr W389 U_b364
  replace F_b364_coder := F_b364_coder.other W389 (Or.inl o_b364_b368)
  replace F_b364_value := F_b364_value.other W389 (Or.inl o_b364_b368)
  replace E_b368 := E_b368.wr W389
  replace V_b368 : Arv Z h388 b368 q371 .char (22 : Int32) [(.int (117 : Int32)), (.int (110 : Int32)), (.int (114 : Int32)), (.int (101 : Int32)), (.int (99 : Int32)), (.int (111 : Int32)), (.int (103 : Int32)), (.int (110 : Int32)), (.int (105 : Int32)), (.int (0 : Int32)), (.int (0 : Int32)), (.int (0 : Int32)), (.int (0 : Int32)), (.int (0 : Int32)), (.int (0 : Int32)), (.int (0 : Int32)), (.int (0 : Int32)), (.int (0 : Int32)), (.int (0 : Int32)), (.int (0 : Int32)), (.int (0 : Int32)), (.int (0 : Int32))] (.int (0 : Int32)) := V_b368'
  change Go _ _ _ _ _ _ _ _ _ _ _ _ _ _ [b368, b364] h388 2 26 60 #[.val (.int x), .val (.int y), .val (.int z), .val (.int (0 : Int32))] [(.ref b368), (.ref b364), (.ref b364)]
  refine Go.dup (pc' := 61) d_method_4_60 rfl rfl ?_
  refine Go.bipush (pc' := 63) d_method_4_61 rfl icb_9 ?_
  refine Go.bipush (pc' := 65) d_method_4_63 rfl icb_122 ?_
  refine Go.castoreV (pc' := 66) (i := 9) d_method_4_65 rfl (List.mem_of_getElem? (i := 0) rfl) V_b368 (by decide) (by decide) (by simp) ?_
  rw [show nar .char (122 : Int32) = (122 : Int32) from by decide]
  intro h390 W391 V_b368'
  replace E_b364 := E_b364.wr W391
  replace U_b364 := own_unt_wr W391 U_b364
  replace F_b364_coder := F_b364_coder.other W391 (Or.inl o_b364_b368)
  replace F_b364_value := F_b364_value.other W391 (Or.inl o_b364_b368)
  replace E_b368 := E_b368.wr W391
  replace V_b368 : Arv Z h390 b368 q371 .char (22 : Int32) [(.int (117 : Int32)), (.int (110 : Int32)), (.int (114 : Int32)), (.int (101 : Int32)), (.int (99 : Int32)), (.int (111 : Int32)), (.int (103 : Int32)), (.int (110 : Int32)), (.int (105 : Int32)), (.int (122 : Int32)), (.int (0 : Int32)), (.int (0 : Int32)), (.int (0 : Int32)), (.int (0 : Int32)), (.int (0 : Int32)), (.int (0 : Int32)), (.int (0 : Int32)), (.int (0 : Int32)), (.int (0 : Int32)), (.int (0 : Int32)), (.int (0 : Int32)), (.int (0 : Int32))] (.int (0 : Int32)) := V_b368'
  change Go _ _ _ _ _ _ _ _ _ _ _ _ _ _ [b368, b364] h390 2 26 66 #[.val (.int x), .val (.int y), .val (.int z), .val (.int (0 : Int32))] [(.ref b368), (.ref b364), (.ref b364)]
  refine Go.dup (pc' := 67) d_method_4_66 rfl rfl ?_
  refine Go.bipush (pc' := 69) d_method_4_67 rfl icb_10 ?_
  refine Go.bipush (pc' := 71) d_method_4_69 rfl icb_101 ?_
  refine Go.castoreV (pc' := 72) (i := 10) d_method_4_71 rfl (List.mem_of_getElem? (i := 0) rfl) V_b368 (by decide) (by decide) (by simp) ?_
  rw [show nar .char (101 : Int32) = (101 : Int32) from by decide]
  intro h392 W393 V_b368'
  replace E_b364 := E_b364.wr W393
  replace U_b364 := own_unt_wr W393 U_b364
  replace F_b364_coder := F_b364_coder.other W393 (Or.inl o_b364_b368)
  replace F_b364_value := F_b364_value.other W393 (Or.inl o_b364_b368)
  replace E_b368 := E_b368.wr W393
  replace V_b368 : Arv Z h392 b368 q371 .char (22 : Int32) [(.int (117 : Int32)), (.int (110 : Int32)), (.int (114 : Int32)), (.int (101 : Int32)), (.int (99 : Int32)), (.int (111 : Int32)), (.int (103 : Int32)), (.int (110 : Int32)), (.int (105 : Int32)), (.int (122 : Int32)), (.int (101 : Int32)), (.int (0 : Int32)), (.int (0 : Int32)), (.int (0 : Int32)), (.int (0 : Int32)), (.int (0 : Int32)), (.int (0 : Int32)), (.int (0 : Int32)), (.int (0 : Int32)), (.int (0 : Int32)), (.int (0 : Int32)), (.int (0 : Int32))] (.int (0 : Int32)) := V_b368'
  change Go _ _ _ _ _ _ _ _ _ _ _ _ _ _ [b368, b364] h392 2 26 72 #[.val (.int x), .val (.int y), .val (.int z), .val (.int (0 : Int32))] [(.ref b368), (.ref b364), (.ref b364)]
  refine Go.dup (pc' := 73) d_method_4_72 rfl rfl ?_
  refine Go.bipush (pc' := 75) d_method_4_73 rfl icb_11 ?_
  refine Go.bipush (pc' := 77) d_method_4_75 rfl icb_100 ?_
  refine Go.castoreV (pc' := 78) (i := 11) d_method_4_77 rfl (List.mem_of_getElem? (i := 0) rfl) V_b368 (by decide) (by decide) (by simp) ?_
  rw [show nar .char (100 : Int32) = (100 : Int32) from by decide]
  intro h394 W395 V_b368'
  replace E_b364 := E_b364.wr W395
  replace U_b364 := own_unt_wr W395 U_b364
  replace F_b364_coder := F_b364_coder.other W395 (Or.inl o_b364_b368)
  replace F_b364_value := F_b364_value.other W395 (Or.inl o_b364_b368)
  replace E_b368 := E_b368.wr W395
  replace V_b368 : Arv Z h394 b368 q371 .char (22 : Int32) [(.int (117 : Int32)), (.int (110 : Int32)), (.int (114 : Int32)), (.int (101 : Int32)), (.int (99 : Int32)), (.int (111 : Int32)), (.int (103 : Int32)), (.int (110 : Int32)), (.int (105 : Int32)), (.int (122 : Int32)), (.int (101 : Int32)), (.int (100 : Int32)), (.int (0 : Int32)), (.int (0 : Int32)), (.int (0 : Int32)), (.int (0 : Int32)), (.int (0 : Int32)), (.int (0 : Int32)), (.int (0 : Int32)), (.int (0 : Int32)), (.int (0 : Int32)), (.int (0 : Int32))] (.int (0 : Int32)) := V_b368'
  change Go _ _ _ _ _ _ _ _ _ _ _ _ _ _ [b368, b364] h394 2 26 78 #[.val (.int x), .val (.int y), .val (.int z), .val (.int (0 : Int32))] [(.ref b368), (.ref b364), (.ref b364)]
  refine Go.dup (pc' := 79) d_method_4_78 rfl rfl ?_
  refine Go.bipush (pc' := 81) d_method_4_79 rfl icb_12 ?_
  refine Go.bipush (pc' := 83) d_method_4_81 rfl icb_32 ?_
  refine Go.castoreV (pc' := 84) (i := 12) d_method_4_83 rfl (List.mem_of_getElem? (i := 0) rfl) V_b368 (by decide) (by decide) (by simp) ?_
  rw [show nar .char (32 : Int32) = (32 : Int32) from by decide]
  intro h396 W397 V_b368'
  replace E_b364 := E_b364.wr W397
  replace U_b364 := own_unt_wr W397 U_b364
  replace F_b364_coder := F_b364_coder.other W397 (Or.inl o_b364_b368)
  replace F_b364_value := F_b364_value.other W397 (Or.inl o_b364_b368)
  replace E_b368 := E_b368.wr W397
  replace V_b368 : Arv Z h396 b368 q371 .char (22 : Int32) [(.int (117 : Int32)), (.int (110 : Int32)), (.int (114 : Int32)), (.int (101 : Int32)), (.int (99 : Int32)), (.int (111 : Int32)), (.int (103 : Int32)), (.int (110 : Int32)), (.int (105 : Int32)), (.int (122 : Int32)), (.int (101 : Int32)), (.int (100 : Int32)), (.int (32 : Int32)), (.int (0 : Int32)), (.int (0 : Int32)), (.int (0 : Int32)), (.int (0 : Int32)), (.int (0 : Int32)), (.int (0 : Int32)), (.int (0 : Int32)), (.int (0 : Int32)), (.int (0 : Int32))] (.int (0 : Int32)) := V_b368'
  change Go _ _ _ _ _ _ _ _ _ _ _ _ _ _ [b368, b364] h396 2 26 84 #[.val (.int x), .val (.int y), .val (.int z), .val (.int (0 : Int32))] [(.ref b368), (.ref b364), (.ref b364)]
  refine Go.dup (pc' := 85) d_method_4_84 rfl rfl ?_
  refine Go.bipush (pc' := 87) d_method_4_85 rfl icb_13 ?_
  refine Go.bipush (pc' := 89) d_method_4_87 rfl icb_111 ?_
  refine Go.castoreV (pc' := 90) (i := 13) d_method_4_89 rfl (List.mem_of_getElem? (i := 0) rfl) V_b368 (by decide) (by decide) (by simp) ?_
  rw [show nar .char (111 : Int32) = (111 : Int32) from by decide]
  intro h398 W399 V_b368'
  replace E_b364 := E_b364.wr W399
  replace U_b364 := own_unt_wr W399 U_b364
  replace F_b364_coder := F_b364_coder.other W399 (Or.inl o_b364_b368)
  replace F_b364_value := F_b364_value.other W399 (Or.inl o_b364_b368)
  replace E_b368 := E_b368.wr W399
  replace V_b368 : Arv Z h398 b368 q371 .char (22 : Int32) [(.int (117 : Int32)), (.int (110 : Int32)), (.int (114 : Int32)), (.int (101 : Int32)), (.int (99 : Int32)), (.int (111 : Int32)), (.int (103 : Int32)), (.int (110 : Int32)), (.int (105 : Int32)), (.int (122 : Int32)), (.int (101 : Int32)), (.int (100 : Int32)), (.int (32 : Int32)), (.int (111 : Int32)), (.int (0 : Int32)), (.int (0 : Int32)), (.int (0 : Int32)), (.int (0 : Int32)), (.int (0 : Int32)), (.int (0 : Int32)), (.int (0 : Int32)), (.int (0 : Int32))] (.int (0 : Int32)) := V_b368'
  change Go _ _ _ _ _ _ _ _ _ _ _ _ _ _ [b368, b364] h398 2 26 90 #[.val (.int x), .val (.int y), .val (.int z), .val (.int (0 : Int32))] [(.ref b368), (.ref b364), (.ref b364)]
  refine Go.dup (pc' := 91) d_method_4_90 rfl rfl ?_
  refine Go.bipush (pc' := 93) d_method_4_91 rfl icb_14 ?_
  refine Go.bipush (pc' := 95) d_method_4_93 rfl icb_112 ?_
  refine Go.castoreV (pc' := 96) (i := 14) d_method_4_95 rfl (List.mem_of_getElem? (i := 0) rfl) V_b368 (by decide) (by decide) (by simp) ?_
  rw [show nar .char (112 : Int32) = (112 : Int32) from by decide]
  intro h400 W401 V_b368'
  replace E_b364 := E_b364.wr W401
  replace U_b364 := own_unt_wr W401 U_b364
  replace F_b364_coder := F_b364_coder.other W401 (Or.inl o_b364_b368)
  replace F_b364_value := F_b364_value.other W401 (Or.inl o_b364_b368)
  replace E_b368 := E_b368.wr W401
  replace V_b368 : Arv Z h400 b368 q371 .char (22 : Int32) [(.int (117 : Int32)), (.int (110 : Int32)), (.int (114 : Int32)), (.int (101 : Int32)), (.int (99 : Int32)), (.int (111 : Int32)), (.int (103 : Int32)), (.int (110 : Int32)), (.int (105 : Int32)), (.int (122 : Int32)), (.int (101 : Int32)), (.int (100 : Int32)), (.int (32 : Int32)), (.int (111 : Int32)), (.int (112 : Int32)), (.int (0 : Int32)), (.int (0 : Int32)), (.int (0 : Int32)), (.int (0 : Int32)), (.int (0 : Int32)), (.int (0 : Int32)), (.int (0 : Int32))] (.int (0 : Int32)) := V_b368'
  change Go _ _ _ _ _ _ _ _ _ _ _ _ _ _ [b368, b364] h400 2 26 96 #[.val (.int x), .val (.int y), .val (.int z), .val (.int (0 : Int32))] [(.ref b368), (.ref b364), (.ref b364)]
  refine Go.dup (pc' := 97) d_method_4_96 rfl rfl ?_
  refine Go.bipush (pc' := 99) d_method_4_97 rfl icb_15 ?_
  refine Go.bipush (pc' := 101) d_method_4_99 rfl icb_116 ?_
  refine Go.castoreV (pc' := 102) (i := 15) d_method_4_101 rfl (List.mem_of_getElem? (i := 0) rfl) V_b368 (by decide) (by decide) (by simp) ?_
  rw [show nar .char (116 : Int32) = (116 : Int32) from by decide]
  intro h402 W403 V_b368'
  replace E_b364 := E_b364.wr W403
  replace U_b364 := own_unt_wr W403 U_b364
  replace F_b364_coder := F_b364_coder.other W403 (Or.inl o_b364_b368)
  replace F_b364_value := F_b364_value.other W403 (Or.inl o_b364_b368)
  replace E_b368 := E_b368.wr W403
  replace V_b368 : Arv Z h402 b368 q371 .char (22 : Int32) [(.int (117 : Int32)), (.int (110 : Int32)), (.int (114 : Int32)), (.int (101 : Int32)), (.int (99 : Int32)), (.int (111 : Int32)), (.int (103 : Int32)), (.int (110 : Int32)), (.int (105 : Int32)), (.int (122 : Int32)), (.int (101 : Int32)), (.int (100 : Int32)), (.int (32 : Int32)), (.int (111 : Int32)), (.int (112 : Int32)), (.int (116 : Int32)), (.int (0 : Int32)), (.int (0 : Int32)), (.int (0 : Int32)), (.int (0 : Int32)), (.int (0 : Int32)), (.int (0 : Int32))] (.int (0 : Int32)) := V_b368'
  change Go _ _ _ _ _ _ _ _ _ _ _ _ _ _ [b368, b364] h402 2 26 102 #[.val (.int x), .val (.int y), .val (.int z), .val (.int (0 : Int32))] [(.ref b368), (.ref b364), (.ref b364)]
  refine Go.dup (pc' := 103) d_method_4_102 rfl rfl ?_
  refine Go.bipush (pc' := 105) d_method_4_103 rfl icb_16 ?_
  refine Go.bipush (pc' := 107) d_method_4_105 rfl icb_105 ?_
  refine Go.castoreV (pc' := 108) (i := 16) d_method_4_107 rfl (List.mem_of_getElem? (i := 0) rfl) V_b368 (by decide) (by decide) (by simp) ?_
  rw [show nar .char (105 : Int32) = (105 : Int32) from by decide]
  intro h404 W405 V_b368'
  replace E_b364 := E_b364.wr W405
  replace U_b364 := own_unt_wr W405 U_b364
  replace F_b364_coder := F_b364_coder.other W405 (Or.inl o_b364_b368)
  replace F_b364_value := F_b364_value.other W405 (Or.inl o_b364_b368)
  replace E_b368 := E_b368.wr W405
  replace V_b368 : Arv Z h404 b368 q371 .char (22 : Int32) [(.int (117 : Int32)), (.int (110 : Int32)), (.int (114 : Int32)), (.int (101 : Int32)), (.int (99 : Int32)), (.int (111 : Int32)), (.int (103 : Int32)), (.int (110 : Int32)), (.int (105 : Int32)), (.int (122 : Int32)), (.int (101 : Int32)), (.int (100 : Int32)), (.int (32 : Int32)), (.int (111 : Int32)), (.int (112 : Int32)), (.int (116 : Int32)), (.int (105 : Int32)), (.int (0 : Int32)), (.int (0 : Int32)), (.int (0 : Int32)), (.int (0 : Int32)), (.int (0 : Int32))] (.int (0 : Int32)) := V_b368'
  change Go _ _ _ _ _ _ _ _ _ _ _ _ _ _ [b368, b364] h404 2 26 108 #[.val (.int x), .val (.int y), .val (.int z), .val (.int (0 : Int32))] [(.ref b368), (.ref b364), (.ref b364)]
  refine Go.dup (pc' := 109) d_method_4_108 rfl rfl ?_
  refine Go.bipush (pc' := 111) d_method_4_109 rfl icb_17 ?_
  refine Go.bipush (pc' := 113) d_method_4_111 rfl icb_111 ?_
  refine Go.castoreV (pc' := 114) (i := 17) d_method_4_113 rfl (List.mem_of_getElem? (i := 0) rfl) V_b368 (by decide) (by decide) (by simp) ?_
  rw [show nar .char (111 : Int32) = (111 : Int32) from by decide]
  intro h406 W407 V_b368'
  replace E_b364 := E_b364.wr W407
  replace U_b364 := own_unt_wr W407 U_b364
  replace F_b364_coder := F_b364_coder.other W407 (Or.inl o_b364_b368)
  replace F_b364_value := F_b364_value.other W407 (Or.inl o_b364_b368)
  replace E_b368 := E_b368.wr W407
  replace V_b368 : Arv Z h406 b368 q371 .char (22 : Int32) [(.int (117 : Int32)), (.int (110 : Int32)), (.int (114 : Int32)), (.int (101 : Int32)), (.int (99 : Int32)), (.int (111 : Int32)), (.int (103 : Int32)), (.int (110 : Int32)), (.int (105 : Int32)), (.int (122 : Int32)), (.int (101 : Int32)), (.int (100 : Int32)), (.int (32 : Int32)), (.int (111 : Int32)), (.int (112 : Int32)), (.int (116 : Int32)), (.int (105 : Int32)), (.int (111 : Int32)), (.int (0 : Int32)), (.int (0 : Int32)), (.int (0 : Int32)), (.int (0 : Int32))] (.int (0 : Int32)) := V_b368'
  change Go _ _ _ _ _ _ _ _ _ _ _ _ _ _ [b368, b364] h406 2 26 114 #[.val (.int x), .val (.int y), .val (.int z), .val (.int (0 : Int32))] [(.ref b368), (.ref b364), (.ref b364)]
  refine Go.dup (pc' := 115) d_method_4_114 rfl rfl ?_
  refine Go.bipush (pc' := 117) d_method_4_115 rfl icb_18 ?_
  refine Go.bipush (pc' := 119) d_method_4_117 rfl icb_110 ?_
  refine Go.castoreV (pc' := 120) (i := 18) d_method_4_119 rfl (List.mem_of_getElem? (i := 0) rfl) V_b368 (by decide) (by decide) (by simp) ?_
  rw [show nar .char (110 : Int32) = (110 : Int32) from by decide]
  intro h408 W409 V_b368'
  replace E_b364 := E_b364.wr W409
  replace U_b364 := own_unt_wr W409 U_b364
  replace F_b364_coder := F_b364_coder.other W409 (Or.inl o_b364_b368)
  replace F_b364_value := F_b364_value.other W409 (Or.inl o_b364_b368)
  replace E_b368 := E_b368.wr W409
  replace V_b368 : Arv Z h408 b368 q371 .char (22 : Int32) [(.int (117 : Int32)), (.int (110 : Int32)), (.int (114 : Int32)), (.int (101 : Int32)), (.int (99 : Int32)), (.int (111 : Int32)), (.int (103 : Int32)), (.int (110 : Int32)), (.int (105 : Int32)), (.int (122 : Int32)), (.int (101 : Int32)), (.int (100 : Int32)), (.int (32 : Int32)), (.int (111 : Int32)), (.int (112 : Int32)), (.int (116 : Int32)), (.int (105 : Int32)), (.int (111 : Int32)), (.int (110 : Int32)), (.int (0 : Int32)), (.int (0 : Int32)), (.int (0 : Int32))] (.int (0 : Int32)) := V_b368'
  change Go _ _ _ _ _ _ _ _ _ _ _ _ _ _ [b368, b364] h408 2 26 120 #[.val (.int x), .val (.int y), .val (.int z), .val (.int (0 : Int32))] [(.ref b368), (.ref b364), (.ref b364)]
  refine Go.dup (pc' := 121) d_method_4_120 rfl rfl ?_
  refine Go.bipush (pc' := 123) d_method_4_121 rfl icb_19 ?_
  refine Go.bipush (pc' := 125) d_method_4_123 rfl icb_32 ?_
  refine Go.castoreV (pc' := 126) (i := 19) d_method_4_125 rfl (List.mem_of_getElem? (i := 0) rfl) V_b368 (by decide) (by decide) (by simp) ?_
  rw [show nar .char (32 : Int32) = (32 : Int32) from by decide]
  intro h410 W411 V_b368'
  replace E_b364 := E_b364.wr W411
  replace U_b364 := own_unt_wr W411 U_b364
  replace F_b364_coder := F_b364_coder.other W411 (Or.inl o_b364_b368)
  replace F_b364_value := F_b364_value.other W411 (Or.inl o_b364_b368)
  replace E_b368 := E_b368.wr W411
  replace V_b368 : Arv Z h410 b368 q371 .char (22 : Int32) [(.int (117 : Int32)), (.int (110 : Int32)), (.int (114 : Int32)), (.int (101 : Int32)), (.int (99 : Int32)), (.int (111 : Int32)), (.int (103 : Int32)), (.int (110 : Int32)), (.int (105 : Int32)), (.int (122 : Int32)), (.int (101 : Int32)), (.int (100 : Int32)), (.int (32 : Int32)), (.int (111 : Int32)), (.int (112 : Int32)), (.int (116 : Int32)), (.int (105 : Int32)), (.int (111 : Int32)), (.int (110 : Int32)), (.int (32 : Int32)), (.int (0 : Int32)), (.int (0 : Int32))] (.int (0 : Int32)) := V_b368'
  change Go _ _ _ _ _ _ _ _ _ _ _ _ _ _ [b368, b364] h410 2 26 126 #[.val (.int x), .val (.int y), .val (.int z), .val (.int (0 : Int32))] [(.ref b368), (.ref b364), (.ref b364)]
  refine Go.dup (pc' := 127) d_method_4_126 rfl rfl ?_
  refine Go.bipush (pc' := 129) d_method_4_127 rfl icb_20 ?_
  refine Go.bipush (pc' := 131) d_method_4_129 rfl icb_39 ?_
  refine Go.castoreV (pc' := 132) (i := 20) d_method_4_131 rfl (List.mem_of_getElem? (i := 0) rfl) V_b368 (by decide) (by decide) (by simp) ?_
  rw [show nar .char (39 : Int32) = (39 : Int32) from by decide]
  intro h412 W413 V_b368'
  replace E_b364 := E_b364.wr W413
  replace U_b364 := own_unt_wr W413 U_b364
  replace F_b364_coder := F_b364_coder.other W413 (Or.inl o_b364_b368)
  replace F_b364_value := F_b364_value.other W413 (Or.inl o_b364_b368)
  replace E_b368 := E_b368.wr W413
  replace V_b368 : Arv Z h412 b368 q371 .char (22 : Int32) [(.int (117 : Int32)), (.int (110 : Int32)), (.int (114 : Int32)), (.int (101 : Int32)), (.int (99 : Int32)), (.int (111 : Int32)), (.int (103 : Int32)), (.int (110 : Int32)), (.int (105 : Int32)), (.int (122 : Int32)), (.int (101 : Int32)), (.int (100 : Int32)), (.int (32 : Int32)), (.int (111 : Int32)), (.int (112 : Int32)), (.int (116 : Int32)), (.int (105 : Int32)), (.int (111 : Int32)), (.int (110 : Int32)), (.int (32 : Int32)), (.int (39 : Int32)), (.int (0 : Int32))] (.int (0 : Int32)) := V_b368'
  change Go _ _ _ _ _ _ _ _ _ _ _ _ _ _ [b368, b364] h412 2 26 132 #[.val (.int x), .val (.int y), .val (.int z), .val (.int (0 : Int32))] [(.ref b368), (.ref b364), (.ref b364)]
  refine Go.dup (pc' := 133) d_method_4_132 rfl rfl ?_
  refine Go.bipush (pc' := 135) d_method_4_133 rfl icb_21 ?_
  refine Go.bipush (pc' := 137) d_method_4_135 rfl icb_39 ?_
  refine Go.castoreV (pc' := 138) (i := 21) d_method_4_137 rfl (List.mem_of_getElem? (i := 0) rfl) V_b368 (by decide) (by decide) (by simp) ?_
  rw [show nar .char (39 : Int32) = (39 : Int32) from by decide]
  intro h414 W415 V_b368'
  replace E_b364 := E_b364.wr W415
  replace U_b364 := own_unt_wr W415 U_b364
  replace F_b364_coder := F_b364_coder.other W415 (Or.inl o_b364_b368)
  replace F_b364_value := F_b364_value.other W415 (Or.inl o_b364_b368)
  replace E_b368 := E_b368.wr W415
  replace V_b368 : Arv Z h414 b368 q371 .char (22 : Int32) [(.int (117 : Int32)), (.int (110 : Int32)), (.int (114 : Int32)), (.int (101 : Int32)), (.int (99 : Int32)), (.int (111 : Int32)), (.int (103 : Int32)), (.int (110 : Int32)), (.int (105 : Int32)), (.int (122 : Int32)), (.int (101 : Int32)), (.int (100 : Int32)), (.int (32 : Int32)), (.int (111 : Int32)), (.int (112 : Int32)), (.int (116 : Int32)), (.int (105 : Int32)), (.int (111 : Int32)), (.int (110 : Int32)), (.int (32 : Int32)), (.int (39 : Int32)), (.int (39 : Int32))] (.int (0 : Int32)) := V_b368'
  change Go _ _ _ _ _ _ _ _ _ _ _ _ _ _ [b368, b364] h414 2 26 138 #[.val (.int x), .val (.int y), .val (.int z), .val (.int (0 : Int32))] [(.ref b368), (.ref b364), (.ref b364)]
  replace V_b368 : Arv Z h414 b368 q371 .char (22 : Int32) ([(117 : Int32), (110 : Int32), (114 : Int32), (101 : Int32), (99 : Int32), (111 : Int32), (103 : Int32), (110 : Int32), (105 : Int32), (122 : Int32), (101 : Int32), (100 : Int32), (32 : Int32), (111 : Int32), (112 : Int32), (116 : Int32), (105 : Int32), (111 : Int32), (110 : Int32), (32 : Int32), (39 : Int32), (39 : Int32)].map Value.int) (.int (0 : Int32)) := V_b368
  refine Go.callI (pc' := 141) (z := N_35) (a := b364) d_method_4_138 rfl rfl (w_8 hw) (w_9 hw) (w_10 hw) (by decide) (argsL := [(.ref b368)]) (rest := [(.ref b364)]) (Pays.of_met (W := 1) (len := 3) (m_str hw hs b364 b368 q371 [(117 : Int32), (110 : Int32), (114 : Int32), (101 : Int32), (99 : Int32), (111 : Int32), (103 : Int32), (110 : Int32), (105 : Int32), (122 : Int32), (101 : Int32), (100 : Int32), (32 : Int32), (111 : Int32), (112 : Int32), (116 : Int32), (105 : Int32), (111 : Int32), (110 : Int32), (32 : Int32), (39 : Int32), (39 : Int32)] (22 : Int32) h414 E_b364 F_b364_coder F_b364_value V_b368 (show (22 : Int32).toNatClampNeg = 22 from by decide) ((own_cons (P := fun x => ¬ x < 0 ∧ ¬ 255 < x) (by decide) (own_cons (P := fun x => ¬ x < 0 ∧ ¬ 255 < x) (by decide) (own_cons (P := fun x => ¬ x < 0 ∧ ¬ 255 < x) (by decide) (own_cons (P := fun x => ¬ x < 0 ∧ ¬ 255 < x) (by decide) (own_cons (P := fun x => ¬ x < 0 ∧ ¬ 255 < x) (by decide) (own_cons (P := fun x => ¬ x < 0 ∧ ¬ 255 < x) (by decide) (own_cons (P := fun x => ¬ x < 0 ∧ ¬ 255 < x) (by decide) (own_cons (P := fun x => ¬ x < 0 ∧ ¬ 255 < x) (by decide) (own_cons (P := fun x => ¬ x < 0 ∧ ¬ 255 < x) (by decide) (own_cons (P := fun x => ¬ x < 0 ∧ ¬ 255 < x) (by decide) (own_cons (P := fun x => ¬ x < 0 ∧ ¬ 255 < x) (by decide) (own_cons (P := fun x => ¬ x < 0 ∧ ¬ 255 < x) (by decide) (own_cons (P := fun x => ¬ x < 0 ∧ ¬ 255 < x) (by decide) (own_cons (P := fun x => ¬ x < 0 ∧ ¬ 255 < x) (by decide) (own_cons (P := fun x => ¬ x < 0 ∧ ¬ 255 < x) (by decide) (own_cons (P := fun x => ¬ x < 0 ∧ ¬ 255 < x) (by decide) (own_cons (P := fun x => ¬ x < 0 ∧ ¬ 255 < x) (by decide) (own_cons (P := fun x => ¬ x < 0 ∧ ¬ 255 < x) (by decide) (own_cons (P := fun x => ¬ x < 0 ∧ ¬ 255 < x) (by decide) (own_cons (P := fun x => ¬ x < 0 ∧ ¬ 255 < x) (by decide) (own_cons (P := fun x => ¬ x < 0 ∧ ¬ 255 < x) (by decide) (own_one (P := fun x => ¬ x < 0 ∧ ¬ 255 < x) (by decide)))))))))))))))))))))))) (List.cons_ne_nil _ _) (by decide) (Ne.symm o_b364_b368)) (w_10 hw) (w_6 hw) (by decide) (by decide)) rfl rfl (lenOf pd_26 rfl) rfl (Nat.le_of_eq rfl) (memS (List.mem_of_getElem? (i := 1) rfl) mem0) (by decide) (by decide) ?_
  rintro _ h418 _ K419 le420 ⟨b416, q417, rfl, rfl, p421, p422, p423, p424, p425⟩
  have o_b364_b416 : b364 ≠ b416 := Nat.ne_of_lt (Nat.lt_of_lt_of_le E_b364.lt p425)
  have o_b368_b416 : b368 ≠ b416 := Nat.ne_of_lt (Nat.lt_of_lt_of_le E_b368.lt p425)
  have ge_b416 := Nat.le_trans le420 p425
  replace E_b364 := E_b364.keep K419
  replace E_b368 := E_b368.keep K419
  replace V_b368 := V_b368.keep K419 (ninS (Ne.symm o_b364_b368) nin0)
  have F_b364_coder := p422
  have F_b364_value := p423
  have V_b416 := p424
  change Go _ _ _ _ _ _ _ _ _ _ _ _ _ _ [b368, b364] h418 3 51 141 #[.val (.int x), .val (.int y), .val (.int z), .val (.int (0 : Int32))] [(.ref b364)]
  replace V_b416 : Arv Z h418 b416 q417 .byte (22 : Int32) ([(117 : Int32).toInt8.toInt32, (110 : Int32).toInt8.toInt32, (114 : Int32).toInt8.toInt32, (101 : Int32).toInt8.toInt32, (99 : Int32).toInt8.toInt32, (111 : Int32).toInt8.toInt32, (103 : Int32).toInt8.toInt32, (110 : Int32).toInt8.toInt32, (105 : Int32).toInt8.toInt32, (122 : Int32).toInt8.toInt32, (101 : Int32).toInt8.toInt32, (100 : Int32).toInt8.toInt32, (32 : Int32).toInt8.toInt32, (111 : Int32).toInt8.toInt32, (112 : Int32).toInt8.toInt32, (116 : Int32).toInt8.toInt32, (105 : Int32).toInt8.toInt32, (111 : Int32).toInt8.toInt32, (110 : Int32).toInt8.toInt32, (32 : Int32).toInt8.toInt32, (39 : Int32).toInt8.toInt32, (39 : Int32).toInt8.toInt32].map Value.int) (.int (0 : Int32)) := V_b416
  rw [show [(117 : Int32).toInt8.toInt32, (110 : Int32).toInt8.toInt32, (114 : Int32).toInt8.toInt32, (101 : Int32).toInt8.toInt32, (99 : Int32).toInt8.toInt32, (111 : Int32).toInt8.toInt32, (103 : Int32).toInt8.toInt32, (110 : Int32).toInt8.toInt32, (105 : Int32).toInt8.toInt32, (122 : Int32).toInt8.toInt32, (101 : Int32).toInt8.toInt32, (100 : Int32).toInt8.toInt32, (32 : Int32).toInt8.toInt32, (111 : Int32).toInt8.toInt32, (112 : Int32).toInt8.toInt32, (116 : Int32).toInt8.toInt32, (105 : Int32).toInt8.toInt32, (111 : Int32).toInt8.toInt32, (110 : Int32).toInt8.toInt32, (32 : Int32).toInt8.toInt32, (39 : Int32).toInt8.toInt32, (39 : Int32).toInt8.toInt32] = [(117 : Int32), (110 : Int32), (114 : Int32), (101 : Int32), (99 : Int32), (111 : Int32), (103 : Int32), (110 : Int32), (105 : Int32), (122 : Int32), (101 : Int32), (100 : Int32), (32 : Int32), (111 : Int32), (112 : Int32), (116 : Int32), (105 : Int32), (111 : Int32), (110 : Int32), (32 : Int32), (39 : Int32), (39 : Int32)] from by rw [lc_100, lc_101, lc_103, lc_105, lc_110, lc_111, lc_112, lc_114, lc_116, lc_117, lc_122, lc_32, lc_39, lc_99]] at V_b416
  exact Go.retA d_method_4_141 rfl rfl rfl (by decide) (by decide) [] sn0 ⟨b364, b416, _, rfl, rfl, E_b364, F_b364_coder, F_b364_value, V_b416⟩
abbrev R_m_expected1 : Room := { frames := 4, cells := 3, slots := 52, locals := 66 }
theorem pn_m_expected1 : plainFor (⟨"com/example/slackline/slackline/UsageExceptionUnrecognizedOptionPinLaw", "expected", "(CCCI)Ljava/lang/String;"⟩ : MethodName) = true := by first | (refine plainFor_of_name ?_; simp [plainName, overriddenIn]; done) | decide +kernel
abbrev Q_m_expected1 (Z : State) (x : Int32) (y : Int32) (z : Int32) (h0 : Heap) : Option Value → Heap → List Addr → Prop := fun res h' SN => ∃ (s : Addr) (t : Addr) (kt : ClassId), res = some (.ref s) ∧ SN = [] ∧ Exa Z h' s "java/lang/String" ∧ Fld Z h' s "java/lang/String" "coder" "B" (.int (0 : Int32)) ∧ Fld Z h' s "java/lang/String" "value" "[B" (.ref t) ∧ Arv Z h' t kt .byte (23 : Int32) ([(117 : Int32), (110 : Int32), (114 : Int32), (101 : Int32), (99 : Int32), (111 : Int32), (103 : Int32), (110 : Int32), (105 : Int32), (122 : Int32), (101 : Int32), (100 : Int32), (32 : Int32), (111 : Int32), (112 : Int32), (116 : Int32), (105 : Int32), (111 : Int32), (110 : Int32), (32 : Int32), (39 : Int32), x.toInt8.toInt32, (39 : Int32)].map Value.int) (.int (0 : Int32))
theorem ef_m_expected1 (mid : MethodId) (x : Int32) (y : Int32) (z : Int32) : entryFrame mid #[(.int x), (.int y), (.int z), (.int (1 : Int32))] 4 = mkF mid 0 #[.val (.int x), .val (.int y), .val (.int z), .val (.int (1 : Int32))] [] := by first | (simp [entryFrame, mkF, argsToLocals, Value.category]; done) | rfl
set_option maxRecDepth 65536 in
set_option maxHeartbeats 40000000 in
theorem m_expected1 {l : Launch} {Z : State} {a0 : Array Value} {n0 : Nat} (hw : ∀ d ∈ tables_1, d.before a0 Z = true) (hs : Stat Z) (x : Int32) (y : Int32) (z : Int32) (h0 : Heap) (hx_x : ¬ x < 0 ∧ ¬ 255 < x) (hx_y : ¬ y < 0 ∧ ¬ 255 < y) (hx_z : ¬ z < 0 ∧ ¬ 255 < z) :
    Met l Z EL0 n0 NR0 KN0 N_39 method_4_code 4 (Option.some (Jvm.ClassFile.FieldType.object "java/lang/String")) R_m_expected1 [] #[(.int x), (.int y), (.int z), (.int (1 : Int32))] h0 (Q_m_expected1 Z x y z h0) := by
  refine Met.of_go pn_m_expected1 (fun mid => ef_m_expected1 mid x y z ) ?_
  intro hO hWS
  refine Go.iload_n (pc' := 1) d_method_4_0 rfl rfl ?_
  refine Go.ifY (pc' := 142) d_method_4_1 (by decide) (by decide) ((if0 _ _).trans (feq (by decide : ¬ ((1 : Int32) = (0 : Int32)))).2) ?_
  refine Go.iload_n (pc' := 143) d_method_4_142 rfl rfl ?_
  refine Go.iconst (pc' := 144) d_method_4_143 rfl ic_1 ?_
  refine Go.icmpN (pc' := 147) d_method_4_144 rfl (teq (rfl : (1 : Int32) = (1 : Int32))).2 ?_
  refine Go.newO (pc' := 150) d_method_4_147 rfl (w_4 hw) (w_5 hw) (w_6 hw) (by decide) (by decide) ?_
  intro h426 b427 g428 ge_b427 x429 E_b427 D_b427 U_b427
  have F_b427_coder : Fld Z h426 b427 "java/lang/String" "coder" "B" (.int (0 : Int32)) := D_b427 (Or.inr (w_31 hw)) (ty := .byte) (by decide)
  have F_b427_value : Fld Z h426 b427 "java/lang/String" "value" "[B" .null := D_b427 (Or.inr (w_33 hw)) (ty := (.array .byte)) (by decide)
  change Go _ _ _ _ _ _ _ _ _ _ _ _ _ _ [b427] h426 1 4 150 #[.val (.int x), .val (.int y), .val (.int z), .val (.int (1 : Int32))] [(.ref b427)]
  refine Go.dup (pc' := 151) d_method_4_150 rfl rfl ?_
  refine Go.bipush (pc' := 153) d_method_4_151 rfl icb_23 ?_
  refine Go.newP (pc' := 155) (cap := 23) (ad := "[C") d_method_4_153 rfl (w_7 hw) (by decide) (by decide) (by decide) (by decide) (by decide) (by decide) ?_
  intro h430 b431 g432 ge_b431 q434 x433 V_b431 E_b431
  have o_b427_b431 : b427 ≠ b431 := Nat.ne_of_lt (Nat.lt_of_lt_of_le E_b427.lt (Nat.le_of_eq g432))
  replace E_b427 := E_b427.ext x433
  replace U_b427 := unt_ext x433 U_b427
  replace F_b427_coder := F_b427_coder.ext x433
  replace F_b427_value := F_b427_value.ext x433
  replace V_b431 : Arv Z h430 b431 q434 .char (23 : Int32) [(.int (0 : Int32)), (.int (0 : Int32)), (.int (0 : Int32)), (.int (0 : Int32)), (.int (0 : Int32)), (.int (0 : Int32)), (.int (0 : Int32)), (.int (0 : Int32)), (.int (0 : Int32)), (.int (0 : Int32)), (.int (0 : Int32)), (.int (0 : Int32)), (.int (0 : Int32)), (.int (0 : Int32)), (.int (0 : Int32)), (.int (0 : Int32)), (.int (0 : Int32)), (.int (0 : Int32)), (.int (0 : Int32)), (.int (0 : Int32)), (.int (0 : Int32)), (.int (0 : Int32)), (.int (0 : Int32))] (.int (0 : Int32)) := V_b431.pad (pad_rep [] _ 23)
  change Go _ _ _ _ _ _ _ _ _ _ _ _ _ _ [b431, b427] h430 2 27 155 #[.val (.int x), .val (.int y), .val (.int z), .val (.int (1 : Int32))] [(.ref b431), (.ref b427), (.ref b427)]
  refine Go.dup (pc' := 156) d_method_4_155 rfl rfl ?_
  refine Go.iconst (pc' := 157) d_method_4_156 rfl ic_0 ?_
  refine Go.bipush (pc' := 159) d_method_4_157 rfl icb_117 ?_
  refine Go.castoreV (pc' := 160) (i := 0) d_method_4_159 rfl (List.mem_of_getElem? (i := 0) rfl) V_b431 (by decide) (by decide) (by simp) ?_
  rw [show nar .char (117 : Int32) = (117 : Int32) from by decide]
  intro h435 W436 V_b431'
  replace E_b427 := E_b427.wr W436
  replace U_b427 := own_unt_wr W436 U_b427
  replace F_b427_coder := F_b427_coder.other W436 (Or.inl o_b427_b431)
  replace F_b427_value := F_b427_value.other W436 (Or.inl o_b427_b431)
  replace E_b431 := E_b431.wr W436
  replace V_b431 : Arv Z h435 b431 q434 .char (23 : Int32) [(.int (117 : Int32)), (.int (0 : Int32)), (.int (0 : Int32)), (.int (0 : Int32)), (.int (0 : Int32)), (.int (0 : Int32)), (.int (0 : Int32)), (.int (0 : Int32)), (.int (0 : Int32)), (.int (0 : Int32)), (.int (0 : Int32)), (.int (0 : Int32)), (.int (0 : Int32)), (.int (0 : Int32)), (.int (0 : Int32)), (.int (0 : Int32)), (.int (0 : Int32)), (.int (0 : Int32)), (.int (0 : Int32)), (.int (0 : Int32)), (.int (0 : Int32)), (.int (0 : Int32)), (.int (0 : Int32))] (.int (0 : Int32)) := V_b431'
  change Go _ _ _ _ _ _ _ _ _ _ _ _ _ _ [b431, b427] h435 2 27 160 #[.val (.int x), .val (.int y), .val (.int z), .val (.int (1 : Int32))] [(.ref b431), (.ref b427), (.ref b427)]
  refine Go.dup (pc' := 161) d_method_4_160 rfl rfl ?_
  refine Go.iconst (pc' := 162) d_method_4_161 rfl ic_1 ?_
  refine Go.bipush (pc' := 164) d_method_4_162 rfl icb_110 ?_
  refine Go.castoreV (pc' := 165) (i := 1) d_method_4_164 rfl (List.mem_of_getElem? (i := 0) rfl) V_b431 (by decide) (by decide) (by simp) ?_
  rw [show nar .char (110 : Int32) = (110 : Int32) from by decide]
  intro h437 W438 V_b431'
  replace E_b427 := E_b427.wr W438
  replace U_b427 := own_unt_wr W438 U_b427
  replace F_b427_coder := F_b427_coder.other W438 (Or.inl o_b427_b431)
  replace F_b427_value := F_b427_value.other W438 (Or.inl o_b427_b431)
  replace E_b431 := E_b431.wr W438
  replace V_b431 : Arv Z h437 b431 q434 .char (23 : Int32) [(.int (117 : Int32)), (.int (110 : Int32)), (.int (0 : Int32)), (.int (0 : Int32)), (.int (0 : Int32)), (.int (0 : Int32)), (.int (0 : Int32)), (.int (0 : Int32)), (.int (0 : Int32)), (.int (0 : Int32)), (.int (0 : Int32)), (.int (0 : Int32)), (.int (0 : Int32)), (.int (0 : Int32)), (.int (0 : Int32)), (.int (0 : Int32)), (.int (0 : Int32)), (.int (0 : Int32)), (.int (0 : Int32)), (.int (0 : Int32)), (.int (0 : Int32)), (.int (0 : Int32)), (.int (0 : Int32))] (.int (0 : Int32)) := V_b431'
  change Go _ _ _ _ _ _ _ _ _ _ _ _ _ _ [b431, b427] h437 2 27 165 #[.val (.int x), .val (.int y), .val (.int z), .val (.int (1 : Int32))] [(.ref b431), (.ref b427), (.ref b427)]
  refine Go.dup (pc' := 166) d_method_4_165 rfl rfl ?_
  refine Go.iconst (pc' := 167) d_method_4_166 rfl ic_2 ?_
  refine Go.bipush (pc' := 169) d_method_4_167 rfl icb_114 ?_
  refine Go.castoreV (pc' := 170) (i := 2) d_method_4_169 rfl (List.mem_of_getElem? (i := 0) rfl) V_b431 (by decide) (by decide) (by simp) ?_
  rw [show nar .char (114 : Int32) = (114 : Int32) from by decide]
  intro h439 W440 V_b431'
  replace E_b427 := E_b427.wr W440
  replace U_b427 := own_unt_wr W440 U_b427
  replace F_b427_coder := F_b427_coder.other W440 (Or.inl o_b427_b431)
  replace F_b427_value := F_b427_value.other W440 (Or.inl o_b427_b431)
  replace E_b431 := E_b431.wr W440
  replace V_b431 : Arv Z h439 b431 q434 .char (23 : Int32) [(.int (117 : Int32)), (.int (110 : Int32)), (.int (114 : Int32)), (.int (0 : Int32)), (.int (0 : Int32)), (.int (0 : Int32)), (.int (0 : Int32)), (.int (0 : Int32)), (.int (0 : Int32)), (.int (0 : Int32)), (.int (0 : Int32)), (.int (0 : Int32)), (.int (0 : Int32)), (.int (0 : Int32)), (.int (0 : Int32)), (.int (0 : Int32)), (.int (0 : Int32)), (.int (0 : Int32)), (.int (0 : Int32)), (.int (0 : Int32)), (.int (0 : Int32)), (.int (0 : Int32)), (.int (0 : Int32))] (.int (0 : Int32)) := V_b431'
  change Go _ _ _ _ _ _ _ _ _ _ _ _ _ _ [b431, b427] h439 2 27 170 #[.val (.int x), .val (.int y), .val (.int z), .val (.int (1 : Int32))] [(.ref b431), (.ref b427), (.ref b427)]
  refine Go.dup (pc' := 171) d_method_4_170 rfl rfl ?_
  refine Go.iconst (pc' := 172) d_method_4_171 rfl ic_3 ?_
  refine Go.bipush (pc' := 174) d_method_4_172 rfl icb_101 ?_
  refine Go.castoreV (pc' := 175) (i := 3) d_method_4_174 rfl (List.mem_of_getElem? (i := 0) rfl) V_b431 (by decide) (by decide) (by simp) ?_
  rw [show nar .char (101 : Int32) = (101 : Int32) from by decide]
  intro h441 W442 V_b431'
  replace E_b427 := E_b427.wr W442
  replace U_b427 := own_unt_wr W442 U_b427
  replace F_b427_coder := F_b427_coder.other W442 (Or.inl o_b427_b431)
  replace F_b427_value := F_b427_value.other W442 (Or.inl o_b427_b431)
  replace E_b431 := E_b431.wr W442
  replace V_b431 : Arv Z h441 b431 q434 .char (23 : Int32) [(.int (117 : Int32)), (.int (110 : Int32)), (.int (114 : Int32)), (.int (101 : Int32)), (.int (0 : Int32)), (.int (0 : Int32)), (.int (0 : Int32)), (.int (0 : Int32)), (.int (0 : Int32)), (.int (0 : Int32)), (.int (0 : Int32)), (.int (0 : Int32)), (.int (0 : Int32)), (.int (0 : Int32)), (.int (0 : Int32)), (.int (0 : Int32)), (.int (0 : Int32)), (.int (0 : Int32)), (.int (0 : Int32)), (.int (0 : Int32)), (.int (0 : Int32)), (.int (0 : Int32)), (.int (0 : Int32))] (.int (0 : Int32)) := V_b431'
  change Go _ _ _ _ _ _ _ _ _ _ _ _ _ _ [b431, b427] h441 2 27 175 #[.val (.int x), .val (.int y), .val (.int z), .val (.int (1 : Int32))] [(.ref b431), (.ref b427), (.ref b427)]
  refine Go.dup (pc' := 176) d_method_4_175 rfl rfl ?_
  refine Go.iconst (pc' := 177) d_method_4_176 rfl ic_4 ?_
  refine Go.bipush (pc' := 179) d_method_4_177 rfl icb_99 ?_
  refine Go.castoreV (pc' := 180) (i := 4) d_method_4_179 rfl (List.mem_of_getElem? (i := 0) rfl) V_b431 (by decide) (by decide) (by simp) ?_
  rw [show nar .char (99 : Int32) = (99 : Int32) from by decide]
  intro h443 W444 V_b431'
  replace E_b427 := E_b427.wr W444
  replace U_b427 := own_unt_wr W444 U_b427
  replace F_b427_coder := F_b427_coder.other W444 (Or.inl o_b427_b431)
  replace F_b427_value := F_b427_value.other W444 (Or.inl o_b427_b431)
  replace E_b431 := E_b431.wr W444
  replace V_b431 : Arv Z h443 b431 q434 .char (23 : Int32) [(.int (117 : Int32)), (.int (110 : Int32)), (.int (114 : Int32)), (.int (101 : Int32)), (.int (99 : Int32)), (.int (0 : Int32)), (.int (0 : Int32)), (.int (0 : Int32)), (.int (0 : Int32)), (.int (0 : Int32)), (.int (0 : Int32)), (.int (0 : Int32)), (.int (0 : Int32)), (.int (0 : Int32)), (.int (0 : Int32)), (.int (0 : Int32)), (.int (0 : Int32)), (.int (0 : Int32)), (.int (0 : Int32)), (.int (0 : Int32)), (.int (0 : Int32)), (.int (0 : Int32)), (.int (0 : Int32))] (.int (0 : Int32)) := V_b431'
  change Go _ _ _ _ _ _ _ _ _ _ _ _ _ _ [b431, b427] h443 2 27 180 #[.val (.int x), .val (.int y), .val (.int z), .val (.int (1 : Int32))] [(.ref b431), (.ref b427), (.ref b427)]
  refine Go.dup (pc' := 181) d_method_4_180 rfl rfl ?_
  refine Go.iconst (pc' := 182) d_method_4_181 rfl ic_5 ?_
  refine Go.bipush (pc' := 184) d_method_4_182 rfl icb_111 ?_
  refine Go.castoreV (pc' := 185) (i := 5) d_method_4_184 rfl (List.mem_of_getElem? (i := 0) rfl) V_b431 (by decide) (by decide) (by simp) ?_
  rw [show nar .char (111 : Int32) = (111 : Int32) from by decide]
  intro h445 W446 V_b431'
  replace E_b427 := E_b427.wr W446
  replace U_b427 := own_unt_wr W446 U_b427
  replace F_b427_coder := F_b427_coder.other W446 (Or.inl o_b427_b431)
  replace F_b427_value := F_b427_value.other W446 (Or.inl o_b427_b431)
  replace E_b431 := E_b431.wr W446
  replace V_b431 : Arv Z h445 b431 q434 .char (23 : Int32) [(.int (117 : Int32)), (.int (110 : Int32)), (.int (114 : Int32)), (.int (101 : Int32)), (.int (99 : Int32)), (.int (111 : Int32)), (.int (0 : Int32)), (.int (0 : Int32)), (.int (0 : Int32)), (.int (0 : Int32)), (.int (0 : Int32)), (.int (0 : Int32)), (.int (0 : Int32)), (.int (0 : Int32)), (.int (0 : Int32)), (.int (0 : Int32)), (.int (0 : Int32)), (.int (0 : Int32)), (.int (0 : Int32)), (.int (0 : Int32)), (.int (0 : Int32)), (.int (0 : Int32)), (.int (0 : Int32))] (.int (0 : Int32)) := V_b431'
  change Go _ _ _ _ _ _ _ _ _ _ _ _ _ _ [b431, b427] h445 2 27 185 #[.val (.int x), .val (.int y), .val (.int z), .val (.int (1 : Int32))] [(.ref b431), (.ref b427), (.ref b427)]
  refine Go.dup (pc' := 186) d_method_4_185 rfl rfl ?_
  refine Go.bipush (pc' := 188) d_method_4_186 rfl icb_6 ?_
  refine Go.bipush (pc' := 190) d_method_4_188 rfl icb_103 ?_
  refine Go.castoreV (pc' := 191) (i := 6) d_method_4_190 rfl (List.mem_of_getElem? (i := 0) rfl) V_b431 (by decide) (by decide) (by simp) ?_
  rw [show nar .char (103 : Int32) = (103 : Int32) from by decide]
  intro h447 W448 V_b431'
  replace E_b427 := E_b427.wr W448
  replace U_b427 := own_unt_wr W448 U_b427
  replace F_b427_coder := F_b427_coder.other W448 (Or.inl o_b427_b431)
  replace F_b427_value := F_b427_value.other W448 (Or.inl o_b427_b431)
  replace E_b431 := E_b431.wr W448
  replace V_b431 : Arv Z h447 b431 q434 .char (23 : Int32) [(.int (117 : Int32)), (.int (110 : Int32)), (.int (114 : Int32)), (.int (101 : Int32)), (.int (99 : Int32)), (.int (111 : Int32)), (.int (103 : Int32)), (.int (0 : Int32)), (.int (0 : Int32)), (.int (0 : Int32)), (.int (0 : Int32)), (.int (0 : Int32)), (.int (0 : Int32)), (.int (0 : Int32)), (.int (0 : Int32)), (.int (0 : Int32)), (.int (0 : Int32)), (.int (0 : Int32)), (.int (0 : Int32)), (.int (0 : Int32)), (.int (0 : Int32)), (.int (0 : Int32)), (.int (0 : Int32))] (.int (0 : Int32)) := V_b431'
  change Go _ _ _ _ _ _ _ _ _ _ _ _ _ _ [b431, b427] h447 2 27 191 #[.val (.int x), .val (.int y), .val (.int z), .val (.int (1 : Int32))] [(.ref b431), (.ref b427), (.ref b427)]
  refine Go.dup (pc' := 192) d_method_4_191 rfl rfl ?_
  refine Go.bipush (pc' := 194) d_method_4_192 rfl icb_7 ?_
  refine Go.bipush (pc' := 196) d_method_4_194 rfl icb_110 ?_
  refine Go.castoreV (pc' := 197) (i := 7) d_method_4_196 rfl (List.mem_of_getElem? (i := 0) rfl) V_b431 (by decide) (by decide) (by simp) ?_
  rw [show nar .char (110 : Int32) = (110 : Int32) from by decide]
  intro h449 W450 V_b431'
  replace E_b427 := E_b427.wr W450
  replace U_b427 := own_unt_wr W450 U_b427
  replace F_b427_coder := F_b427_coder.other W450 (Or.inl o_b427_b431)
  replace F_b427_value := F_b427_value.other W450 (Or.inl o_b427_b431)
  replace E_b431 := E_b431.wr W450
  replace V_b431 : Arv Z h449 b431 q434 .char (23 : Int32) [(.int (117 : Int32)), (.int (110 : Int32)), (.int (114 : Int32)), (.int (101 : Int32)), (.int (99 : Int32)), (.int (111 : Int32)), (.int (103 : Int32)), (.int (110 : Int32)), (.int (0 : Int32)), (.int (0 : Int32)), (.int (0 : Int32)), (.int (0 : Int32)), (.int (0 : Int32)), (.int (0 : Int32)), (.int (0 : Int32)), (.int (0 : Int32)), (.int (0 : Int32)), (.int (0 : Int32)), (.int (0 : Int32)), (.int (0 : Int32)), (.int (0 : Int32)), (.int (0 : Int32)), (.int (0 : Int32))] (.int (0 : Int32)) := V_b431'
  change Go _ _ _ _ _ _ _ _ _ _ _ _ _ _ [b431, b427] h449 2 27 197 #[.val (.int x), .val (.int y), .val (.int z), .val (.int (1 : Int32))] [(.ref b431), (.ref b427), (.ref b427)]
  refine Go.dup (pc' := 198) d_method_4_197 rfl rfl ?_
  refine Go.bipush (pc' := 200) d_method_4_198 rfl icb_8 ?_
  refine Go.bipush (pc' := 202) d_method_4_200 rfl icb_105 ?_
  refine Go.castoreV (pc' := 203) (i := 8) d_method_4_202 rfl (List.mem_of_getElem? (i := 0) rfl) V_b431 (by decide) (by decide) (by simp) ?_
  rw [show nar .char (105 : Int32) = (105 : Int32) from by decide]
  intro h451 W452 V_b431'
  replace E_b427 := E_b427.wr W452
  replace U_b427 := own_unt_wr W452 U_b427
  replace F_b427_coder := F_b427_coder.other W452 (Or.inl o_b427_b431)
  replace F_b427_value := F_b427_value.other W452 (Or.inl o_b427_b431)
  replace E_b431 := E_b431.wr W452
  replace V_b431 : Arv Z h451 b431 q434 .char (23 : Int32) [(.int (117 : Int32)), (.int (110 : Int32)), (.int (114 : Int32)), (.int (101 : Int32)), (.int (99 : Int32)), (.int (111 : Int32)), (.int (103 : Int32)), (.int (110 : Int32)), (.int (105 : Int32)), (.int (0 : Int32)), (.int (0 : Int32)), (.int (0 : Int32)), (.int (0 : Int32)), (.int (0 : Int32)), (.int (0 : Int32)), (.int (0 : Int32)), (.int (0 : Int32)), (.int (0 : Int32)), (.int (0 : Int32)), (.int (0 : Int32)), (.int (0 : Int32)), (.int (0 : Int32)), (.int (0 : Int32))] (.int (0 : Int32)) := V_b431'
  change Go _ _ _ _ _ _ _ _ _ _ _ _ _ _ [b431, b427] h451 2 27 203 #[.val (.int x), .val (.int y), .val (.int z), .val (.int (1 : Int32))] [(.ref b431), (.ref b427), (.ref b427)]
  refine Go.dup (pc' := 204) d_method_4_203 rfl rfl ?_
  refine Go.bipush (pc' := 206) d_method_4_204 rfl icb_9 ?_
  refine Go.bipush (pc' := 208) d_method_4_206 rfl icb_122 ?_
  refine Go.castoreV (pc' := 209) (i := 9) d_method_4_208 rfl (List.mem_of_getElem? (i := 0) rfl) V_b431 (by decide) (by decide) (by simp) ?_
  rw [show nar .char (122 : Int32) = (122 : Int32) from by decide]
  intro h453 W454 V_b431'
  replace E_b427 := E_b427.wr W454
  replace U_b427 := own_unt_wr W454 U_b427
  replace F_b427_coder := F_b427_coder.other W454 (Or.inl o_b427_b431)
  replace F_b427_value := F_b427_value.other W454 (Or.inl o_b427_b431)
  replace E_b431 := E_b431.wr W454
  replace V_b431 : Arv Z h453 b431 q434 .char (23 : Int32) [(.int (117 : Int32)), (.int (110 : Int32)), (.int (114 : Int32)), (.int (101 : Int32)), (.int (99 : Int32)), (.int (111 : Int32)), (.int (103 : Int32)), (.int (110 : Int32)), (.int (105 : Int32)), (.int (122 : Int32)), (.int (0 : Int32)), (.int (0 : Int32)), (.int (0 : Int32)), (.int (0 : Int32)), (.int (0 : Int32)), (.int (0 : Int32)), (.int (0 : Int32)), (.int (0 : Int32)), (.int (0 : Int32)), (.int (0 : Int32)), (.int (0 : Int32)), (.int (0 : Int32)), (.int (0 : Int32))] (.int (0 : Int32)) := V_b431'
  change Go _ _ _ _ _ _ _ _ _ _ _ _ _ _ [b431, b427] h453 2 27 209 #[.val (.int x), .val (.int y), .val (.int z), .val (.int (1 : Int32))] [(.ref b431), (.ref b427), (.ref b427)]
  refine Go.dup (pc' := 210) d_method_4_209 rfl rfl ?_
  refine Go.bipush (pc' := 212) d_method_4_210 rfl icb_10 ?_
  refine Go.bipush (pc' := 214) d_method_4_212 rfl icb_101 ?_
  refine Go.castoreV (pc' := 215) (i := 10) d_method_4_214 rfl (List.mem_of_getElem? (i := 0) rfl) V_b431 (by decide) (by decide) (by simp) ?_
  rw [show nar .char (101 : Int32) = (101 : Int32) from by decide]
  intro h455 W456 V_b431'
  replace E_b427 := E_b427.wr W456
  replace U_b427 := own_unt_wr W456 U_b427
  replace F_b427_coder := F_b427_coder.other W456 (Or.inl o_b427_b431)
  replace F_b427_value := F_b427_value.other W456 (Or.inl o_b427_b431)
  replace E_b431 := E_b431.wr W456
  replace V_b431 : Arv Z h455 b431 q434 .char (23 : Int32) [(.int (117 : Int32)), (.int (110 : Int32)), (.int (114 : Int32)), (.int (101 : Int32)), (.int (99 : Int32)), (.int (111 : Int32)), (.int (103 : Int32)), (.int (110 : Int32)), (.int (105 : Int32)), (.int (122 : Int32)), (.int (101 : Int32)), (.int (0 : Int32)), (.int (0 : Int32)), (.int (0 : Int32)), (.int (0 : Int32)), (.int (0 : Int32)), (.int (0 : Int32)), (.int (0 : Int32)), (.int (0 : Int32)), (.int (0 : Int32)), (.int (0 : Int32)), (.int (0 : Int32)), (.int (0 : Int32))] (.int (0 : Int32)) := V_b431'
  change Go _ _ _ _ _ _ _ _ _ _ _ _ _ _ [b431, b427] h455 2 27 215 #[.val (.int x), .val (.int y), .val (.int z), .val (.int (1 : Int32))] [(.ref b431), (.ref b427), (.ref b427)]
  refine Go.dup (pc' := 216) d_method_4_215 rfl rfl ?_
  refine Go.bipush (pc' := 218) d_method_4_216 rfl icb_11 ?_
  refine Go.bipush (pc' := 220) d_method_4_218 rfl icb_100 ?_
  refine Go.castoreV (pc' := 221) (i := 11) d_method_4_220 rfl (List.mem_of_getElem? (i := 0) rfl) V_b431 (by decide) (by decide) (by simp) ?_
  rw [show nar .char (100 : Int32) = (100 : Int32) from by decide]
  intro h457 W458 V_b431'
  replace E_b427 := E_b427.wr W458
  replace U_b427 := own_unt_wr W458 U_b427
  replace F_b427_coder := F_b427_coder.other W458 (Or.inl o_b427_b431)
  replace F_b427_value := F_b427_value.other W458 (Or.inl o_b427_b431)
  replace E_b431 := E_b431.wr W458
  replace V_b431 : Arv Z h457 b431 q434 .char (23 : Int32) [(.int (117 : Int32)), (.int (110 : Int32)), (.int (114 : Int32)), (.int (101 : Int32)), (.int (99 : Int32)), (.int (111 : Int32)), (.int (103 : Int32)), (.int (110 : Int32)), (.int (105 : Int32)), (.int (122 : Int32)), (.int (101 : Int32)), (.int (100 : Int32)), (.int (0 : Int32)), (.int (0 : Int32)), (.int (0 : Int32)), (.int (0 : Int32)), (.int (0 : Int32)), (.int (0 : Int32)), (.int (0 : Int32)), (.int (0 : Int32)), (.int (0 : Int32)), (.int (0 : Int32)), (.int (0 : Int32))] (.int (0 : Int32)) := V_b431'
  change Go _ _ _ _ _ _ _ _ _ _ _ _ _ _ [b431, b427] h457 2 27 221 #[.val (.int x), .val (.int y), .val (.int z), .val (.int (1 : Int32))] [(.ref b431), (.ref b427), (.ref b427)]
  refine Go.dup (pc' := 222) d_method_4_221 rfl rfl ?_
  refine Go.bipush (pc' := 224) d_method_4_222 rfl icb_12 ?_
  refine Go.bipush (pc' := 226) d_method_4_224 rfl icb_32 ?_
  refine Go.castoreV (pc' := 227) (i := 12) d_method_4_226 rfl (List.mem_of_getElem? (i := 0) rfl) V_b431 (by decide) (by decide) (by simp) ?_
  rw [show nar .char (32 : Int32) = (32 : Int32) from by decide]
  intro h459 W460 V_b431'
  replace E_b427 := E_b427.wr W460
  replace U_b427 := own_unt_wr W460 U_b427
  replace F_b427_coder := F_b427_coder.other W460 (Or.inl o_b427_b431)
  replace F_b427_value := F_b427_value.other W460 (Or.inl o_b427_b431)
  replace E_b431 := E_b431.wr W460
  replace V_b431 : Arv Z h459 b431 q434 .char (23 : Int32) [(.int (117 : Int32)), (.int (110 : Int32)), (.int (114 : Int32)), (.int (101 : Int32)), (.int (99 : Int32)), (.int (111 : Int32)), (.int (103 : Int32)), (.int (110 : Int32)), (.int (105 : Int32)), (.int (122 : Int32)), (.int (101 : Int32)), (.int (100 : Int32)), (.int (32 : Int32)), (.int (0 : Int32)), (.int (0 : Int32)), (.int (0 : Int32)), (.int (0 : Int32)), (.int (0 : Int32)), (.int (0 : Int32)), (.int (0 : Int32)), (.int (0 : Int32)), (.int (0 : Int32)), (.int (0 : Int32))] (.int (0 : Int32)) := V_b431'
  change Go _ _ _ _ _ _ _ _ _ _ _ _ _ _ [b431, b427] h459 2 27 227 #[.val (.int x), .val (.int y), .val (.int z), .val (.int (1 : Int32))] [(.ref b431), (.ref b427), (.ref b427)]
  refine Go.dup (pc' := 228) d_method_4_227 rfl rfl ?_
  refine Go.bipush (pc' := 230) d_method_4_228 rfl icb_13 ?_
  refine Go.bipush (pc' := 232) d_method_4_230 rfl icb_111 ?_
  refine Go.castoreV (pc' := 233) (i := 13) d_method_4_232 rfl (List.mem_of_getElem? (i := 0) rfl) V_b431 (by decide) (by decide) (by simp) ?_
  rw [show nar .char (111 : Int32) = (111 : Int32) from by decide]
  intro h461 W462 V_b431'
  replace E_b427 := E_b427.wr W462
  replace U_b427 := own_unt_wr W462 U_b427
  replace F_b427_coder := F_b427_coder.other W462 (Or.inl o_b427_b431)
  replace F_b427_value := F_b427_value.other W462 (Or.inl o_b427_b431)
  replace E_b431 := E_b431.wr W462
  replace V_b431 : Arv Z h461 b431 q434 .char (23 : Int32) [(.int (117 : Int32)), (.int (110 : Int32)), (.int (114 : Int32)), (.int (101 : Int32)), (.int (99 : Int32)), (.int (111 : Int32)), (.int (103 : Int32)), (.int (110 : Int32)), (.int (105 : Int32)), (.int (122 : Int32)), (.int (101 : Int32)), (.int (100 : Int32)), (.int (32 : Int32)), (.int (111 : Int32)), (.int (0 : Int32)), (.int (0 : Int32)), (.int (0 : Int32)), (.int (0 : Int32)), (.int (0 : Int32)), (.int (0 : Int32)), (.int (0 : Int32)), (.int (0 : Int32)), (.int (0 : Int32))] (.int (0 : Int32)) := V_b431'
  change Go _ _ _ _ _ _ _ _ _ _ _ _ _ _ [b431, b427] h461 2 27 233 #[.val (.int x), .val (.int y), .val (.int z), .val (.int (1 : Int32))] [(.ref b431), (.ref b427), (.ref b427)]
  refine Go.dup (pc' := 234) d_method_4_233 rfl rfl ?_
  refine Go.bipush (pc' := 236) d_method_4_234 rfl icb_14 ?_
  refine Go.bipush (pc' := 238) d_method_4_236 rfl icb_112 ?_
  refine Go.castoreV (pc' := 239) (i := 14) d_method_4_238 rfl (List.mem_of_getElem? (i := 0) rfl) V_b431 (by decide) (by decide) (by simp) ?_
  rw [show nar .char (112 : Int32) = (112 : Int32) from by decide]
  intro h463 W464 V_b431'
  replace E_b427 := E_b427.wr W464
  replace U_b427 := own_unt_wr W464 U_b427
  replace F_b427_coder := F_b427_coder.other W464 (Or.inl o_b427_b431)
  replace F_b427_value := F_b427_value.other W464 (Or.inl o_b427_b431)
  replace E_b431 := E_b431.wr W464
  replace V_b431 : Arv Z h463 b431 q434 .char (23 : Int32) [(.int (117 : Int32)), (.int (110 : Int32)), (.int (114 : Int32)), (.int (101 : Int32)), (.int (99 : Int32)), (.int (111 : Int32)), (.int (103 : Int32)), (.int (110 : Int32)), (.int (105 : Int32)), (.int (122 : Int32)), (.int (101 : Int32)), (.int (100 : Int32)), (.int (32 : Int32)), (.int (111 : Int32)), (.int (112 : Int32)), (.int (0 : Int32)), (.int (0 : Int32)), (.int (0 : Int32)), (.int (0 : Int32)), (.int (0 : Int32)), (.int (0 : Int32)), (.int (0 : Int32)), (.int (0 : Int32))] (.int (0 : Int32)) := V_b431'
  change Go _ _ _ _ _ _ _ _ _ _ _ _ _ _ [b431, b427] h463 2 27 239 #[.val (.int x), .val (.int y), .val (.int z), .val (.int (1 : Int32))] [(.ref b431), (.ref b427), (.ref b427)]
  refine Go.dup (pc' := 240) d_method_4_239 rfl rfl ?_
  refine Go.bipush (pc' := 242) d_method_4_240 rfl icb_15 ?_
  refine Go.bipush (pc' := 244) d_method_4_242 rfl icb_116 ?_
  refine Go.castoreV (pc' := 245) (i := 15) d_method_4_244 rfl (List.mem_of_getElem? (i := 0) rfl) V_b431 (by decide) (by decide) (by simp) ?_
  rw [show nar .char (116 : Int32) = (116 : Int32) from by decide]
  intro h465 W466 V_b431'
  replace E_b427 := E_b427.wr W466
  replace U_b427 := own_unt_wr W466 U_b427
  replace F_b427_coder := F_b427_coder.other W466 (Or.inl o_b427_b431)
  replace F_b427_value := F_b427_value.other W466 (Or.inl o_b427_b431)
  replace E_b431 := E_b431.wr W466
  replace V_b431 : Arv Z h465 b431 q434 .char (23 : Int32) [(.int (117 : Int32)), (.int (110 : Int32)), (.int (114 : Int32)), (.int (101 : Int32)), (.int (99 : Int32)), (.int (111 : Int32)), (.int (103 : Int32)), (.int (110 : Int32)), (.int (105 : Int32)), (.int (122 : Int32)), (.int (101 : Int32)), (.int (100 : Int32)), (.int (32 : Int32)), (.int (111 : Int32)), (.int (112 : Int32)), (.int (116 : Int32)), (.int (0 : Int32)), (.int (0 : Int32)), (.int (0 : Int32)), (.int (0 : Int32)), (.int (0 : Int32)), (.int (0 : Int32)), (.int (0 : Int32))] (.int (0 : Int32)) := V_b431'
  change Go _ _ _ _ _ _ _ _ _ _ _ _ _ _ [b431, b427] h465 2 27 245 #[.val (.int x), .val (.int y), .val (.int z), .val (.int (1 : Int32))] [(.ref b431), (.ref b427), (.ref b427)]
  refine Go.dup (pc' := 246) d_method_4_245 rfl rfl ?_
  refine Go.bipush (pc' := 248) d_method_4_246 rfl icb_16 ?_
  refine Go.bipush (pc' := 250) d_method_4_248 rfl icb_105 ?_
  refine Go.castoreV (pc' := 251) (i := 16) d_method_4_250 rfl (List.mem_of_getElem? (i := 0) rfl) V_b431 (by decide) (by decide) (by simp) ?_
  rw [show nar .char (105 : Int32) = (105 : Int32) from by decide]
  intro h467 W468 V_b431'
  replace E_b427 := E_b427.wr W468
  replace U_b427 := own_unt_wr W468 U_b427
  replace F_b427_coder := F_b427_coder.other W468 (Or.inl o_b427_b431)
  replace F_b427_value := F_b427_value.other W468 (Or.inl o_b427_b431)
  replace E_b431 := E_b431.wr W468
  replace V_b431 : Arv Z h467 b431 q434 .char (23 : Int32) [(.int (117 : Int32)), (.int (110 : Int32)), (.int (114 : Int32)), (.int (101 : Int32)), (.int (99 : Int32)), (.int (111 : Int32)), (.int (103 : Int32)), (.int (110 : Int32)), (.int (105 : Int32)), (.int (122 : Int32)), (.int (101 : Int32)), (.int (100 : Int32)), (.int (32 : Int32)), (.int (111 : Int32)), (.int (112 : Int32)), (.int (116 : Int32)), (.int (105 : Int32)), (.int (0 : Int32)), (.int (0 : Int32)), (.int (0 : Int32)), (.int (0 : Int32)), (.int (0 : Int32)), (.int (0 : Int32))] (.int (0 : Int32)) := V_b431'
  change Go _ _ _ _ _ _ _ _ _ _ _ _ _ _ [b431, b427] h467 2 27 251 #[.val (.int x), .val (.int y), .val (.int z), .val (.int (1 : Int32))] [(.ref b431), (.ref b427), (.ref b427)]
  refine Go.dup (pc' := 252) d_method_4_251 rfl rfl ?_
  refine Go.bipush (pc' := 254) d_method_4_252 rfl icb_17 ?_
  refine Go.bipush (pc' := 256) d_method_4_254 rfl icb_111 ?_
  refine Go.castoreV (pc' := 257) (i := 17) d_method_4_256 rfl (List.mem_of_getElem? (i := 0) rfl) V_b431 (by decide) (by decide) (by simp) ?_
  rw [show nar .char (111 : Int32) = (111 : Int32) from by decide]
  intro h469 W470 V_b431'
  replace E_b427 := E_b427.wr W470
  replace U_b427 := own_unt_wr W470 U_b427
  replace F_b427_coder := F_b427_coder.other W470 (Or.inl o_b427_b431)
  replace F_b427_value := F_b427_value.other W470 (Or.inl o_b427_b431)
  replace E_b431 := E_b431.wr W470
  replace V_b431 : Arv Z h469 b431 q434 .char (23 : Int32) [(.int (117 : Int32)), (.int (110 : Int32)), (.int (114 : Int32)), (.int (101 : Int32)), (.int (99 : Int32)), (.int (111 : Int32)), (.int (103 : Int32)), (.int (110 : Int32)), (.int (105 : Int32)), (.int (122 : Int32)), (.int (101 : Int32)), (.int (100 : Int32)), (.int (32 : Int32)), (.int (111 : Int32)), (.int (112 : Int32)), (.int (116 : Int32)), (.int (105 : Int32)), (.int (111 : Int32)), (.int (0 : Int32)), (.int (0 : Int32)), (.int (0 : Int32)), (.int (0 : Int32)), (.int (0 : Int32))] (.int (0 : Int32)) := V_b431'
  change Go _ _ _ _ _ _ _ _ _ _ _ _ _ _ [b431, b427] h469 2 27 257 #[.val (.int x), .val (.int y), .val (.int z), .val (.int (1 : Int32))] [(.ref b431), (.ref b427), (.ref b427)]
  refine Go.dup (pc' := 258) d_method_4_257 rfl rfl ?_
  refine Go.bipush (pc' := 260) d_method_4_258 rfl icb_18 ?_
  refine Go.bipush (pc' := 262) d_method_4_260 rfl icb_110 ?_
  refine Go.castoreV (pc' := 263) (i := 18) d_method_4_262 rfl (List.mem_of_getElem? (i := 0) rfl) V_b431 (by decide) (by decide) (by simp) ?_
  rw [show nar .char (110 : Int32) = (110 : Int32) from by decide]
  intro h471 W472 V_b431'
  replace E_b427 := E_b427.wr W472
  replace U_b427 := own_unt_wr W472 U_b427
  replace F_b427_coder := F_b427_coder.other W472 (Or.inl o_b427_b431)
  replace F_b427_value := F_b427_value.other W472 (Or.inl o_b427_b431)
  replace E_b431 := E_b431.wr W472
  replace V_b431 : Arv Z h471 b431 q434 .char (23 : Int32) [(.int (117 : Int32)), (.int (110 : Int32)), (.int (114 : Int32)), (.int (101 : Int32)), (.int (99 : Int32)), (.int (111 : Int32)), (.int (103 : Int32)), (.int (110 : Int32)), (.int (105 : Int32)), (.int (122 : Int32)), (.int (101 : Int32)), (.int (100 : Int32)), (.int (32 : Int32)), (.int (111 : Int32)), (.int (112 : Int32)), (.int (116 : Int32)), (.int (105 : Int32)), (.int (111 : Int32)), (.int (110 : Int32)), (.int (0 : Int32)), (.int (0 : Int32)), (.int (0 : Int32)), (.int (0 : Int32))] (.int (0 : Int32)) := V_b431'
  change Go _ _ _ _ _ _ _ _ _ _ _ _ _ _ [b431, b427] h471 2 27 263 #[.val (.int x), .val (.int y), .val (.int z), .val (.int (1 : Int32))] [(.ref b431), (.ref b427), (.ref b427)]
  refine Go.dup (pc' := 264) d_method_4_263 rfl rfl ?_
  refine Go.bipush (pc' := 266) d_method_4_264 rfl icb_19 ?_
  refine Go.bipush (pc' := 268) d_method_4_266 rfl icb_32 ?_
  refine Go.castoreV (pc' := 269) (i := 19) d_method_4_268 rfl (List.mem_of_getElem? (i := 0) rfl) V_b431 (by decide) (by decide) (by simp) ?_
  rw [show nar .char (32 : Int32) = (32 : Int32) from by decide]
  intro h473 W474 V_b431'
  replace E_b427 := E_b427.wr W474
  replace U_b427 := own_unt_wr W474 U_b427
  replace F_b427_coder := F_b427_coder.other W474 (Or.inl o_b427_b431)
  replace F_b427_value := F_b427_value.other W474 (Or.inl o_b427_b431)
  replace E_b431 := E_b431.wr W474
  replace V_b431 : Arv Z h473 b431 q434 .char (23 : Int32) [(.int (117 : Int32)), (.int (110 : Int32)), (.int (114 : Int32)), (.int (101 : Int32)), (.int (99 : Int32)), (.int (111 : Int32)), (.int (103 : Int32)), (.int (110 : Int32)), (.int (105 : Int32)), (.int (122 : Int32)), (.int (101 : Int32)), (.int (100 : Int32)), (.int (32 : Int32)), (.int (111 : Int32)), (.int (112 : Int32)), (.int (116 : Int32)), (.int (105 : Int32)), (.int (111 : Int32)), (.int (110 : Int32)), (.int (32 : Int32)), (.int (0 : Int32)), (.int (0 : Int32)), (.int (0 : Int32))] (.int (0 : Int32)) := V_b431'
  change Go _ _ _ _ _ _ _ _ _ _ _ _ _ _ [b431, b427] h473 2 27 269 #[.val (.int x), .val (.int y), .val (.int z), .val (.int (1 : Int32))] [(.ref b431), (.ref b427), (.ref b427)]
  refine Go.dup (pc' := 270) d_method_4_269 rfl rfl ?_
  refine Go.bipush (pc' := 272) d_method_4_270 rfl icb_20 ?_
  refine Go.bipush (pc' := 274) d_method_4_272 rfl icb_39 ?_
  refine Go.castoreV (pc' := 275) (i := 20) d_method_4_274 rfl (List.mem_of_getElem? (i := 0) rfl) V_b431 (by decide) (by decide) (by simp) ?_
  rw [show nar .char (39 : Int32) = (39 : Int32) from by decide]
  intro h475 W476 V_b431'
  replace E_b427 := E_b427.wr W476
  replace U_b427 := own_unt_wr W476 U_b427
  replace F_b427_coder := F_b427_coder.other W476 (Or.inl o_b427_b431)
  replace F_b427_value := F_b427_value.other W476 (Or.inl o_b427_b431)
  replace E_b431 := E_b431.wr W476
  replace V_b431 : Arv Z h475 b431 q434 .char (23 : Int32) [(.int (117 : Int32)), (.int (110 : Int32)), (.int (114 : Int32)), (.int (101 : Int32)), (.int (99 : Int32)), (.int (111 : Int32)), (.int (103 : Int32)), (.int (110 : Int32)), (.int (105 : Int32)), (.int (122 : Int32)), (.int (101 : Int32)), (.int (100 : Int32)), (.int (32 : Int32)), (.int (111 : Int32)), (.int (112 : Int32)), (.int (116 : Int32)), (.int (105 : Int32)), (.int (111 : Int32)), (.int (110 : Int32)), (.int (32 : Int32)), (.int (39 : Int32)), (.int (0 : Int32)), (.int (0 : Int32))] (.int (0 : Int32)) := V_b431'
  change Go _ _ _ _ _ _ _ _ _ _ _ _ _ _ [b431, b427] h475 2 27 275 #[.val (.int x), .val (.int y), .val (.int z), .val (.int (1 : Int32))] [(.ref b431), (.ref b427), (.ref b427)]
  refine Go.dup (pc' := 276) d_method_4_275 rfl rfl ?_
  refine Go.bipush (pc' := 278) d_method_4_276 rfl icb_21 ?_
  refine Go.iload_n (pc' := 279) d_method_4_278 rfl rfl ?_
  refine Go.castoreV (pc' := 280) (i := 21) d_method_4_279 rfl (List.mem_of_getElem? (i := 0) rfl) V_b431 (by decide) (by decide) (by simp) ?_
  rw [nar_char hx_x.1 (le255 hx_x.2)]
  intro h477 W478 V_b431'
  replace E_b427 := E_b427.wr W478
  replace U_b427 := own_unt_wr W478 U_b427
  replace F_b427_coder := F_b427_coder.other W478 (Or.inl o_b427_b431)
  replace F_b427_value := F_b427_value.other W478 (Or.inl o_b427_b431)
  replace E_b431 := E_b431.wr W478
  replace V_b431 : Arv Z h477 b431 q434 .char (23 : Int32) [(.int (117 : Int32)), (.int (110 : Int32)), (.int (114 : Int32)), (.int (101 : Int32)), (.int (99 : Int32)), (.int (111 : Int32)), (.int (103 : Int32)), (.int (110 : Int32)), (.int (105 : Int32)), (.int (122 : Int32)), (.int (101 : Int32)), (.int (100 : Int32)), (.int (32 : Int32)), (.int (111 : Int32)), (.int (112 : Int32)), (.int (116 : Int32)), (.int (105 : Int32)), (.int (111 : Int32)), (.int (110 : Int32)), (.int (32 : Int32)), (.int (39 : Int32)), (.int x), (.int (0 : Int32))] (.int (0 : Int32)) := V_b431'
  change Go _ _ _ _ _ _ _ _ _ _ _ _ _ _ [b431, b427] h477 2 27 280 #[.val (.int x), .val (.int y), .val (.int z), .val (.int (1 : Int32))] [(.ref b431), (.ref b427), (.ref b427)]
  refine Go.dup (pc' := 281) d_method_4_280 rfl rfl ?_
  refine Go.bipush (pc' := 283) d_method_4_281 rfl icb_22 ?_
  refine Go.bipush (pc' := 285) d_method_4_283 rfl icb_39 ?_
  refine Go.castoreV (pc' := 286) (i := 22) d_method_4_285 rfl (List.mem_of_getElem? (i := 0) rfl) V_b431 (by decide) (by decide) (by simp) ?_
  rw [show nar .char (39 : Int32) = (39 : Int32) from by decide]
  intro h479 W480 V_b431'
  replace E_b427 := E_b427.wr W480
  replace U_b427 := own_unt_wr W480 U_b427
  replace F_b427_coder := F_b427_coder.other W480 (Or.inl o_b427_b431)
  replace F_b427_value := F_b427_value.other W480 (Or.inl o_b427_b431)
  replace E_b431 := E_b431.wr W480
  replace V_b431 : Arv Z h479 b431 q434 .char (23 : Int32) [(.int (117 : Int32)), (.int (110 : Int32)), (.int (114 : Int32)), (.int (101 : Int32)), (.int (99 : Int32)), (.int (111 : Int32)), (.int (103 : Int32)), (.int (110 : Int32)), (.int (105 : Int32)), (.int (122 : Int32)), (.int (101 : Int32)), (.int (100 : Int32)), (.int (32 : Int32)), (.int (111 : Int32)), (.int (112 : Int32)), (.int (116 : Int32)), (.int (105 : Int32)), (.int (111 : Int32)), (.int (110 : Int32)), (.int (32 : Int32)), (.int (39 : Int32)), (.int x), (.int (39 : Int32))] (.int (0 : Int32)) := V_b431'
  change Go _ _ _ _ _ _ _ _ _ _ _ _ _ _ [b431, b427] h479 2 27 286 #[.val (.int x), .val (.int y), .val (.int z), .val (.int (1 : Int32))] [(.ref b431), (.ref b427), (.ref b427)]
  replace V_b431 : Arv Z h479 b431 q434 .char (23 : Int32) ([(117 : Int32), (110 : Int32), (114 : Int32), (101 : Int32), (99 : Int32), (111 : Int32), (103 : Int32), (110 : Int32), (105 : Int32), (122 : Int32), (101 : Int32), (100 : Int32), (32 : Int32), (111 : Int32), (112 : Int32), (116 : Int32), (105 : Int32), (111 : Int32), (110 : Int32), (32 : Int32), (39 : Int32), x, (39 : Int32)].map Value.int) (.int (0 : Int32)) := V_b431
  refine Go.callI (pc' := 289) (z := N_35) (a := b427) d_method_4_286 rfl rfl (w_8 hw) (w_9 hw) (w_10 hw) (by decide) (argsL := [(.ref b431)]) (rest := [(.ref b427)]) (Pays.of_met (W := 1) (len := 3) (m_str hw hs b427 b431 q434 [(117 : Int32), (110 : Int32), (114 : Int32), (101 : Int32), (99 : Int32), (111 : Int32), (103 : Int32), (110 : Int32), (105 : Int32), (122 : Int32), (101 : Int32), (100 : Int32), (32 : Int32), (111 : Int32), (112 : Int32), (116 : Int32), (105 : Int32), (111 : Int32), (110 : Int32), (32 : Int32), (39 : Int32), x, (39 : Int32)] (23 : Int32) h479 E_b427 F_b427_coder F_b427_value V_b431 (show (23 : Int32).toNatClampNeg = 23 from by decide) ((own_cons (P := fun x => ¬ x < 0 ∧ ¬ 255 < x) (by decide) (own_cons (P := fun x => ¬ x < 0 ∧ ¬ 255 < x) (by decide) (own_cons (P := fun x => ¬ x < 0 ∧ ¬ 255 < x) (by decide) (own_cons (P := fun x => ¬ x < 0 ∧ ¬ 255 < x) (by decide) (own_cons (P := fun x => ¬ x < 0 ∧ ¬ 255 < x) (by decide) (own_cons (P := fun x => ¬ x < 0 ∧ ¬ 255 < x) (by decide) (own_cons (P := fun x => ¬ x < 0 ∧ ¬ 255 < x) (by decide) (own_cons (P := fun x => ¬ x < 0 ∧ ¬ 255 < x) (by decide) (own_cons (P := fun x => ¬ x < 0 ∧ ¬ 255 < x) (by decide) (own_cons (P := fun x => ¬ x < 0 ∧ ¬ 255 < x) (by decide) (own_cons (P := fun x => ¬ x < 0 ∧ ¬ 255 < x) (by decide) (own_cons (P := fun x => ¬ x < 0 ∧ ¬ 255 < x) (by decide) (own_cons (P := fun x => ¬ x < 0 ∧ ¬ 255 < x) (by decide) (own_cons (P := fun x => ¬ x < 0 ∧ ¬ 255 < x) (by decide) (own_cons (P := fun x => ¬ x < 0 ∧ ¬ 255 < x) (by decide) (own_cons (P := fun x => ¬ x < 0 ∧ ¬ 255 < x) (by decide) (own_cons (P := fun x => ¬ x < 0 ∧ ¬ 255 < x) (by decide) (own_cons (P := fun x => ¬ x < 0 ∧ ¬ 255 < x) (by decide) (own_cons (P := fun x => ¬ x < 0 ∧ ¬ 255 < x) (by decide) (own_cons (P := fun x => ¬ x < 0 ∧ ¬ 255 < x) (by decide) (own_cons (P := fun x => ¬ x < 0 ∧ ¬ 255 < x) (by decide) (own_cons (P := fun x => ¬ x < 0 ∧ ¬ 255 < x) hx_x (own_one (P := fun x => ¬ x < 0 ∧ ¬ 255 < x) (by decide))))))))))))))))))))))))) (List.cons_ne_nil _ _) (by decide) (Ne.symm o_b427_b431)) (w_10 hw) (w_6 hw) (by decide) (by decide)) rfl rfl (lenOf pd_26 rfl) rfl (Nat.le_of_eq rfl) (memS (List.mem_of_getElem? (i := 1) rfl) mem0) (by decide) (by decide) ?_
  rintro _ h483 _ K484 le485 ⟨b481, q482, rfl, rfl, p486, p487, p488, p489, p490⟩
  have o_b427_b481 : b427 ≠ b481 := Nat.ne_of_lt (Nat.lt_of_lt_of_le E_b427.lt p490)
  have o_b431_b481 : b431 ≠ b481 := Nat.ne_of_lt (Nat.lt_of_lt_of_le E_b431.lt p490)
  have ge_b481 := Nat.le_trans le485 p490
  replace E_b427 := E_b427.keep K484
  replace E_b431 := E_b431.keep K484
  replace V_b431 := V_b431.keep K484 (ninS (Ne.symm o_b427_b431) nin0)
  have F_b427_coder := p487
  have F_b427_value := p488
  have V_b481 := p489
  change Go _ _ _ _ _ _ _ _ _ _ _ _ _ _ [b431, b427] h483 3 52 289 #[.val (.int x), .val (.int y), .val (.int z), .val (.int (1 : Int32))] [(.ref b427)]
  replace V_b481 : Arv Z h483 b481 q482 .byte (23 : Int32) ([(117 : Int32).toInt8.toInt32, (110 : Int32).toInt8.toInt32, (114 : Int32).toInt8.toInt32, (101 : Int32).toInt8.toInt32, (99 : Int32).toInt8.toInt32, (111 : Int32).toInt8.toInt32, (103 : Int32).toInt8.toInt32, (110 : Int32).toInt8.toInt32, (105 : Int32).toInt8.toInt32, (122 : Int32).toInt8.toInt32, (101 : Int32).toInt8.toInt32, (100 : Int32).toInt8.toInt32, (32 : Int32).toInt8.toInt32, (111 : Int32).toInt8.toInt32, (112 : Int32).toInt8.toInt32, (116 : Int32).toInt8.toInt32, (105 : Int32).toInt8.toInt32, (111 : Int32).toInt8.toInt32, (110 : Int32).toInt8.toInt32, (32 : Int32).toInt8.toInt32, (39 : Int32).toInt8.toInt32, x.toInt8.toInt32, (39 : Int32).toInt8.toInt32].map Value.int) (.int (0 : Int32)) := V_b481
  rw [show [(117 : Int32).toInt8.toInt32, (110 : Int32).toInt8.toInt32, (114 : Int32).toInt8.toInt32, (101 : Int32).toInt8.toInt32, (99 : Int32).toInt8.toInt32, (111 : Int32).toInt8.toInt32, (103 : Int32).toInt8.toInt32, (110 : Int32).toInt8.toInt32, (105 : Int32).toInt8.toInt32, (122 : Int32).toInt8.toInt32, (101 : Int32).toInt8.toInt32, (100 : Int32).toInt8.toInt32, (32 : Int32).toInt8.toInt32, (111 : Int32).toInt8.toInt32, (112 : Int32).toInt8.toInt32, (116 : Int32).toInt8.toInt32, (105 : Int32).toInt8.toInt32, (111 : Int32).toInt8.toInt32, (110 : Int32).toInt8.toInt32, (32 : Int32).toInt8.toInt32, (39 : Int32).toInt8.toInt32, x.toInt8.toInt32, (39 : Int32).toInt8.toInt32] = [(117 : Int32), (110 : Int32), (114 : Int32), (101 : Int32), (99 : Int32), (111 : Int32), (103 : Int32), (110 : Int32), (105 : Int32), (122 : Int32), (101 : Int32), (100 : Int32), (32 : Int32), (111 : Int32), (112 : Int32), (116 : Int32), (105 : Int32), (111 : Int32), (110 : Int32), (32 : Int32), (39 : Int32), x.toInt8.toInt32, (39 : Int32)] from by rw [lc_100, lc_101, lc_103, lc_105, lc_110, lc_111, lc_112, lc_114, lc_116, lc_117, lc_122, lc_32, lc_39, lc_99]] at V_b481
  exact Go.retA d_method_4_289 rfl rfl rfl (by decide) (by decide) [] sn0 ⟨b427, b481, _, rfl, rfl, E_b427, F_b427_coder, F_b427_value, V_b481⟩
abbrev R_m_expected2 : Room := { frames := 4, cells := 3, slots := 53, locals := 66 }
theorem pn_m_expected2 : plainFor (⟨"com/example/slackline/slackline/UsageExceptionUnrecognizedOptionPinLaw", "expected", "(CCCI)Ljava/lang/String;"⟩ : MethodName) = true := by first | (refine plainFor_of_name ?_; simp [plainName, overriddenIn]; done) | decide +kernel
abbrev Q_m_expected2 (Z : State) (x : Int32) (y : Int32) (z : Int32) (h0 : Heap) : Option Value → Heap → List Addr → Prop := fun res h' SN => ∃ (s : Addr) (t : Addr) (kt : ClassId), res = some (.ref s) ∧ SN = [] ∧ Exa Z h' s "java/lang/String" ∧ Fld Z h' s "java/lang/String" "coder" "B" (.int (0 : Int32)) ∧ Fld Z h' s "java/lang/String" "value" "[B" (.ref t) ∧ Arv Z h' t kt .byte (24 : Int32) ([(117 : Int32), (110 : Int32), (114 : Int32), (101 : Int32), (99 : Int32), (111 : Int32), (103 : Int32), (110 : Int32), (105 : Int32), (122 : Int32), (101 : Int32), (100 : Int32), (32 : Int32), (111 : Int32), (112 : Int32), (116 : Int32), (105 : Int32), (111 : Int32), (110 : Int32), (32 : Int32), (39 : Int32), x.toInt8.toInt32, y.toInt8.toInt32, (39 : Int32)].map Value.int) (.int (0 : Int32))
theorem ef_m_expected2 (mid : MethodId) (x : Int32) (y : Int32) (z : Int32) : entryFrame mid #[(.int x), (.int y), (.int z), (.int (2 : Int32))] 4 = mkF mid 0 #[.val (.int x), .val (.int y), .val (.int z), .val (.int (2 : Int32))] [] := by first | (simp [entryFrame, mkF, argsToLocals, Value.category]; done) | rfl
set_option maxRecDepth 65536 in
set_option maxHeartbeats 40000000 in
theorem m_expected2 {l : Launch} {Z : State} {a0 : Array Value} {n0 : Nat} (hw : ∀ d ∈ tables_1, d.before a0 Z = true) (hs : Stat Z) (x : Int32) (y : Int32) (z : Int32) (h0 : Heap) (hx_x : ¬ x < 0 ∧ ¬ 255 < x) (hx_y : ¬ y < 0 ∧ ¬ 255 < y) (hx_z : ¬ z < 0 ∧ ¬ 255 < z) :
    Met l Z EL0 n0 NR0 KN0 N_39 method_4_code 4 (Option.some (Jvm.ClassFile.FieldType.object "java/lang/String")) R_m_expected2 [] #[(.int x), (.int y), (.int z), (.int (2 : Int32))] h0 (Q_m_expected2 Z x y z h0) := by
  refine Met.of_go pn_m_expected2 (fun mid => ef_m_expected2 mid x y z ) ?_
  intro hO hWS
  refine Go.iload_n (pc' := 1) d_method_4_0 rfl rfl ?_
  refine Go.ifY (pc' := 142) d_method_4_1 (by decide) (by decide) ((if0 _ _).trans (feq (by decide : ¬ ((2 : Int32) = (0 : Int32)))).2) ?_
  refine Go.iload_n (pc' := 143) d_method_4_142 rfl rfl ?_
  refine Go.iconst (pc' := 144) d_method_4_143 rfl ic_1 ?_
  refine Go.icmpY (pc' := 290) d_method_4_144 (by decide) (by decide) (feq (by decide : ¬ ((2 : Int32) = (1 : Int32)))).2 ?_
  refine Go.iload_n (pc' := 291) d_method_4_290 rfl rfl ?_
  refine Go.iconst (pc' := 292) d_method_4_291 rfl ic_2 ?_
  refine Go.icmpN (pc' := 295) d_method_4_292 rfl (teq (rfl : (2 : Int32) = (2 : Int32))).2 ?_
  refine Go.newO (pc' := 298) d_method_4_295 rfl (w_4 hw) (w_5 hw) (w_6 hw) (by decide) (by decide) ?_
  intro h491 b492 g493 ge_b492 x494 E_b492 D_b492 U_b492
  have F_b492_coder : Fld Z h491 b492 "java/lang/String" "coder" "B" (.int (0 : Int32)) := D_b492 (Or.inr (w_31 hw)) (ty := .byte) (by decide)
  have F_b492_value : Fld Z h491 b492 "java/lang/String" "value" "[B" .null := D_b492 (Or.inr (w_33 hw)) (ty := (.array .byte)) (by decide)
  change Go _ _ _ _ _ _ _ _ _ _ _ _ _ _ [b492] h491 1 4 298 #[.val (.int x), .val (.int y), .val (.int z), .val (.int (2 : Int32))] [(.ref b492)]
  refine Go.dup (pc' := 299) d_method_4_298 rfl rfl ?_
  refine Go.bipush (pc' := 301) d_method_4_299 rfl icb_24 ?_
  refine Go.newP (pc' := 303) (cap := 24) (ad := "[C") d_method_4_301 rfl (w_7 hw) (by decide) (by decide) (by decide) (by decide) (by decide) (by decide) ?_
  intro h495 b496 g497 ge_b496 q499 x498 V_b496 E_b496
  have o_b492_b496 : b492 ≠ b496 := Nat.ne_of_lt (Nat.lt_of_lt_of_le E_b492.lt (Nat.le_of_eq g497))
  replace E_b492 := E_b492.ext x498
  replace U_b492 := unt_ext x498 U_b492
  replace F_b492_coder := F_b492_coder.ext x498
  replace F_b492_value := F_b492_value.ext x498
  replace V_b496 : Arv Z h495 b496 q499 .char (24 : Int32) [(.int (0 : Int32)), (.int (0 : Int32)), (.int (0 : Int32)), (.int (0 : Int32)), (.int (0 : Int32)), (.int (0 : Int32)), (.int (0 : Int32)), (.int (0 : Int32)), (.int (0 : Int32)), (.int (0 : Int32)), (.int (0 : Int32)), (.int (0 : Int32)), (.int (0 : Int32)), (.int (0 : Int32)), (.int (0 : Int32)), (.int (0 : Int32)), (.int (0 : Int32)), (.int (0 : Int32)), (.int (0 : Int32)), (.int (0 : Int32)), (.int (0 : Int32)), (.int (0 : Int32)), (.int (0 : Int32)), (.int (0 : Int32))] (.int (0 : Int32)) := V_b496.pad (pad_rep [] _ 24)
  change Go _ _ _ _ _ _ _ _ _ _ _ _ _ _ [b496, b492] h495 2 28 303 #[.val (.int x), .val (.int y), .val (.int z), .val (.int (2 : Int32))] [(.ref b496), (.ref b492), (.ref b492)]
  refine Go.dup (pc' := 304) d_method_4_303 rfl rfl ?_
  refine Go.iconst (pc' := 305) d_method_4_304 rfl ic_0 ?_
  refine Go.bipush (pc' := 307) d_method_4_305 rfl icb_117 ?_
  refine Go.castoreV (pc' := 308) (i := 0) d_method_4_307 rfl (List.mem_of_getElem? (i := 0) rfl) V_b496 (by decide) (by decide) (by simp) ?_
  rw [show nar .char (117 : Int32) = (117 : Int32) from by decide]
  intro h500 W501 V_b496'
  replace E_b492 := E_b492.wr W501
  replace U_b492 := own_unt_wr W501 U_b492
  replace F_b492_coder := F_b492_coder.other W501 (Or.inl o_b492_b496)
  replace F_b492_value := F_b492_value.other W501 (Or.inl o_b492_b496)
  replace E_b496 := E_b496.wr W501
  replace V_b496 : Arv Z h500 b496 q499 .char (24 : Int32) [(.int (117 : Int32)), (.int (0 : Int32)), (.int (0 : Int32)), (.int (0 : Int32)), (.int (0 : Int32)), (.int (0 : Int32)), (.int (0 : Int32)), (.int (0 : Int32)), (.int (0 : Int32)), (.int (0 : Int32)), (.int (0 : Int32)), (.int (0 : Int32)), (.int (0 : Int32)), (.int (0 : Int32)), (.int (0 : Int32)), (.int (0 : Int32)), (.int (0 : Int32)), (.int (0 : Int32)), (.int (0 : Int32)), (.int (0 : Int32)), (.int (0 : Int32)), (.int (0 : Int32)), (.int (0 : Int32)), (.int (0 : Int32))] (.int (0 : Int32)) := V_b496'
  change Go _ _ _ _ _ _ _ _ _ _ _ _ _ _ [b496, b492] h500 2 28 308 #[.val (.int x), .val (.int y), .val (.int z), .val (.int (2 : Int32))] [(.ref b496), (.ref b492), (.ref b492)]
  refine Go.dup (pc' := 309) d_method_4_308 rfl rfl ?_
  refine Go.iconst (pc' := 310) d_method_4_309 rfl ic_1 ?_
  refine Go.bipush (pc' := 312) d_method_4_310 rfl icb_110 ?_
  refine Go.castoreV (pc' := 313) (i := 1) d_method_4_312 rfl (List.mem_of_getElem? (i := 0) rfl) V_b496 (by decide) (by decide) (by simp) ?_
  rw [show nar .char (110 : Int32) = (110 : Int32) from by decide]
  intro h502 W503 V_b496'
  replace E_b492 := E_b492.wr W503
  replace U_b492 := own_unt_wr W503 U_b492
  replace F_b492_coder := F_b492_coder.other W503 (Or.inl o_b492_b496)
  replace F_b492_value := F_b492_value.other W503 (Or.inl o_b492_b496)
  replace E_b496 := E_b496.wr W503
  replace V_b496 : Arv Z h502 b496 q499 .char (24 : Int32) [(.int (117 : Int32)), (.int (110 : Int32)), (.int (0 : Int32)), (.int (0 : Int32)), (.int (0 : Int32)), (.int (0 : Int32)), (.int (0 : Int32)), (.int (0 : Int32)), (.int (0 : Int32)), (.int (0 : Int32)), (.int (0 : Int32)), (.int (0 : Int32)), (.int (0 : Int32)), (.int (0 : Int32)), (.int (0 : Int32)), (.int (0 : Int32)), (.int (0 : Int32)), (.int (0 : Int32)), (.int (0 : Int32)), (.int (0 : Int32)), (.int (0 : Int32)), (.int (0 : Int32)), (.int (0 : Int32)), (.int (0 : Int32))] (.int (0 : Int32)) := V_b496'
  change Go _ _ _ _ _ _ _ _ _ _ _ _ _ _ [b496, b492] h502 2 28 313 #[.val (.int x), .val (.int y), .val (.int z), .val (.int (2 : Int32))] [(.ref b496), (.ref b492), (.ref b492)]
  refine Go.dup (pc' := 314) d_method_4_313 rfl rfl ?_
  refine Go.iconst (pc' := 315) d_method_4_314 rfl ic_2 ?_
  refine Go.bipush (pc' := 317) d_method_4_315 rfl icb_114 ?_
  refine Go.castoreV (pc' := 318) (i := 2) d_method_4_317 rfl (List.mem_of_getElem? (i := 0) rfl) V_b496 (by decide) (by decide) (by simp) ?_
  rw [show nar .char (114 : Int32) = (114 : Int32) from by decide]
  intro h504 W505 V_b496'
  replace E_b492 := E_b492.wr W505
  replace U_b492 := own_unt_wr W505 U_b492
  replace F_b492_coder := F_b492_coder.other W505 (Or.inl o_b492_b496)
  replace F_b492_value := F_b492_value.other W505 (Or.inl o_b492_b496)
  replace E_b496 := E_b496.wr W505
  replace V_b496 : Arv Z h504 b496 q499 .char (24 : Int32) [(.int (117 : Int32)), (.int (110 : Int32)), (.int (114 : Int32)), (.int (0 : Int32)), (.int (0 : Int32)), (.int (0 : Int32)), (.int (0 : Int32)), (.int (0 : Int32)), (.int (0 : Int32)), (.int (0 : Int32)), (.int (0 : Int32)), (.int (0 : Int32)), (.int (0 : Int32)), (.int (0 : Int32)), (.int (0 : Int32)), (.int (0 : Int32)), (.int (0 : Int32)), (.int (0 : Int32)), (.int (0 : Int32)), (.int (0 : Int32)), (.int (0 : Int32)), (.int (0 : Int32)), (.int (0 : Int32)), (.int (0 : Int32))] (.int (0 : Int32)) := V_b496'
  change Go _ _ _ _ _ _ _ _ _ _ _ _ _ _ [b496, b492] h504 2 28 318 #[.val (.int x), .val (.int y), .val (.int z), .val (.int (2 : Int32))] [(.ref b496), (.ref b492), (.ref b492)]
  refine Go.dup (pc' := 319) d_method_4_318 rfl rfl ?_
  refine Go.iconst (pc' := 320) d_method_4_319 rfl ic_3 ?_
  refine Go.bipush (pc' := 322) d_method_4_320 rfl icb_101 ?_
  refine Go.castoreV (pc' := 323) (i := 3) d_method_4_322 rfl (List.mem_of_getElem? (i := 0) rfl) V_b496 (by decide) (by decide) (by simp) ?_
  rw [show nar .char (101 : Int32) = (101 : Int32) from by decide]
  intro h506 W507 V_b496'
  replace E_b492 := E_b492.wr W507
  replace U_b492 := own_unt_wr W507 U_b492
  replace F_b492_coder := F_b492_coder.other W507 (Or.inl o_b492_b496)
  replace F_b492_value := F_b492_value.other W507 (Or.inl o_b492_b496)
  replace E_b496 := E_b496.wr W507
  replace V_b496 : Arv Z h506 b496 q499 .char (24 : Int32) [(.int (117 : Int32)), (.int (110 : Int32)), (.int (114 : Int32)), (.int (101 : Int32)), (.int (0 : Int32)), (.int (0 : Int32)), (.int (0 : Int32)), (.int (0 : Int32)), (.int (0 : Int32)), (.int (0 : Int32)), (.int (0 : Int32)), (.int (0 : Int32)), (.int (0 : Int32)), (.int (0 : Int32)), (.int (0 : Int32)), (.int (0 : Int32)), (.int (0 : Int32)), (.int (0 : Int32)), (.int (0 : Int32)), (.int (0 : Int32)), (.int (0 : Int32)), (.int (0 : Int32)), (.int (0 : Int32)), (.int (0 : Int32))] (.int (0 : Int32)) := V_b496'
  change Go _ _ _ _ _ _ _ _ _ _ _ _ _ _ [b496, b492] h506 2 28 323 #[.val (.int x), .val (.int y), .val (.int z), .val (.int (2 : Int32))] [(.ref b496), (.ref b492), (.ref b492)]
  refine Go.dup (pc' := 324) d_method_4_323 rfl rfl ?_
  refine Go.iconst (pc' := 325) d_method_4_324 rfl ic_4 ?_
  refine Go.bipush (pc' := 327) d_method_4_325 rfl icb_99 ?_
  refine Go.castoreV (pc' := 328) (i := 4) d_method_4_327 rfl (List.mem_of_getElem? (i := 0) rfl) V_b496 (by decide) (by decide) (by simp) ?_
  rw [show nar .char (99 : Int32) = (99 : Int32) from by decide]
  intro h508 W509 V_b496'
  replace E_b492 := E_b492.wr W509
  replace U_b492 := own_unt_wr W509 U_b492
  replace F_b492_coder := F_b492_coder.other W509 (Or.inl o_b492_b496)
  replace F_b492_value := F_b492_value.other W509 (Or.inl o_b492_b496)
  replace E_b496 := E_b496.wr W509
  replace V_b496 : Arv Z h508 b496 q499 .char (24 : Int32) [(.int (117 : Int32)), (.int (110 : Int32)), (.int (114 : Int32)), (.int (101 : Int32)), (.int (99 : Int32)), (.int (0 : Int32)), (.int (0 : Int32)), (.int (0 : Int32)), (.int (0 : Int32)), (.int (0 : Int32)), (.int (0 : Int32)), (.int (0 : Int32)), (.int (0 : Int32)), (.int (0 : Int32)), (.int (0 : Int32)), (.int (0 : Int32)), (.int (0 : Int32)), (.int (0 : Int32)), (.int (0 : Int32)), (.int (0 : Int32)), (.int (0 : Int32)), (.int (0 : Int32)), (.int (0 : Int32)), (.int (0 : Int32))] (.int (0 : Int32)) := V_b496'
  change Go _ _ _ _ _ _ _ _ _ _ _ _ _ _ [b496, b492] h508 2 28 328 #[.val (.int x), .val (.int y), .val (.int z), .val (.int (2 : Int32))] [(.ref b496), (.ref b492), (.ref b492)]
  refine Go.dup (pc' := 329) d_method_4_328 rfl rfl ?_
  refine Go.iconst (pc' := 330) d_method_4_329 rfl ic_5 ?_
  refine Go.bipush (pc' := 332) d_method_4_330 rfl icb_111 ?_
  refine Go.castoreV (pc' := 333) (i := 5) d_method_4_332 rfl (List.mem_of_getElem? (i := 0) rfl) V_b496 (by decide) (by decide) (by simp) ?_
  rw [show nar .char (111 : Int32) = (111 : Int32) from by decide]
  intro h510 W511 V_b496'
  replace E_b492 := E_b492.wr W511
  replace U_b492 := own_unt_wr W511 U_b492
  replace F_b492_coder := F_b492_coder.other W511 (Or.inl o_b492_b496)
  replace F_b492_value := F_b492_value.other W511 (Or.inl o_b492_b496)
  replace E_b496 := E_b496.wr W511
  replace V_b496 : Arv Z h510 b496 q499 .char (24 : Int32) [(.int (117 : Int32)), (.int (110 : Int32)), (.int (114 : Int32)), (.int (101 : Int32)), (.int (99 : Int32)), (.int (111 : Int32)), (.int (0 : Int32)), (.int (0 : Int32)), (.int (0 : Int32)), (.int (0 : Int32)), (.int (0 : Int32)), (.int (0 : Int32)), (.int (0 : Int32)), (.int (0 : Int32)), (.int (0 : Int32)), (.int (0 : Int32)), (.int (0 : Int32)), (.int (0 : Int32)), (.int (0 : Int32)), (.int (0 : Int32)), (.int (0 : Int32)), (.int (0 : Int32)), (.int (0 : Int32)), (.int (0 : Int32))] (.int (0 : Int32)) := V_b496'
  change Go _ _ _ _ _ _ _ _ _ _ _ _ _ _ [b496, b492] h510 2 28 333 #[.val (.int x), .val (.int y), .val (.int z), .val (.int (2 : Int32))] [(.ref b496), (.ref b492), (.ref b492)]
  refine Go.dup (pc' := 334) d_method_4_333 rfl rfl ?_
  refine Go.bipush (pc' := 336) d_method_4_334 rfl icb_6 ?_
  refine Go.bipush (pc' := 338) d_method_4_336 rfl icb_103 ?_
  refine Go.castoreV (pc' := 339) (i := 6) d_method_4_338 rfl (List.mem_of_getElem? (i := 0) rfl) V_b496 (by decide) (by decide) (by simp) ?_
  rw [show nar .char (103 : Int32) = (103 : Int32) from by decide]
  intro h512 W513 V_b496'
  replace E_b492 := E_b492.wr W513
  replace U_b492 := own_unt_wr W513 U_b492
  replace F_b492_coder := F_b492_coder.other W513 (Or.inl o_b492_b496)
  replace F_b492_value := F_b492_value.other W513 (Or.inl o_b492_b496)
  replace E_b496 := E_b496.wr W513
  replace V_b496 : Arv Z h512 b496 q499 .char (24 : Int32) [(.int (117 : Int32)), (.int (110 : Int32)), (.int (114 : Int32)), (.int (101 : Int32)), (.int (99 : Int32)), (.int (111 : Int32)), (.int (103 : Int32)), (.int (0 : Int32)), (.int (0 : Int32)), (.int (0 : Int32)), (.int (0 : Int32)), (.int (0 : Int32)), (.int (0 : Int32)), (.int (0 : Int32)), (.int (0 : Int32)), (.int (0 : Int32)), (.int (0 : Int32)), (.int (0 : Int32)), (.int (0 : Int32)), (.int (0 : Int32)), (.int (0 : Int32)), (.int (0 : Int32)), (.int (0 : Int32)), (.int (0 : Int32))] (.int (0 : Int32)) := V_b496'
  change Go _ _ _ _ _ _ _ _ _ _ _ _ _ _ [b496, b492] h512 2 28 339 #[.val (.int x), .val (.int y), .val (.int z), .val (.int (2 : Int32))] [(.ref b496), (.ref b492), (.ref b492)]
  refine Go.dup (pc' := 340) d_method_4_339 rfl rfl ?_
  refine Go.bipush (pc' := 342) d_method_4_340 rfl icb_7 ?_
  refine Go.bipush (pc' := 344) d_method_4_342 rfl icb_110 ?_
  refine Go.castoreV (pc' := 345) (i := 7) d_method_4_344 rfl (List.mem_of_getElem? (i := 0) rfl) V_b496 (by decide) (by decide) (by simp) ?_
  rw [show nar .char (110 : Int32) = (110 : Int32) from by decide]
  intro h514 W515 V_b496'
  replace E_b492 := E_b492.wr W515
  replace U_b492 := own_unt_wr W515 U_b492
  replace F_b492_coder := F_b492_coder.other W515 (Or.inl o_b492_b496)
  replace F_b492_value := F_b492_value.other W515 (Or.inl o_b492_b496)
  replace E_b496 := E_b496.wr W515
  replace V_b496 : Arv Z h514 b496 q499 .char (24 : Int32) [(.int (117 : Int32)), (.int (110 : Int32)), (.int (114 : Int32)), (.int (101 : Int32)), (.int (99 : Int32)), (.int (111 : Int32)), (.int (103 : Int32)), (.int (110 : Int32)), (.int (0 : Int32)), (.int (0 : Int32)), (.int (0 : Int32)), (.int (0 : Int32)), (.int (0 : Int32)), (.int (0 : Int32)), (.int (0 : Int32)), (.int (0 : Int32)), (.int (0 : Int32)), (.int (0 : Int32)), (.int (0 : Int32)), (.int (0 : Int32)), (.int (0 : Int32)), (.int (0 : Int32)), (.int (0 : Int32)), (.int (0 : Int32))] (.int (0 : Int32)) := V_b496'
  change Go _ _ _ _ _ _ _ _ _ _ _ _ _ _ [b496, b492] h514 2 28 345 #[.val (.int x), .val (.int y), .val (.int z), .val (.int (2 : Int32))] [(.ref b496), (.ref b492), (.ref b492)]
  refine Go.dup (pc' := 346) d_method_4_345 rfl rfl ?_
  refine Go.bipush (pc' := 348) d_method_4_346 rfl icb_8 ?_
  refine Go.bipush (pc' := 350) d_method_4_348 rfl icb_105 ?_
  refine Go.castoreV (pc' := 351) (i := 8) d_method_4_350 rfl (List.mem_of_getElem? (i := 0) rfl) V_b496 (by decide) (by decide) (by simp) ?_
  rw [show nar .char (105 : Int32) = (105 : Int32) from by decide]
  intro h516 W517 V_b496'
  replace E_b492 := E_b492.wr W517
  replace U_b492 := own_unt_wr W517 U_b492
  replace F_b492_coder := F_b492_coder.other W517 (Or.inl o_b492_b496)
  replace F_b492_value := F_b492_value.other W517 (Or.inl o_b492_b496)
  replace E_b496 := E_b496.wr W517
  replace V_b496 : Arv Z h516 b496 q499 .char (24 : Int32) [(.int (117 : Int32)), (.int (110 : Int32)), (.int (114 : Int32)), (.int (101 : Int32)), (.int (99 : Int32)), (.int (111 : Int32)), (.int (103 : Int32)), (.int (110 : Int32)), (.int (105 : Int32)), (.int (0 : Int32)), (.int (0 : Int32)), (.int (0 : Int32)), (.int (0 : Int32)), (.int (0 : Int32)), (.int (0 : Int32)), (.int (0 : Int32)), (.int (0 : Int32)), (.int (0 : Int32)), (.int (0 : Int32)), (.int (0 : Int32)), (.int (0 : Int32)), (.int (0 : Int32)), (.int (0 : Int32)), (.int (0 : Int32))] (.int (0 : Int32)) := V_b496'
  change Go _ _ _ _ _ _ _ _ _ _ _ _ _ _ [b496, b492] h516 2 28 351 #[.val (.int x), .val (.int y), .val (.int z), .val (.int (2 : Int32))] [(.ref b496), (.ref b492), (.ref b492)]
  refine Go.dup (pc' := 352) d_method_4_351 rfl rfl ?_
  refine Go.bipush (pc' := 354) d_method_4_352 rfl icb_9 ?_
  refine Go.bipush (pc' := 356) d_method_4_354 rfl icb_122 ?_
  refine Go.castoreV (pc' := 357) (i := 9) d_method_4_356 rfl (List.mem_of_getElem? (i := 0) rfl) V_b496 (by decide) (by decide) (by simp) ?_
  rw [show nar .char (122 : Int32) = (122 : Int32) from by decide]
  intro h518 W519 V_b496'
  replace E_b492 := E_b492.wr W519
  replace U_b492 := own_unt_wr W519 U_b492
  replace F_b492_coder := F_b492_coder.other W519 (Or.inl o_b492_b496)
  replace F_b492_value := F_b492_value.other W519 (Or.inl o_b492_b496)
  replace E_b496 := E_b496.wr W519
  replace V_b496 : Arv Z h518 b496 q499 .char (24 : Int32) [(.int (117 : Int32)), (.int (110 : Int32)), (.int (114 : Int32)), (.int (101 : Int32)), (.int (99 : Int32)), (.int (111 : Int32)), (.int (103 : Int32)), (.int (110 : Int32)), (.int (105 : Int32)), (.int (122 : Int32)), (.int (0 : Int32)), (.int (0 : Int32)), (.int (0 : Int32)), (.int (0 : Int32)), (.int (0 : Int32)), (.int (0 : Int32)), (.int (0 : Int32)), (.int (0 : Int32)), (.int (0 : Int32)), (.int (0 : Int32)), (.int (0 : Int32)), (.int (0 : Int32)), (.int (0 : Int32)), (.int (0 : Int32))] (.int (0 : Int32)) := V_b496'
  change Go _ _ _ _ _ _ _ _ _ _ _ _ _ _ [b496, b492] h518 2 28 357 #[.val (.int x), .val (.int y), .val (.int z), .val (.int (2 : Int32))] [(.ref b496), (.ref b492), (.ref b492)]
  refine Go.dup (pc' := 358) d_method_4_357 rfl rfl ?_
  refine Go.bipush (pc' := 360) d_method_4_358 rfl icb_10 ?_
  refine Go.bipush (pc' := 362) d_method_4_360 rfl icb_101 ?_
  refine Go.castoreV (pc' := 363) (i := 10) d_method_4_362 rfl (List.mem_of_getElem? (i := 0) rfl) V_b496 (by decide) (by decide) (by simp) ?_
  rw [show nar .char (101 : Int32) = (101 : Int32) from by decide]
  intro h520 W521 V_b496'
  replace E_b492 := E_b492.wr W521
  replace U_b492 := own_unt_wr W521 U_b492
  replace F_b492_coder := F_b492_coder.other W521 (Or.inl o_b492_b496)
  replace F_b492_value := F_b492_value.other W521 (Or.inl o_b492_b496)
  replace E_b496 := E_b496.wr W521
  replace V_b496 : Arv Z h520 b496 q499 .char (24 : Int32) [(.int (117 : Int32)), (.int (110 : Int32)), (.int (114 : Int32)), (.int (101 : Int32)), (.int (99 : Int32)), (.int (111 : Int32)), (.int (103 : Int32)), (.int (110 : Int32)), (.int (105 : Int32)), (.int (122 : Int32)), (.int (101 : Int32)), (.int (0 : Int32)), (.int (0 : Int32)), (.int (0 : Int32)), (.int (0 : Int32)), (.int (0 : Int32)), (.int (0 : Int32)), (.int (0 : Int32)), (.int (0 : Int32)), (.int (0 : Int32)), (.int (0 : Int32)), (.int (0 : Int32)), (.int (0 : Int32)), (.int (0 : Int32))] (.int (0 : Int32)) := V_b496'
  change Go _ _ _ _ _ _ _ _ _ _ _ _ _ _ [b496, b492] h520 2 28 363 #[.val (.int x), .val (.int y), .val (.int z), .val (.int (2 : Int32))] [(.ref b496), (.ref b492), (.ref b492)]
  refine Go.dup (pc' := 364) d_method_4_363 rfl rfl ?_
  refine Go.bipush (pc' := 366) d_method_4_364 rfl icb_11 ?_
  refine Go.bipush (pc' := 368) d_method_4_366 rfl icb_100 ?_
  refine Go.castoreV (pc' := 369) (i := 11) d_method_4_368 rfl (List.mem_of_getElem? (i := 0) rfl) V_b496 (by decide) (by decide) (by simp) ?_
  rw [show nar .char (100 : Int32) = (100 : Int32) from by decide]
  intro h522 W523 V_b496'
  replace E_b492 := E_b492.wr W523
  replace U_b492 := own_unt_wr W523 U_b492
  replace F_b492_coder := F_b492_coder.other W523 (Or.inl o_b492_b496)
  replace F_b492_value := F_b492_value.other W523 (Or.inl o_b492_b496)
  replace E_b496 := E_b496.wr W523
  replace V_b496 : Arv Z h522 b496 q499 .char (24 : Int32) [(.int (117 : Int32)), (.int (110 : Int32)), (.int (114 : Int32)), (.int (101 : Int32)), (.int (99 : Int32)), (.int (111 : Int32)), (.int (103 : Int32)), (.int (110 : Int32)), (.int (105 : Int32)), (.int (122 : Int32)), (.int (101 : Int32)), (.int (100 : Int32)), (.int (0 : Int32)), (.int (0 : Int32)), (.int (0 : Int32)), (.int (0 : Int32)), (.int (0 : Int32)), (.int (0 : Int32)), (.int (0 : Int32)), (.int (0 : Int32)), (.int (0 : Int32)), (.int (0 : Int32)), (.int (0 : Int32)), (.int (0 : Int32))] (.int (0 : Int32)) := V_b496'
  change Go _ _ _ _ _ _ _ _ _ _ _ _ _ _ [b496, b492] h522 2 28 369 #[.val (.int x), .val (.int y), .val (.int z), .val (.int (2 : Int32))] [(.ref b496), (.ref b492), (.ref b492)]
  refine Go.dup (pc' := 370) d_method_4_369 rfl rfl ?_
  refine Go.bipush (pc' := 372) d_method_4_370 rfl icb_12 ?_
  refine Go.bipush (pc' := 374) d_method_4_372 rfl icb_32 ?_
  refine Go.castoreV (pc' := 375) (i := 12) d_method_4_374 rfl (List.mem_of_getElem? (i := 0) rfl) V_b496 (by decide) (by decide) (by simp) ?_
  rw [show nar .char (32 : Int32) = (32 : Int32) from by decide]
  intro h524 W525 V_b496'
  replace E_b492 := E_b492.wr W525
  replace U_b492 := own_unt_wr W525 U_b492
  replace F_b492_coder := F_b492_coder.other W525 (Or.inl o_b492_b496)
  replace F_b492_value := F_b492_value.other W525 (Or.inl o_b492_b496)
  replace E_b496 := E_b496.wr W525
  replace V_b496 : Arv Z h524 b496 q499 .char (24 : Int32) [(.int (117 : Int32)), (.int (110 : Int32)), (.int (114 : Int32)), (.int (101 : Int32)), (.int (99 : Int32)), (.int (111 : Int32)), (.int (103 : Int32)), (.int (110 : Int32)), (.int (105 : Int32)), (.int (122 : Int32)), (.int (101 : Int32)), (.int (100 : Int32)), (.int (32 : Int32)), (.int (0 : Int32)), (.int (0 : Int32)), (.int (0 : Int32)), (.int (0 : Int32)), (.int (0 : Int32)), (.int (0 : Int32)), (.int (0 : Int32)), (.int (0 : Int32)), (.int (0 : Int32)), (.int (0 : Int32)), (.int (0 : Int32))] (.int (0 : Int32)) := V_b496'
  change Go _ _ _ _ _ _ _ _ _ _ _ _ _ _ [b496, b492] h524 2 28 375 #[.val (.int x), .val (.int y), .val (.int z), .val (.int (2 : Int32))] [(.ref b496), (.ref b492), (.ref b492)]
  refine Go.dup (pc' := 376) d_method_4_375 rfl rfl ?_
  refine Go.bipush (pc' := 378) d_method_4_376 rfl icb_13 ?_
  refine Go.bipush (pc' := 380) d_method_4_378 rfl icb_111 ?_
  refine Go.castoreV (pc' := 381) (i := 13) d_method_4_380 rfl (List.mem_of_getElem? (i := 0) rfl) V_b496 (by decide) (by decide) (by simp) ?_
  rw [show nar .char (111 : Int32) = (111 : Int32) from by decide]
  intro h526 W527 V_b496'
  replace E_b492 := E_b492.wr W527
  replace U_b492 := own_unt_wr W527 U_b492
  replace F_b492_coder := F_b492_coder.other W527 (Or.inl o_b492_b496)
  replace F_b492_value := F_b492_value.other W527 (Or.inl o_b492_b496)
  replace E_b496 := E_b496.wr W527
  replace V_b496 : Arv Z h526 b496 q499 .char (24 : Int32) [(.int (117 : Int32)), (.int (110 : Int32)), (.int (114 : Int32)), (.int (101 : Int32)), (.int (99 : Int32)), (.int (111 : Int32)), (.int (103 : Int32)), (.int (110 : Int32)), (.int (105 : Int32)), (.int (122 : Int32)), (.int (101 : Int32)), (.int (100 : Int32)), (.int (32 : Int32)), (.int (111 : Int32)), (.int (0 : Int32)), (.int (0 : Int32)), (.int (0 : Int32)), (.int (0 : Int32)), (.int (0 : Int32)), (.int (0 : Int32)), (.int (0 : Int32)), (.int (0 : Int32)), (.int (0 : Int32)), (.int (0 : Int32))] (.int (0 : Int32)) := V_b496'
  change Go _ _ _ _ _ _ _ _ _ _ _ _ _ _ [b496, b492] h526 2 28 381 #[.val (.int x), .val (.int y), .val (.int z), .val (.int (2 : Int32))] [(.ref b496), (.ref b492), (.ref b492)]
  refine Go.dup (pc' := 382) d_method_4_381 rfl rfl ?_
  refine Go.bipush (pc' := 384) d_method_4_382 rfl icb_14 ?_
  refine Go.bipush (pc' := 386) d_method_4_384 rfl icb_112 ?_
  refine Go.castoreV (pc' := 387) (i := 14) d_method_4_386 rfl (List.mem_of_getElem? (i := 0) rfl) V_b496 (by decide) (by decide) (by simp) ?_
  rw [show nar .char (112 : Int32) = (112 : Int32) from by decide]
  intro h528 W529 V_b496'
  replace E_b492 := E_b492.wr W529
  replace U_b492 := own_unt_wr W529 U_b492
  replace F_b492_coder := F_b492_coder.other W529 (Or.inl o_b492_b496)
  replace F_b492_value := F_b492_value.other W529 (Or.inl o_b492_b496)
  replace E_b496 := E_b496.wr W529
  replace V_b496 : Arv Z h528 b496 q499 .char (24 : Int32) [(.int (117 : Int32)), (.int (110 : Int32)), (.int (114 : Int32)), (.int (101 : Int32)), (.int (99 : Int32)), (.int (111 : Int32)), (.int (103 : Int32)), (.int (110 : Int32)), (.int (105 : Int32)), (.int (122 : Int32)), (.int (101 : Int32)), (.int (100 : Int32)), (.int (32 : Int32)), (.int (111 : Int32)), (.int (112 : Int32)), (.int (0 : Int32)), (.int (0 : Int32)), (.int (0 : Int32)), (.int (0 : Int32)), (.int (0 : Int32)), (.int (0 : Int32)), (.int (0 : Int32)), (.int (0 : Int32)), (.int (0 : Int32))] (.int (0 : Int32)) := V_b496'
  change Go _ _ _ _ _ _ _ _ _ _ _ _ _ _ [b496, b492] h528 2 28 387 #[.val (.int x), .val (.int y), .val (.int z), .val (.int (2 : Int32))] [(.ref b496), (.ref b492), (.ref b492)]
  refine Go.dup (pc' := 388) d_method_4_387 rfl rfl ?_
  refine Go.bipush (pc' := 390) d_method_4_388 rfl icb_15 ?_
  refine Go.bipush (pc' := 392) d_method_4_390 rfl icb_116 ?_
  refine Go.castoreV (pc' := 393) (i := 15) d_method_4_392 rfl (List.mem_of_getElem? (i := 0) rfl) V_b496 (by decide) (by decide) (by simp) ?_
  rw [show nar .char (116 : Int32) = (116 : Int32) from by decide]
  intro h530 W531 V_b496'
  replace E_b492 := E_b492.wr W531
  replace U_b492 := own_unt_wr W531 U_b492
  replace F_b492_coder := F_b492_coder.other W531 (Or.inl o_b492_b496)
  replace F_b492_value := F_b492_value.other W531 (Or.inl o_b492_b496)
  replace E_b496 := E_b496.wr W531
  replace V_b496 : Arv Z h530 b496 q499 .char (24 : Int32) [(.int (117 : Int32)), (.int (110 : Int32)), (.int (114 : Int32)), (.int (101 : Int32)), (.int (99 : Int32)), (.int (111 : Int32)), (.int (103 : Int32)), (.int (110 : Int32)), (.int (105 : Int32)), (.int (122 : Int32)), (.int (101 : Int32)), (.int (100 : Int32)), (.int (32 : Int32)), (.int (111 : Int32)), (.int (112 : Int32)), (.int (116 : Int32)), (.int (0 : Int32)), (.int (0 : Int32)), (.int (0 : Int32)), (.int (0 : Int32)), (.int (0 : Int32)), (.int (0 : Int32)), (.int (0 : Int32)), (.int (0 : Int32))] (.int (0 : Int32)) := V_b496'
  change Go _ _ _ _ _ _ _ _ _ _ _ _ _ _ [b496, b492] h530 2 28 393 #[.val (.int x), .val (.int y), .val (.int z), .val (.int (2 : Int32))] [(.ref b496), (.ref b492), (.ref b492)]
  refine Go.dup (pc' := 394) d_method_4_393 rfl rfl ?_
  refine Go.bipush (pc' := 396) d_method_4_394 rfl icb_16 ?_
  refine Go.bipush (pc' := 398) d_method_4_396 rfl icb_105 ?_
  refine Go.castoreV (pc' := 399) (i := 16) d_method_4_398 rfl (List.mem_of_getElem? (i := 0) rfl) V_b496 (by decide) (by decide) (by simp) ?_
  rw [show nar .char (105 : Int32) = (105 : Int32) from by decide]
  intro h532 W533 V_b496'
  replace E_b492 := E_b492.wr W533
  replace U_b492 := own_unt_wr W533 U_b492
  replace F_b492_coder := F_b492_coder.other W533 (Or.inl o_b492_b496)
  replace F_b492_value := F_b492_value.other W533 (Or.inl o_b492_b496)
  replace E_b496 := E_b496.wr W533
  replace V_b496 : Arv Z h532 b496 q499 .char (24 : Int32) [(.int (117 : Int32)), (.int (110 : Int32)), (.int (114 : Int32)), (.int (101 : Int32)), (.int (99 : Int32)), (.int (111 : Int32)), (.int (103 : Int32)), (.int (110 : Int32)), (.int (105 : Int32)), (.int (122 : Int32)), (.int (101 : Int32)), (.int (100 : Int32)), (.int (32 : Int32)), (.int (111 : Int32)), (.int (112 : Int32)), (.int (116 : Int32)), (.int (105 : Int32)), (.int (0 : Int32)), (.int (0 : Int32)), (.int (0 : Int32)), (.int (0 : Int32)), (.int (0 : Int32)), (.int (0 : Int32)), (.int (0 : Int32))] (.int (0 : Int32)) := V_b496'
  change Go _ _ _ _ _ _ _ _ _ _ _ _ _ _ [b496, b492] h532 2 28 399 #[.val (.int x), .val (.int y), .val (.int z), .val (.int (2 : Int32))] [(.ref b496), (.ref b492), (.ref b492)]
  refine Go.dup (pc' := 400) d_method_4_399 rfl rfl ?_
  refine Go.bipush (pc' := 402) d_method_4_400 rfl icb_17 ?_
  refine Go.bipush (pc' := 404) d_method_4_402 rfl icb_111 ?_
  refine Go.castoreV (pc' := 405) (i := 17) d_method_4_404 rfl (List.mem_of_getElem? (i := 0) rfl) V_b496 (by decide) (by decide) (by simp) ?_
  rw [show nar .char (111 : Int32) = (111 : Int32) from by decide]
  intro h534 W535 V_b496'
  replace E_b492 := E_b492.wr W535
  replace U_b492 := own_unt_wr W535 U_b492
  replace F_b492_coder := F_b492_coder.other W535 (Or.inl o_b492_b496)
  replace F_b492_value := F_b492_value.other W535 (Or.inl o_b492_b496)
  replace E_b496 := E_b496.wr W535
  replace V_b496 : Arv Z h534 b496 q499 .char (24 : Int32) [(.int (117 : Int32)), (.int (110 : Int32)), (.int (114 : Int32)), (.int (101 : Int32)), (.int (99 : Int32)), (.int (111 : Int32)), (.int (103 : Int32)), (.int (110 : Int32)), (.int (105 : Int32)), (.int (122 : Int32)), (.int (101 : Int32)), (.int (100 : Int32)), (.int (32 : Int32)), (.int (111 : Int32)), (.int (112 : Int32)), (.int (116 : Int32)), (.int (105 : Int32)), (.int (111 : Int32)), (.int (0 : Int32)), (.int (0 : Int32)), (.int (0 : Int32)), (.int (0 : Int32)), (.int (0 : Int32)), (.int (0 : Int32))] (.int (0 : Int32)) := V_b496'
  change Go _ _ _ _ _ _ _ _ _ _ _ _ _ _ [b496, b492] h534 2 28 405 #[.val (.int x), .val (.int y), .val (.int z), .val (.int (2 : Int32))] [(.ref b496), (.ref b492), (.ref b492)]
  refine Go.dup (pc' := 406) d_method_4_405 rfl rfl ?_
  refine Go.bipush (pc' := 408) d_method_4_406 rfl icb_18 ?_
  refine Go.bipush (pc' := 410) d_method_4_408 rfl icb_110 ?_
  refine Go.castoreV (pc' := 411) (i := 18) d_method_4_410 rfl (List.mem_of_getElem? (i := 0) rfl) V_b496 (by decide) (by decide) (by simp) ?_
  rw [show nar .char (110 : Int32) = (110 : Int32) from by decide]
  intro h536 W537 V_b496'
  replace E_b492 := E_b492.wr W537
  replace U_b492 := own_unt_wr W537 U_b492
  replace F_b492_coder := F_b492_coder.other W537 (Or.inl o_b492_b496)
  replace F_b492_value := F_b492_value.other W537 (Or.inl o_b492_b496)
  replace E_b496 := E_b496.wr W537
  replace V_b496 : Arv Z h536 b496 q499 .char (24 : Int32) [(.int (117 : Int32)), (.int (110 : Int32)), (.int (114 : Int32)), (.int (101 : Int32)), (.int (99 : Int32)), (.int (111 : Int32)), (.int (103 : Int32)), (.int (110 : Int32)), (.int (105 : Int32)), (.int (122 : Int32)), (.int (101 : Int32)), (.int (100 : Int32)), (.int (32 : Int32)), (.int (111 : Int32)), (.int (112 : Int32)), (.int (116 : Int32)), (.int (105 : Int32)), (.int (111 : Int32)), (.int (110 : Int32)), (.int (0 : Int32)), (.int (0 : Int32)), (.int (0 : Int32)), (.int (0 : Int32)), (.int (0 : Int32))] (.int (0 : Int32)) := V_b496'
  change Go _ _ _ _ _ _ _ _ _ _ _ _ _ _ [b496, b492] h536 2 28 411 #[.val (.int x), .val (.int y), .val (.int z), .val (.int (2 : Int32))] [(.ref b496), (.ref b492), (.ref b492)]
  refine Go.dup (pc' := 412) d_method_4_411 rfl rfl ?_
  refine Go.bipush (pc' := 414) d_method_4_412 rfl icb_19 ?_
  refine Go.bipush (pc' := 416) d_method_4_414 rfl icb_32 ?_
  refine Go.castoreV (pc' := 417) (i := 19) d_method_4_416 rfl (List.mem_of_getElem? (i := 0) rfl) V_b496 (by decide) (by decide) (by simp) ?_
  rw [show nar .char (32 : Int32) = (32 : Int32) from by decide]
  intro h538 W539 V_b496'
  replace E_b492 := E_b492.wr W539
  replace U_b492 := own_unt_wr W539 U_b492
  replace F_b492_coder := F_b492_coder.other W539 (Or.inl o_b492_b496)
  replace F_b492_value := F_b492_value.other W539 (Or.inl o_b492_b496)
  replace E_b496 := E_b496.wr W539
  replace V_b496 : Arv Z h538 b496 q499 .char (24 : Int32) [(.int (117 : Int32)), (.int (110 : Int32)), (.int (114 : Int32)), (.int (101 : Int32)), (.int (99 : Int32)), (.int (111 : Int32)), (.int (103 : Int32)), (.int (110 : Int32)), (.int (105 : Int32)), (.int (122 : Int32)), (.int (101 : Int32)), (.int (100 : Int32)), (.int (32 : Int32)), (.int (111 : Int32)), (.int (112 : Int32)), (.int (116 : Int32)), (.int (105 : Int32)), (.int (111 : Int32)), (.int (110 : Int32)), (.int (32 : Int32)), (.int (0 : Int32)), (.int (0 : Int32)), (.int (0 : Int32)), (.int (0 : Int32))] (.int (0 : Int32)) := V_b496'
  change Go _ _ _ _ _ _ _ _ _ _ _ _ _ _ [b496, b492] h538 2 28 417 #[.val (.int x), .val (.int y), .val (.int z), .val (.int (2 : Int32))] [(.ref b496), (.ref b492), (.ref b492)]
  refine Go.dup (pc' := 418) d_method_4_417 rfl rfl ?_
  refine Go.bipush (pc' := 420) d_method_4_418 rfl icb_20 ?_
  refine Go.bipush (pc' := 422) d_method_4_420 rfl icb_39 ?_
  refine Go.castoreV (pc' := 423) (i := 20) d_method_4_422 rfl (List.mem_of_getElem? (i := 0) rfl) V_b496 (by decide) (by decide) (by simp) ?_
  rw [show nar .char (39 : Int32) = (39 : Int32) from by decide]
  intro h540 W541 V_b496'
  replace E_b492 := E_b492.wr W541
  replace U_b492 := own_unt_wr W541 U_b492
  replace F_b492_coder := F_b492_coder.other W541 (Or.inl o_b492_b496)
  replace F_b492_value := F_b492_value.other W541 (Or.inl o_b492_b496)
  replace E_b496 := E_b496.wr W541
  replace V_b496 : Arv Z h540 b496 q499 .char (24 : Int32) [(.int (117 : Int32)), (.int (110 : Int32)), (.int (114 : Int32)), (.int (101 : Int32)), (.int (99 : Int32)), (.int (111 : Int32)), (.int (103 : Int32)), (.int (110 : Int32)), (.int (105 : Int32)), (.int (122 : Int32)), (.int (101 : Int32)), (.int (100 : Int32)), (.int (32 : Int32)), (.int (111 : Int32)), (.int (112 : Int32)), (.int (116 : Int32)), (.int (105 : Int32)), (.int (111 : Int32)), (.int (110 : Int32)), (.int (32 : Int32)), (.int (39 : Int32)), (.int (0 : Int32)), (.int (0 : Int32)), (.int (0 : Int32))] (.int (0 : Int32)) := V_b496'
  change Go _ _ _ _ _ _ _ _ _ _ _ _ _ _ [b496, b492] h540 2 28 423 #[.val (.int x), .val (.int y), .val (.int z), .val (.int (2 : Int32))] [(.ref b496), (.ref b492), (.ref b492)]
  refine Go.dup (pc' := 424) d_method_4_423 rfl rfl ?_
  refine Go.bipush (pc' := 426) d_method_4_424 rfl icb_21 ?_
  refine Go.iload_n (pc' := 427) d_method_4_426 rfl rfl ?_
  refine Go.castoreV (pc' := 428) (i := 21) d_method_4_427 rfl (List.mem_of_getElem? (i := 0) rfl) V_b496 (by decide) (by decide) (by simp) ?_
  rw [nar_char hx_x.1 (le255 hx_x.2)]
  intro h542 W543 V_b496'
  replace E_b492 := E_b492.wr W543
  replace U_b492 := own_unt_wr W543 U_b492
  replace F_b492_coder := F_b492_coder.other W543 (Or.inl o_b492_b496)
  replace F_b492_value := F_b492_value.other W543 (Or.inl o_b492_b496)
  replace E_b496 := E_b496.wr W543
  replace V_b496 : Arv Z h542 b496 q499 .char (24 : Int32) [(.int (117 : Int32)), (.int (110 : Int32)), (.int (114 : Int32)), (.int (101 : Int32)), (.int (99 : Int32)), (.int (111 : Int32)), (.int (103 : Int32)), (.int (110 : Int32)), (.int (105 : Int32)), (.int (122 : Int32)), (.int (101 : Int32)), (.int (100 : Int32)), (.int (32 : Int32)), (.int (111 : Int32)), (.int (112 : Int32)), (.int (116 : Int32)), (.int (105 : Int32)), (.int (111 : Int32)), (.int (110 : Int32)), (.int (32 : Int32)), (.int (39 : Int32)), (.int x), (.int (0 : Int32)), (.int (0 : Int32))] (.int (0 : Int32)) := V_b496'
  change Go _ _ _ _ _ _ _ _ _ _ _ _ _ _ [b496, b492] h542 2 28 428 #[.val (.int x), .val (.int y), .val (.int z), .val (.int (2 : Int32))] [(.ref b496), (.ref b492), (.ref b492)]
  refine Go.dup (pc' := 429) d_method_4_428 rfl rfl ?_
  refine Go.bipush (pc' := 431) d_method_4_429 rfl icb_22 ?_
  refine Go.iload_n (pc' := 432) d_method_4_431 rfl rfl ?_
  refine Go.castoreV (pc' := 433) (i := 22) d_method_4_432 rfl (List.mem_of_getElem? (i := 0) rfl) V_b496 (by decide) (by decide) (by simp) ?_
  rw [nar_char hx_y.1 (le255 hx_y.2)]
  intro h544 W545 V_b496'
  replace E_b492 := E_b492.wr W545
  replace U_b492 := own_unt_wr W545 U_b492
  replace F_b492_coder := F_b492_coder.other W545 (Or.inl o_b492_b496)
  replace F_b492_value := F_b492_value.other W545 (Or.inl o_b492_b496)
  replace E_b496 := E_b496.wr W545
  replace V_b496 : Arv Z h544 b496 q499 .char (24 : Int32) [(.int (117 : Int32)), (.int (110 : Int32)), (.int (114 : Int32)), (.int (101 : Int32)), (.int (99 : Int32)), (.int (111 : Int32)), (.int (103 : Int32)), (.int (110 : Int32)), (.int (105 : Int32)), (.int (122 : Int32)), (.int (101 : Int32)), (.int (100 : Int32)), (.int (32 : Int32)), (.int (111 : Int32)), (.int (112 : Int32)), (.int (116 : Int32)), (.int (105 : Int32)), (.int (111 : Int32)), (.int (110 : Int32)), (.int (32 : Int32)), (.int (39 : Int32)), (.int x), (.int y), (.int (0 : Int32))] (.int (0 : Int32)) := V_b496'
  change Go _ _ _ _ _ _ _ _ _ _ _ _ _ _ [b496, b492] h544 2 28 433 #[.val (.int x), .val (.int y), .val (.int z), .val (.int (2 : Int32))] [(.ref b496), (.ref b492), (.ref b492)]
  refine Go.dup (pc' := 434) d_method_4_433 rfl rfl ?_
  refine Go.bipush (pc' := 436) d_method_4_434 rfl icb_23 ?_
  refine Go.bipush (pc' := 438) d_method_4_436 rfl icb_39 ?_
  refine Go.castoreV (pc' := 439) (i := 23) d_method_4_438 rfl (List.mem_of_getElem? (i := 0) rfl) V_b496 (by decide) (by decide) (by simp) ?_
  rw [show nar .char (39 : Int32) = (39 : Int32) from by decide]
  intro h546 W547 V_b496'
  replace E_b492 := E_b492.wr W547
  replace U_b492 := own_unt_wr W547 U_b492
  replace F_b492_coder := F_b492_coder.other W547 (Or.inl o_b492_b496)
  replace F_b492_value := F_b492_value.other W547 (Or.inl o_b492_b496)
  replace E_b496 := E_b496.wr W547
  replace V_b496 : Arv Z h546 b496 q499 .char (24 : Int32) [(.int (117 : Int32)), (.int (110 : Int32)), (.int (114 : Int32)), (.int (101 : Int32)), (.int (99 : Int32)), (.int (111 : Int32)), (.int (103 : Int32)), (.int (110 : Int32)), (.int (105 : Int32)), (.int (122 : Int32)), (.int (101 : Int32)), (.int (100 : Int32)), (.int (32 : Int32)), (.int (111 : Int32)), (.int (112 : Int32)), (.int (116 : Int32)), (.int (105 : Int32)), (.int (111 : Int32)), (.int (110 : Int32)), (.int (32 : Int32)), (.int (39 : Int32)), (.int x), (.int y), (.int (39 : Int32))] (.int (0 : Int32)) := V_b496'
  change Go _ _ _ _ _ _ _ _ _ _ _ _ _ _ [b496, b492] h546 2 28 439 #[.val (.int x), .val (.int y), .val (.int z), .val (.int (2 : Int32))] [(.ref b496), (.ref b492), (.ref b492)]
  replace V_b496 : Arv Z h546 b496 q499 .char (24 : Int32) ([(117 : Int32), (110 : Int32), (114 : Int32), (101 : Int32), (99 : Int32), (111 : Int32), (103 : Int32), (110 : Int32), (105 : Int32), (122 : Int32), (101 : Int32), (100 : Int32), (32 : Int32), (111 : Int32), (112 : Int32), (116 : Int32), (105 : Int32), (111 : Int32), (110 : Int32), (32 : Int32), (39 : Int32), x, y, (39 : Int32)].map Value.int) (.int (0 : Int32)) := V_b496
  refine Go.callI (pc' := 442) (z := N_35) (a := b492) d_method_4_439 rfl rfl (w_8 hw) (w_9 hw) (w_10 hw) (by decide) (argsL := [(.ref b496)]) (rest := [(.ref b492)]) (Pays.of_met (W := 1) (len := 3) (m_str hw hs b492 b496 q499 [(117 : Int32), (110 : Int32), (114 : Int32), (101 : Int32), (99 : Int32), (111 : Int32), (103 : Int32), (110 : Int32), (105 : Int32), (122 : Int32), (101 : Int32), (100 : Int32), (32 : Int32), (111 : Int32), (112 : Int32), (116 : Int32), (105 : Int32), (111 : Int32), (110 : Int32), (32 : Int32), (39 : Int32), x, y, (39 : Int32)] (24 : Int32) h546 E_b492 F_b492_coder F_b492_value V_b496 (show (24 : Int32).toNatClampNeg = 24 from by decide) ((own_cons (P := fun x => ¬ x < 0 ∧ ¬ 255 < x) (by decide) (own_cons (P := fun x => ¬ x < 0 ∧ ¬ 255 < x) (by decide) (own_cons (P := fun x => ¬ x < 0 ∧ ¬ 255 < x) (by decide) (own_cons (P := fun x => ¬ x < 0 ∧ ¬ 255 < x) (by decide) (own_cons (P := fun x => ¬ x < 0 ∧ ¬ 255 < x) (by decide) (own_cons (P := fun x => ¬ x < 0 ∧ ¬ 255 < x) (by decide) (own_cons (P := fun x => ¬ x < 0 ∧ ¬ 255 < x) (by decide) (own_cons (P := fun x => ¬ x < 0 ∧ ¬ 255 < x) (by decide) (own_cons (P := fun x => ¬ x < 0 ∧ ¬ 255 < x) (by decide) (own_cons (P := fun x => ¬ x < 0 ∧ ¬ 255 < x) (by decide) (own_cons (P := fun x => ¬ x < 0 ∧ ¬ 255 < x) (by decide) (own_cons (P := fun x => ¬ x < 0 ∧ ¬ 255 < x) (by decide) (own_cons (P := fun x => ¬ x < 0 ∧ ¬ 255 < x) (by decide) (own_cons (P := fun x => ¬ x < 0 ∧ ¬ 255 < x) (by decide) (own_cons (P := fun x => ¬ x < 0 ∧ ¬ 255 < x) (by decide) (own_cons (P := fun x => ¬ x < 0 ∧ ¬ 255 < x) (by decide) (own_cons (P := fun x => ¬ x < 0 ∧ ¬ 255 < x) (by decide) (own_cons (P := fun x => ¬ x < 0 ∧ ¬ 255 < x) (by decide) (own_cons (P := fun x => ¬ x < 0 ∧ ¬ 255 < x) (by decide) (own_cons (P := fun x => ¬ x < 0 ∧ ¬ 255 < x) (by decide) (own_cons (P := fun x => ¬ x < 0 ∧ ¬ 255 < x) (by decide) (own_cons (P := fun x => ¬ x < 0 ∧ ¬ 255 < x) hx_x (own_cons (P := fun x => ¬ x < 0 ∧ ¬ 255 < x) hx_y (own_one (P := fun x => ¬ x < 0 ∧ ¬ 255 < x) (by decide)))))))))))))))))))))))))) (List.cons_ne_nil _ _) (by decide) (Ne.symm o_b492_b496)) (w_10 hw) (w_6 hw) (by decide) (by decide)) rfl rfl (lenOf pd_26 rfl) rfl (Nat.le_of_eq rfl) (memS (List.mem_of_getElem? (i := 1) rfl) mem0) (by decide) (by decide) ?_
  rintro _ h550 _ K551 le552 ⟨b548, q549, rfl, rfl, p553, p554, p555, p556, p557⟩
  have o_b492_b548 : b492 ≠ b548 := Nat.ne_of_lt (Nat.lt_of_lt_of_le E_b492.lt p557)
  have o_b496_b548 : b496 ≠ b548 := Nat.ne_of_lt (Nat.lt_of_lt_of_le E_b496.lt p557)
  have ge_b548 := Nat.le_trans le552 p557
  replace E_b492 := E_b492.keep K551
  replace E_b496 := E_b496.keep K551
  replace V_b496 := V_b496.keep K551 (ninS (Ne.symm o_b492_b496) nin0)
  have F_b492_coder := p554
  have F_b492_value := p555
  have V_b548 := p556
  change Go _ _ _ _ _ _ _ _ _ _ _ _ _ _ [b496, b492] h550 3 53 442 #[.val (.int x), .val (.int y), .val (.int z), .val (.int (2 : Int32))] [(.ref b492)]
  replace V_b548 : Arv Z h550 b548 q549 .byte (24 : Int32) ([(117 : Int32).toInt8.toInt32, (110 : Int32).toInt8.toInt32, (114 : Int32).toInt8.toInt32, (101 : Int32).toInt8.toInt32, (99 : Int32).toInt8.toInt32, (111 : Int32).toInt8.toInt32, (103 : Int32).toInt8.toInt32, (110 : Int32).toInt8.toInt32, (105 : Int32).toInt8.toInt32, (122 : Int32).toInt8.toInt32, (101 : Int32).toInt8.toInt32, (100 : Int32).toInt8.toInt32, (32 : Int32).toInt8.toInt32, (111 : Int32).toInt8.toInt32, (112 : Int32).toInt8.toInt32, (116 : Int32).toInt8.toInt32, (105 : Int32).toInt8.toInt32, (111 : Int32).toInt8.toInt32, (110 : Int32).toInt8.toInt32, (32 : Int32).toInt8.toInt32, (39 : Int32).toInt8.toInt32, x.toInt8.toInt32, y.toInt8.toInt32, (39 : Int32).toInt8.toInt32].map Value.int) (.int (0 : Int32)) := V_b548
  rw [show [(117 : Int32).toInt8.toInt32, (110 : Int32).toInt8.toInt32, (114 : Int32).toInt8.toInt32, (101 : Int32).toInt8.toInt32, (99 : Int32).toInt8.toInt32, (111 : Int32).toInt8.toInt32, (103 : Int32).toInt8.toInt32, (110 : Int32).toInt8.toInt32, (105 : Int32).toInt8.toInt32, (122 : Int32).toInt8.toInt32, (101 : Int32).toInt8.toInt32, (100 : Int32).toInt8.toInt32, (32 : Int32).toInt8.toInt32, (111 : Int32).toInt8.toInt32, (112 : Int32).toInt8.toInt32, (116 : Int32).toInt8.toInt32, (105 : Int32).toInt8.toInt32, (111 : Int32).toInt8.toInt32, (110 : Int32).toInt8.toInt32, (32 : Int32).toInt8.toInt32, (39 : Int32).toInt8.toInt32, x.toInt8.toInt32, y.toInt8.toInt32, (39 : Int32).toInt8.toInt32] = [(117 : Int32), (110 : Int32), (114 : Int32), (101 : Int32), (99 : Int32), (111 : Int32), (103 : Int32), (110 : Int32), (105 : Int32), (122 : Int32), (101 : Int32), (100 : Int32), (32 : Int32), (111 : Int32), (112 : Int32), (116 : Int32), (105 : Int32), (111 : Int32), (110 : Int32), (32 : Int32), (39 : Int32), x.toInt8.toInt32, y.toInt8.toInt32, (39 : Int32)] from by rw [lc_100, lc_101, lc_103, lc_105, lc_110, lc_111, lc_112, lc_114, lc_116, lc_117, lc_122, lc_32, lc_39, lc_99]] at V_b548
  exact Go.retA d_method_4_442 rfl rfl rfl (by decide) (by decide) [] sn0 ⟨b492, b548, _, rfl, rfl, E_b492, F_b492_coder, F_b492_value, V_b548⟩
abbrev R_m_expected3 : Room := { frames := 4, cells := 3, slots := 54, locals := 66 }
theorem pn_m_expected3 : plainFor (⟨"com/example/slackline/slackline/UsageExceptionUnrecognizedOptionPinLaw", "expected", "(CCCI)Ljava/lang/String;"⟩ : MethodName) = true := by first | (refine plainFor_of_name ?_; simp [plainName, overriddenIn]; done) | decide +kernel
abbrev Q_m_expected3 (Z : State) (x : Int32) (y : Int32) (z : Int32) (h0 : Heap) : Option Value → Heap → List Addr → Prop := fun res h' SN => ∃ (s : Addr) (t : Addr) (kt : ClassId), res = some (.ref s) ∧ SN = [] ∧ Exa Z h' s "java/lang/String" ∧ Fld Z h' s "java/lang/String" "coder" "B" (.int (0 : Int32)) ∧ Fld Z h' s "java/lang/String" "value" "[B" (.ref t) ∧ Arv Z h' t kt .byte (25 : Int32) ([(117 : Int32), (110 : Int32), (114 : Int32), (101 : Int32), (99 : Int32), (111 : Int32), (103 : Int32), (110 : Int32), (105 : Int32), (122 : Int32), (101 : Int32), (100 : Int32), (32 : Int32), (111 : Int32), (112 : Int32), (116 : Int32), (105 : Int32), (111 : Int32), (110 : Int32), (32 : Int32), (39 : Int32), x.toInt8.toInt32, y.toInt8.toInt32, z.toInt8.toInt32, (39 : Int32)].map Value.int) (.int (0 : Int32))
theorem ef_m_expected3 (mid : MethodId) (x : Int32) (y : Int32) (z : Int32) : entryFrame mid #[(.int x), (.int y), (.int z), (.int (3 : Int32))] 4 = mkF mid 0 #[.val (.int x), .val (.int y), .val (.int z), .val (.int (3 : Int32))] [] := by first | (simp [entryFrame, mkF, argsToLocals, Value.category]; done) | rfl
set_option maxRecDepth 65536 in
set_option maxHeartbeats 40000000 in
theorem m_expected3 {l : Launch} {Z : State} {a0 : Array Value} {n0 : Nat} (hw : ∀ d ∈ tables_1, d.before a0 Z = true) (hs : Stat Z) (x : Int32) (y : Int32) (z : Int32) (h0 : Heap) (hx_x : ¬ x < 0 ∧ ¬ 255 < x) (hx_y : ¬ y < 0 ∧ ¬ 255 < y) (hx_z : ¬ z < 0 ∧ ¬ 255 < z) :
    Met l Z EL0 n0 NR0 KN0 N_39 method_4_code 4 (Option.some (Jvm.ClassFile.FieldType.object "java/lang/String")) R_m_expected3 [] #[(.int x), (.int y), (.int z), (.int (3 : Int32))] h0 (Q_m_expected3 Z x y z h0) := by
  refine Met.of_go pn_m_expected3 (fun mid => ef_m_expected3 mid x y z ) ?_
  intro hO hWS
  refine Go.iload_n (pc' := 1) d_method_4_0 rfl rfl ?_
  refine Go.ifY (pc' := 142) d_method_4_1 (by decide) (by decide) ((if0 _ _).trans (feq (by decide : ¬ ((3 : Int32) = (0 : Int32)))).2) ?_
  refine Go.iload_n (pc' := 143) d_method_4_142 rfl rfl ?_
  refine Go.iconst (pc' := 144) d_method_4_143 rfl ic_1 ?_
  refine Go.icmpY (pc' := 290) d_method_4_144 (by decide) (by decide) (feq (by decide : ¬ ((3 : Int32) = (1 : Int32)))).2 ?_
  refine Go.iload_n (pc' := 291) d_method_4_290 rfl rfl ?_
  refine Go.iconst (pc' := 292) d_method_4_291 rfl ic_2 ?_
  refine Go.icmpY (pc' := 443) d_method_4_292 (by decide) (by decide) (feq (by decide : ¬ ((3 : Int32) = (2 : Int32)))).2 ?_
  refine Go.newO (pc' := 446) d_method_4_443 rfl (w_4 hw) (w_5 hw) (w_6 hw) (by decide) (by decide) ?_
  intro h558 b559 g560 ge_b559 x561 E_b559 D_b559 U_b559
  have F_b559_coder : Fld Z h558 b559 "java/lang/String" "coder" "B" (.int (0 : Int32)) := D_b559 (Or.inr (w_31 hw)) (ty := .byte) (by decide)
  have F_b559_value : Fld Z h558 b559 "java/lang/String" "value" "[B" .null := D_b559 (Or.inr (w_33 hw)) (ty := (.array .byte)) (by decide)
  change Go _ _ _ _ _ _ _ _ _ _ _ _ _ _ [b559] h558 1 4 446 #[.val (.int x), .val (.int y), .val (.int z), .val (.int (3 : Int32))] [(.ref b559)]
  refine Go.dup (pc' := 447) d_method_4_446 rfl rfl ?_
  refine Go.bipush (pc' := 449) d_method_4_447 rfl icb_25 ?_
  refine Go.newP (pc' := 451) (cap := 25) (ad := "[C") d_method_4_449 rfl (w_7 hw) (by decide) (by decide) (by decide) (by decide) (by decide) (by decide) ?_
  intro h562 b563 g564 ge_b563 q566 x565 V_b563 E_b563
  have o_b559_b563 : b559 ≠ b563 := Nat.ne_of_lt (Nat.lt_of_lt_of_le E_b559.lt (Nat.le_of_eq g564))
  replace E_b559 := E_b559.ext x565
  replace U_b559 := unt_ext x565 U_b559
  replace F_b559_coder := F_b559_coder.ext x565
  replace F_b559_value := F_b559_value.ext x565
  replace V_b563 : Arv Z h562 b563 q566 .char (25 : Int32) [(.int (0 : Int32)), (.int (0 : Int32)), (.int (0 : Int32)), (.int (0 : Int32)), (.int (0 : Int32)), (.int (0 : Int32)), (.int (0 : Int32)), (.int (0 : Int32)), (.int (0 : Int32)), (.int (0 : Int32)), (.int (0 : Int32)), (.int (0 : Int32)), (.int (0 : Int32)), (.int (0 : Int32)), (.int (0 : Int32)), (.int (0 : Int32)), (.int (0 : Int32)), (.int (0 : Int32)), (.int (0 : Int32)), (.int (0 : Int32)), (.int (0 : Int32)), (.int (0 : Int32)), (.int (0 : Int32)), (.int (0 : Int32)), (.int (0 : Int32))] (.int (0 : Int32)) := V_b563.pad (pad_rep [] _ 25)
  change Go _ _ _ _ _ _ _ _ _ _ _ _ _ _ [b563, b559] h562 2 29 451 #[.val (.int x), .val (.int y), .val (.int z), .val (.int (3 : Int32))] [(.ref b563), (.ref b559), (.ref b559)]
  refine Go.dup (pc' := 452) d_method_4_451 rfl rfl ?_
  refine Go.iconst (pc' := 453) d_method_4_452 rfl ic_0 ?_
  refine Go.bipush (pc' := 455) d_method_4_453 rfl icb_117 ?_
  refine Go.castoreV (pc' := 456) (i := 0) d_method_4_455 rfl (List.mem_of_getElem? (i := 0) rfl) V_b563 (by decide) (by decide) (by simp) ?_
  rw [show nar .char (117 : Int32) = (117 : Int32) from by decide]
  intro h567 W568 V_b563'
  replace E_b559 := E_b559.wr W568
  replace U_b559 := own_unt_wr W568 U_b559
  replace F_b559_coder := F_b559_coder.other W568 (Or.inl o_b559_b563)
  replace F_b559_value := F_b559_value.other W568 (Or.inl o_b559_b563)
  replace E_b563 := E_b563.wr W568
  replace V_b563 : Arv Z h567 b563 q566 .char (25 : Int32) [(.int (117 : Int32)), (.int (0 : Int32)), (.int (0 : Int32)), (.int (0 : Int32)), (.int (0 : Int32)), (.int (0 : Int32)), (.int (0 : Int32)), (.int (0 : Int32)), (.int (0 : Int32)), (.int (0 : Int32)), (.int (0 : Int32)), (.int (0 : Int32)), (.int (0 : Int32)), (.int (0 : Int32)), (.int (0 : Int32)), (.int (0 : Int32)), (.int (0 : Int32)), (.int (0 : Int32)), (.int (0 : Int32)), (.int (0 : Int32)), (.int (0 : Int32)), (.int (0 : Int32)), (.int (0 : Int32)), (.int (0 : Int32)), (.int (0 : Int32))] (.int (0 : Int32)) := V_b563'
  change Go _ _ _ _ _ _ _ _ _ _ _ _ _ _ [b563, b559] h567 2 29 456 #[.val (.int x), .val (.int y), .val (.int z), .val (.int (3 : Int32))] [(.ref b563), (.ref b559), (.ref b559)]
  refine Go.dup (pc' := 457) d_method_4_456 rfl rfl ?_
  refine Go.iconst (pc' := 458) d_method_4_457 rfl ic_1 ?_
  refine Go.bipush (pc' := 460) d_method_4_458 rfl icb_110 ?_
  refine Go.castoreV (pc' := 461) (i := 1) d_method_4_460 rfl (List.mem_of_getElem? (i := 0) rfl) V_b563 (by decide) (by decide) (by simp) ?_
  rw [show nar .char (110 : Int32) = (110 : Int32) from by decide]
  intro h569 W570 V_b563'
  replace E_b559 := E_b559.wr W570
  replace U_b559 := own_unt_wr W570 U_b559
  replace F_b559_coder := F_b559_coder.other W570 (Or.inl o_b559_b563)
  replace F_b559_value := F_b559_value.other W570 (Or.inl o_b559_b563)
  replace E_b563 := E_b563.wr W570
  replace V_b563 : Arv Z h569 b563 q566 .char (25 : Int32) [(.int (117 : Int32)), (.int (110 : Int32)), (.int (0 : Int32)), (.int (0 : Int32)), (.int (0 : Int32)), (.int (0 : Int32)), (.int (0 : Int32)), (.int (0 : Int32)), (.int (0 : Int32)), (.int (0 : Int32)), (.int (0 : Int32)), (.int (0 : Int32)), (.int (0 : Int32)), (.int (0 : Int32)), (.int (0 : Int32)), (.int (0 : Int32)), (.int (0 : Int32)), (.int (0 : Int32)), (.int (0 : Int32)), (.int (0 : Int32)), (.int (0 : Int32)), (.int (0 : Int32)), (.int (0 : Int32)), (.int (0 : Int32)), (.int (0 : Int32))] (.int (0 : Int32)) := V_b563'
  change Go _ _ _ _ _ _ _ _ _ _ _ _ _ _ [b563, b559] h569 2 29 461 #[.val (.int x), .val (.int y), .val (.int z), .val (.int (3 : Int32))] [(.ref b563), (.ref b559), (.ref b559)]
  refine Go.dup (pc' := 462) d_method_4_461 rfl rfl ?_
  refine Go.iconst (pc' := 463) d_method_4_462 rfl ic_2 ?_
  refine Go.bipush (pc' := 465) d_method_4_463 rfl icb_114 ?_
  refine Go.castoreV (pc' := 466) (i := 2) d_method_4_465 rfl (List.mem_of_getElem? (i := 0) rfl) V_b563 (by decide) (by decide) (by simp) ?_
  rw [show nar .char (114 : Int32) = (114 : Int32) from by decide]
  intro h571 W572 V_b563'
  replace E_b559 := E_b559.wr W572
  replace U_b559 := own_unt_wr W572 U_b559
  replace F_b559_coder := F_b559_coder.other W572 (Or.inl o_b559_b563)
  replace F_b559_value := F_b559_value.other W572 (Or.inl o_b559_b563)
  replace E_b563 := E_b563.wr W572
  replace V_b563 : Arv Z h571 b563 q566 .char (25 : Int32) [(.int (117 : Int32)), (.int (110 : Int32)), (.int (114 : Int32)), (.int (0 : Int32)), (.int (0 : Int32)), (.int (0 : Int32)), (.int (0 : Int32)), (.int (0 : Int32)), (.int (0 : Int32)), (.int (0 : Int32)), (.int (0 : Int32)), (.int (0 : Int32)), (.int (0 : Int32)), (.int (0 : Int32)), (.int (0 : Int32)), (.int (0 : Int32)), (.int (0 : Int32)), (.int (0 : Int32)), (.int (0 : Int32)), (.int (0 : Int32)), (.int (0 : Int32)), (.int (0 : Int32)), (.int (0 : Int32)), (.int (0 : Int32)), (.int (0 : Int32))] (.int (0 : Int32)) := V_b563'
  change Go _ _ _ _ _ _ _ _ _ _ _ _ _ _ [b563, b559] h571 2 29 466 #[.val (.int x), .val (.int y), .val (.int z), .val (.int (3 : Int32))] [(.ref b563), (.ref b559), (.ref b559)]
  refine Go.dup (pc' := 467) d_method_4_466 rfl rfl ?_
  refine Go.iconst (pc' := 468) d_method_4_467 rfl ic_3 ?_
  refine Go.bipush (pc' := 470) d_method_4_468 rfl icb_101 ?_
  refine Go.castoreV (pc' := 471) (i := 3) d_method_4_470 rfl (List.mem_of_getElem? (i := 0) rfl) V_b563 (by decide) (by decide) (by simp) ?_
  rw [show nar .char (101 : Int32) = (101 : Int32) from by decide]
  intro h573 W574 V_b563'
  replace E_b559 := E_b559.wr W574
  replace U_b559 := own_unt_wr W574 U_b559
  replace F_b559_coder := F_b559_coder.other W574 (Or.inl o_b559_b563)
  replace F_b559_value := F_b559_value.other W574 (Or.inl o_b559_b563)
  replace E_b563 := E_b563.wr W574
  replace V_b563 : Arv Z h573 b563 q566 .char (25 : Int32) [(.int (117 : Int32)), (.int (110 : Int32)), (.int (114 : Int32)), (.int (101 : Int32)), (.int (0 : Int32)), (.int (0 : Int32)), (.int (0 : Int32)), (.int (0 : Int32)), (.int (0 : Int32)), (.int (0 : Int32)), (.int (0 : Int32)), (.int (0 : Int32)), (.int (0 : Int32)), (.int (0 : Int32)), (.int (0 : Int32)), (.int (0 : Int32)), (.int (0 : Int32)), (.int (0 : Int32)), (.int (0 : Int32)), (.int (0 : Int32)), (.int (0 : Int32)), (.int (0 : Int32)), (.int (0 : Int32)), (.int (0 : Int32)), (.int (0 : Int32))] (.int (0 : Int32)) := V_b563'
  change Go _ _ _ _ _ _ _ _ _ _ _ _ _ _ [b563, b559] h573 2 29 471 #[.val (.int x), .val (.int y), .val (.int z), .val (.int (3 : Int32))] [(.ref b563), (.ref b559), (.ref b559)]
  refine Go.dup (pc' := 472) d_method_4_471 rfl rfl ?_
  refine Go.iconst (pc' := 473) d_method_4_472 rfl ic_4 ?_
  refine Go.bipush (pc' := 475) d_method_4_473 rfl icb_99 ?_
  refine Go.castoreV (pc' := 476) (i := 4) d_method_4_475 rfl (List.mem_of_getElem? (i := 0) rfl) V_b563 (by decide) (by decide) (by simp) ?_
  rw [show nar .char (99 : Int32) = (99 : Int32) from by decide]
  intro h575 W576 V_b563'
  replace E_b559 := E_b559.wr W576
  replace U_b559 := own_unt_wr W576 U_b559
  replace F_b559_coder := F_b559_coder.other W576 (Or.inl o_b559_b563)
  replace F_b559_value := F_b559_value.other W576 (Or.inl o_b559_b563)
  replace E_b563 := E_b563.wr W576
  replace V_b563 : Arv Z h575 b563 q566 .char (25 : Int32) [(.int (117 : Int32)), (.int (110 : Int32)), (.int (114 : Int32)), (.int (101 : Int32)), (.int (99 : Int32)), (.int (0 : Int32)), (.int (0 : Int32)), (.int (0 : Int32)), (.int (0 : Int32)), (.int (0 : Int32)), (.int (0 : Int32)), (.int (0 : Int32)), (.int (0 : Int32)), (.int (0 : Int32)), (.int (0 : Int32)), (.int (0 : Int32)), (.int (0 : Int32)), (.int (0 : Int32)), (.int (0 : Int32)), (.int (0 : Int32)), (.int (0 : Int32)), (.int (0 : Int32)), (.int (0 : Int32)), (.int (0 : Int32)), (.int (0 : Int32))] (.int (0 : Int32)) := V_b563'
  change Go _ _ _ _ _ _ _ _ _ _ _ _ _ _ [b563, b559] h575 2 29 476 #[.val (.int x), .val (.int y), .val (.int z), .val (.int (3 : Int32))] [(.ref b563), (.ref b559), (.ref b559)]
  refine Go.dup (pc' := 477) d_method_4_476 rfl rfl ?_
  refine Go.iconst (pc' := 478) d_method_4_477 rfl ic_5 ?_
  refine Go.bipush (pc' := 480) d_method_4_478 rfl icb_111 ?_
  refine Go.castoreV (pc' := 481) (i := 5) d_method_4_480 rfl (List.mem_of_getElem? (i := 0) rfl) V_b563 (by decide) (by decide) (by simp) ?_
  rw [show nar .char (111 : Int32) = (111 : Int32) from by decide]
  intro h577 W578 V_b563'
  replace E_b559 := E_b559.wr W578
  replace U_b559 := own_unt_wr W578 U_b559
  replace F_b559_coder := F_b559_coder.other W578 (Or.inl o_b559_b563)
  replace F_b559_value := F_b559_value.other W578 (Or.inl o_b559_b563)
  replace E_b563 := E_b563.wr W578
  replace V_b563 : Arv Z h577 b563 q566 .char (25 : Int32) [(.int (117 : Int32)), (.int (110 : Int32)), (.int (114 : Int32)), (.int (101 : Int32)), (.int (99 : Int32)), (.int (111 : Int32)), (.int (0 : Int32)), (.int (0 : Int32)), (.int (0 : Int32)), (.int (0 : Int32)), (.int (0 : Int32)), (.int (0 : Int32)), (.int (0 : Int32)), (.int (0 : Int32)), (.int (0 : Int32)), (.int (0 : Int32)), (.int (0 : Int32)), (.int (0 : Int32)), (.int (0 : Int32)), (.int (0 : Int32)), (.int (0 : Int32)), (.int (0 : Int32)), (.int (0 : Int32)), (.int (0 : Int32)), (.int (0 : Int32))] (.int (0 : Int32)) := V_b563'
  change Go _ _ _ _ _ _ _ _ _ _ _ _ _ _ [b563, b559] h577 2 29 481 #[.val (.int x), .val (.int y), .val (.int z), .val (.int (3 : Int32))] [(.ref b563), (.ref b559), (.ref b559)]
  refine Go.dup (pc' := 482) d_method_4_481 rfl rfl ?_
  refine Go.bipush (pc' := 484) d_method_4_482 rfl icb_6 ?_
  refine Go.bipush (pc' := 486) d_method_4_484 rfl icb_103 ?_
  refine Go.castoreV (pc' := 487) (i := 6) d_method_4_486 rfl (List.mem_of_getElem? (i := 0) rfl) V_b563 (by decide) (by decide) (by simp) ?_
  rw [show nar .char (103 : Int32) = (103 : Int32) from by decide]
  intro h579 W580 V_b563'
  replace E_b559 := E_b559.wr W580
  replace U_b559 := own_unt_wr W580 U_b559
  replace F_b559_coder := F_b559_coder.other W580 (Or.inl o_b559_b563)
  replace F_b559_value := F_b559_value.other W580 (Or.inl o_b559_b563)
  replace E_b563 := E_b563.wr W580
  replace V_b563 : Arv Z h579 b563 q566 .char (25 : Int32) [(.int (117 : Int32)), (.int (110 : Int32)), (.int (114 : Int32)), (.int (101 : Int32)), (.int (99 : Int32)), (.int (111 : Int32)), (.int (103 : Int32)), (.int (0 : Int32)), (.int (0 : Int32)), (.int (0 : Int32)), (.int (0 : Int32)), (.int (0 : Int32)), (.int (0 : Int32)), (.int (0 : Int32)), (.int (0 : Int32)), (.int (0 : Int32)), (.int (0 : Int32)), (.int (0 : Int32)), (.int (0 : Int32)), (.int (0 : Int32)), (.int (0 : Int32)), (.int (0 : Int32)), (.int (0 : Int32)), (.int (0 : Int32)), (.int (0 : Int32))] (.int (0 : Int32)) := V_b563'
  change Go _ _ _ _ _ _ _ _ _ _ _ _ _ _ [b563, b559] h579 2 29 487 #[.val (.int x), .val (.int y), .val (.int z), .val (.int (3 : Int32))] [(.ref b563), (.ref b559), (.ref b559)]
  refine Go.dup (pc' := 488) d_method_4_487 rfl rfl ?_
  refine Go.bipush (pc' := 490) d_method_4_488 rfl icb_7 ?_
  refine Go.bipush (pc' := 492) d_method_4_490 rfl icb_110 ?_
  refine Go.castoreV (pc' := 493) (i := 7) d_method_4_492 rfl (List.mem_of_getElem? (i := 0) rfl) V_b563 (by decide) (by decide) (by simp) ?_
  rw [show nar .char (110 : Int32) = (110 : Int32) from by decide]
  intro h581 W582 V_b563'
  replace E_b559 := E_b559.wr W582
  replace U_b559 := own_unt_wr W582 U_b559
  replace F_b559_coder := F_b559_coder.other W582 (Or.inl o_b559_b563)
  replace F_b559_value := F_b559_value.other W582 (Or.inl o_b559_b563)
  replace E_b563 := E_b563.wr W582
  replace V_b563 : Arv Z h581 b563 q566 .char (25 : Int32) [(.int (117 : Int32)), (.int (110 : Int32)), (.int (114 : Int32)), (.int (101 : Int32)), (.int (99 : Int32)), (.int (111 : Int32)), (.int (103 : Int32)), (.int (110 : Int32)), (.int (0 : Int32)), (.int (0 : Int32)), (.int (0 : Int32)), (.int (0 : Int32)), (.int (0 : Int32)), (.int (0 : Int32)), (.int (0 : Int32)), (.int (0 : Int32)), (.int (0 : Int32)), (.int (0 : Int32)), (.int (0 : Int32)), (.int (0 : Int32)), (.int (0 : Int32)), (.int (0 : Int32)), (.int (0 : Int32)), (.int (0 : Int32)), (.int (0 : Int32))] (.int (0 : Int32)) := V_b563'
  change Go _ _ _ _ _ _ _ _ _ _ _ _ _ _ [b563, b559] h581 2 29 493 #[.val (.int x), .val (.int y), .val (.int z), .val (.int (3 : Int32))] [(.ref b563), (.ref b559), (.ref b559)]
  refine Go.dup (pc' := 494) d_method_4_493 rfl rfl ?_
  refine Go.bipush (pc' := 496) d_method_4_494 rfl icb_8 ?_
  refine Go.bipush (pc' := 498) d_method_4_496 rfl icb_105 ?_
  refine Go.castoreV (pc' := 499) (i := 8) d_method_4_498 rfl (List.mem_of_getElem? (i := 0) rfl) V_b563 (by decide) (by decide) (by simp) ?_
  rw [show nar .char (105 : Int32) = (105 : Int32) from by decide]
  intro h583 W584 V_b563'
  replace E_b559 := E_b559.wr W584
  replace U_b559 := own_unt_wr W584 U_b559
  replace F_b559_coder := F_b559_coder.other W584 (Or.inl o_b559_b563)
  replace F_b559_value := F_b559_value.other W584 (Or.inl o_b559_b563)
  replace E_b563 := E_b563.wr W584
  replace V_b563 : Arv Z h583 b563 q566 .char (25 : Int32) [(.int (117 : Int32)), (.int (110 : Int32)), (.int (114 : Int32)), (.int (101 : Int32)), (.int (99 : Int32)), (.int (111 : Int32)), (.int (103 : Int32)), (.int (110 : Int32)), (.int (105 : Int32)), (.int (0 : Int32)), (.int (0 : Int32)), (.int (0 : Int32)), (.int (0 : Int32)), (.int (0 : Int32)), (.int (0 : Int32)), (.int (0 : Int32)), (.int (0 : Int32)), (.int (0 : Int32)), (.int (0 : Int32)), (.int (0 : Int32)), (.int (0 : Int32)), (.int (0 : Int32)), (.int (0 : Int32)), (.int (0 : Int32)), (.int (0 : Int32))] (.int (0 : Int32)) := V_b563'
  change Go _ _ _ _ _ _ _ _ _ _ _ _ _ _ [b563, b559] h583 2 29 499 #[.val (.int x), .val (.int y), .val (.int z), .val (.int (3 : Int32))] [(.ref b563), (.ref b559), (.ref b559)]
  refine Go.dup (pc' := 500) d_method_4_499 rfl rfl ?_
  refine Go.bipush (pc' := 502) d_method_4_500 rfl icb_9 ?_
  refine Go.bipush (pc' := 504) d_method_4_502 rfl icb_122 ?_
  refine Go.castoreV (pc' := 505) (i := 9) d_method_4_504 rfl (List.mem_of_getElem? (i := 0) rfl) V_b563 (by decide) (by decide) (by simp) ?_
  rw [show nar .char (122 : Int32) = (122 : Int32) from by decide]
  intro h585 W586 V_b563'
  replace E_b559 := E_b559.wr W586
  replace U_b559 := own_unt_wr W586 U_b559
  replace F_b559_coder := F_b559_coder.other W586 (Or.inl o_b559_b563)
  replace F_b559_value := F_b559_value.other W586 (Or.inl o_b559_b563)
  replace E_b563 := E_b563.wr W586
  replace V_b563 : Arv Z h585 b563 q566 .char (25 : Int32) [(.int (117 : Int32)), (.int (110 : Int32)), (.int (114 : Int32)), (.int (101 : Int32)), (.int (99 : Int32)), (.int (111 : Int32)), (.int (103 : Int32)), (.int (110 : Int32)), (.int (105 : Int32)), (.int (122 : Int32)), (.int (0 : Int32)), (.int (0 : Int32)), (.int (0 : Int32)), (.int (0 : Int32)), (.int (0 : Int32)), (.int (0 : Int32)), (.int (0 : Int32)), (.int (0 : Int32)), (.int (0 : Int32)), (.int (0 : Int32)), (.int (0 : Int32)), (.int (0 : Int32)), (.int (0 : Int32)), (.int (0 : Int32)), (.int (0 : Int32))] (.int (0 : Int32)) := V_b563'
  change Go _ _ _ _ _ _ _ _ _ _ _ _ _ _ [b563, b559] h585 2 29 505 #[.val (.int x), .val (.int y), .val (.int z), .val (.int (3 : Int32))] [(.ref b563), (.ref b559), (.ref b559)]
  refine Go.dup (pc' := 506) d_method_4_505 rfl rfl ?_
  refine Go.bipush (pc' := 508) d_method_4_506 rfl icb_10 ?_
  refine Go.bipush (pc' := 510) d_method_4_508 rfl icb_101 ?_
  refine Go.castoreV (pc' := 511) (i := 10) d_method_4_510 rfl (List.mem_of_getElem? (i := 0) rfl) V_b563 (by decide) (by decide) (by simp) ?_
  rw [show nar .char (101 : Int32) = (101 : Int32) from by decide]
  intro h587 W588 V_b563'
  replace E_b559 := E_b559.wr W588
  replace U_b559 := own_unt_wr W588 U_b559
  replace F_b559_coder := F_b559_coder.other W588 (Or.inl o_b559_b563)
  replace F_b559_value := F_b559_value.other W588 (Or.inl o_b559_b563)
  replace E_b563 := E_b563.wr W588
  replace V_b563 : Arv Z h587 b563 q566 .char (25 : Int32) [(.int (117 : Int32)), (.int (110 : Int32)), (.int (114 : Int32)), (.int (101 : Int32)), (.int (99 : Int32)), (.int (111 : Int32)), (.int (103 : Int32)), (.int (110 : Int32)), (.int (105 : Int32)), (.int (122 : Int32)), (.int (101 : Int32)), (.int (0 : Int32)), (.int (0 : Int32)), (.int (0 : Int32)), (.int (0 : Int32)), (.int (0 : Int32)), (.int (0 : Int32)), (.int (0 : Int32)), (.int (0 : Int32)), (.int (0 : Int32)), (.int (0 : Int32)), (.int (0 : Int32)), (.int (0 : Int32)), (.int (0 : Int32)), (.int (0 : Int32))] (.int (0 : Int32)) := V_b563'
  change Go _ _ _ _ _ _ _ _ _ _ _ _ _ _ [b563, b559] h587 2 29 511 #[.val (.int x), .val (.int y), .val (.int z), .val (.int (3 : Int32))] [(.ref b563), (.ref b559), (.ref b559)]
  refine Go.dup (pc' := 512) d_method_4_511 rfl rfl ?_
  refine Go.bipush (pc' := 514) d_method_4_512 rfl icb_11 ?_
  refine Go.bipush (pc' := 516) d_method_4_514 rfl icb_100 ?_
  refine Go.castoreV (pc' := 517) (i := 11) d_method_4_516 rfl (List.mem_of_getElem? (i := 0) rfl) V_b563 (by decide) (by decide) (by simp) ?_
  rw [show nar .char (100 : Int32) = (100 : Int32) from by decide]
  intro h589 W590 V_b563'
  replace E_b559 := E_b559.wr W590
  replace U_b559 := own_unt_wr W590 U_b559
  replace F_b559_coder := F_b559_coder.other W590 (Or.inl o_b559_b563)
  replace F_b559_value := F_b559_value.other W590 (Or.inl o_b559_b563)
  replace E_b563 := E_b563.wr W590
  replace V_b563 : Arv Z h589 b563 q566 .char (25 : Int32) [(.int (117 : Int32)), (.int (110 : Int32)), (.int (114 : Int32)), (.int (101 : Int32)), (.int (99 : Int32)), (.int (111 : Int32)), (.int (103 : Int32)), (.int (110 : Int32)), (.int (105 : Int32)), (.int (122 : Int32)), (.int (101 : Int32)), (.int (100 : Int32)), (.int (0 : Int32)), (.int (0 : Int32)), (.int (0 : Int32)), (.int (0 : Int32)), (.int (0 : Int32)), (.int (0 : Int32)), (.int (0 : Int32)), (.int (0 : Int32)), (.int (0 : Int32)), (.int (0 : Int32)), (.int (0 : Int32)), (.int (0 : Int32)), (.int (0 : Int32))] (.int (0 : Int32)) := V_b563'
  change Go _ _ _ _ _ _ _ _ _ _ _ _ _ _ [b563, b559] h589 2 29 517 #[.val (.int x), .val (.int y), .val (.int z), .val (.int (3 : Int32))] [(.ref b563), (.ref b559), (.ref b559)]
  refine Go.dup (pc' := 518) d_method_4_517 rfl rfl ?_
  refine Go.bipush (pc' := 520) d_method_4_518 rfl icb_12 ?_
  refine Go.bipush (pc' := 522) d_method_4_520 rfl icb_32 ?_
  refine Go.castoreV (pc' := 523) (i := 12) d_method_4_522 rfl (List.mem_of_getElem? (i := 0) rfl) V_b563 (by decide) (by decide) (by simp) ?_
  rw [show nar .char (32 : Int32) = (32 : Int32) from by decide]
  intro h591 W592 V_b563'
  replace E_b559 := E_b559.wr W592
  replace U_b559 := own_unt_wr W592 U_b559
  replace F_b559_coder := F_b559_coder.other W592 (Or.inl o_b559_b563)
  replace F_b559_value := F_b559_value.other W592 (Or.inl o_b559_b563)
  replace E_b563 := E_b563.wr W592
  replace V_b563 : Arv Z h591 b563 q566 .char (25 : Int32) [(.int (117 : Int32)), (.int (110 : Int32)), (.int (114 : Int32)), (.int (101 : Int32)), (.int (99 : Int32)), (.int (111 : Int32)), (.int (103 : Int32)), (.int (110 : Int32)), (.int (105 : Int32)), (.int (122 : Int32)), (.int (101 : Int32)), (.int (100 : Int32)), (.int (32 : Int32)), (.int (0 : Int32)), (.int (0 : Int32)), (.int (0 : Int32)), (.int (0 : Int32)), (.int (0 : Int32)), (.int (0 : Int32)), (.int (0 : Int32)), (.int (0 : Int32)), (.int (0 : Int32)), (.int (0 : Int32)), (.int (0 : Int32)), (.int (0 : Int32))] (.int (0 : Int32)) := V_b563'
  change Go _ _ _ _ _ _ _ _ _ _ _ _ _ _ [b563, b559] h591 2 29 523 #[.val (.int x), .val (.int y), .val (.int z), .val (.int (3 : Int32))] [(.ref b563), (.ref b559), (.ref b559)]
  refine Go.dup (pc' := 524) d_method_4_523 rfl rfl ?_
  refine Go.bipush (pc' := 526) d_method_4_524 rfl icb_13 ?_
  refine Go.bipush (pc' := 528) d_method_4_526 rfl icb_111 ?_
  refine Go.castoreV (pc' := 529) (i := 13) d_method_4_528 rfl (List.mem_of_getElem? (i := 0) rfl) V_b563 (by decide) (by decide) (by simp) ?_
  rw [show nar .char (111 : Int32) = (111 : Int32) from by decide]
  intro h593 W594 V_b563'
  replace E_b559 := E_b559.wr W594
  replace U_b559 := own_unt_wr W594 U_b559
  replace F_b559_coder := F_b559_coder.other W594 (Or.inl o_b559_b563)
  replace F_b559_value := F_b559_value.other W594 (Or.inl o_b559_b563)
  replace E_b563 := E_b563.wr W594
  replace V_b563 : Arv Z h593 b563 q566 .char (25 : Int32) [(.int (117 : Int32)), (.int (110 : Int32)), (.int (114 : Int32)), (.int (101 : Int32)), (.int (99 : Int32)), (.int (111 : Int32)), (.int (103 : Int32)), (.int (110 : Int32)), (.int (105 : Int32)), (.int (122 : Int32)), (.int (101 : Int32)), (.int (100 : Int32)), (.int (32 : Int32)), (.int (111 : Int32)), (.int (0 : Int32)), (.int (0 : Int32)), (.int (0 : Int32)), (.int (0 : Int32)), (.int (0 : Int32)), (.int (0 : Int32)), (.int (0 : Int32)), (.int (0 : Int32)), (.int (0 : Int32)), (.int (0 : Int32)), (.int (0 : Int32))] (.int (0 : Int32)) := V_b563'
  change Go _ _ _ _ _ _ _ _ _ _ _ _ _ _ [b563, b559] h593 2 29 529 #[.val (.int x), .val (.int y), .val (.int z), .val (.int (3 : Int32))] [(.ref b563), (.ref b559), (.ref b559)]
  refine Go.dup (pc' := 530) d_method_4_529 rfl rfl ?_
  refine Go.bipush (pc' := 532) d_method_4_530 rfl icb_14 ?_
  refine Go.bipush (pc' := 534) d_method_4_532 rfl icb_112 ?_
  refine Go.castoreV (pc' := 535) (i := 14) d_method_4_534 rfl (List.mem_of_getElem? (i := 0) rfl) V_b563 (by decide) (by decide) (by simp) ?_
  rw [show nar .char (112 : Int32) = (112 : Int32) from by decide]
  intro h595 W596 V_b563'
  replace E_b559 := E_b559.wr W596
  replace U_b559 := own_unt_wr W596 U_b559
  replace F_b559_coder := F_b559_coder.other W596 (Or.inl o_b559_b563)
  replace F_b559_value := F_b559_value.other W596 (Or.inl o_b559_b563)
  replace E_b563 := E_b563.wr W596
  replace V_b563 : Arv Z h595 b563 q566 .char (25 : Int32) [(.int (117 : Int32)), (.int (110 : Int32)), (.int (114 : Int32)), (.int (101 : Int32)), (.int (99 : Int32)), (.int (111 : Int32)), (.int (103 : Int32)), (.int (110 : Int32)), (.int (105 : Int32)), (.int (122 : Int32)), (.int (101 : Int32)), (.int (100 : Int32)), (.int (32 : Int32)), (.int (111 : Int32)), (.int (112 : Int32)), (.int (0 : Int32)), (.int (0 : Int32)), (.int (0 : Int32)), (.int (0 : Int32)), (.int (0 : Int32)), (.int (0 : Int32)), (.int (0 : Int32)), (.int (0 : Int32)), (.int (0 : Int32)), (.int (0 : Int32))] (.int (0 : Int32)) := V_b563'
  change Go _ _ _ _ _ _ _ _ _ _ _ _ _ _ [b563, b559] h595 2 29 535 #[.val (.int x), .val (.int y), .val (.int z), .val (.int (3 : Int32))] [(.ref b563), (.ref b559), (.ref b559)]
  refine Go.dup (pc' := 536) d_method_4_535 rfl rfl ?_
  refine Go.bipush (pc' := 538) d_method_4_536 rfl icb_15 ?_
  refine Go.bipush (pc' := 540) d_method_4_538 rfl icb_116 ?_
  refine Go.castoreV (pc' := 541) (i := 15) d_method_4_540 rfl (List.mem_of_getElem? (i := 0) rfl) V_b563 (by decide) (by decide) (by simp) ?_
  rw [show nar .char (116 : Int32) = (116 : Int32) from by decide]
  intro h597 W598 V_b563'
  replace E_b559 := E_b559.wr W598
  replace U_b559 := own_unt_wr W598 U_b559
  replace F_b559_coder := F_b559_coder.other W598 (Or.inl o_b559_b563)
  replace F_b559_value := F_b559_value.other W598 (Or.inl o_b559_b563)
  replace E_b563 := E_b563.wr W598
  replace V_b563 : Arv Z h597 b563 q566 .char (25 : Int32) [(.int (117 : Int32)), (.int (110 : Int32)), (.int (114 : Int32)), (.int (101 : Int32)), (.int (99 : Int32)), (.int (111 : Int32)), (.int (103 : Int32)), (.int (110 : Int32)), (.int (105 : Int32)), (.int (122 : Int32)), (.int (101 : Int32)), (.int (100 : Int32)), (.int (32 : Int32)), (.int (111 : Int32)), (.int (112 : Int32)), (.int (116 : Int32)), (.int (0 : Int32)), (.int (0 : Int32)), (.int (0 : Int32)), (.int (0 : Int32)), (.int (0 : Int32)), (.int (0 : Int32)), (.int (0 : Int32)), (.int (0 : Int32)), (.int (0 : Int32))] (.int (0 : Int32)) := V_b563'
  change Go _ _ _ _ _ _ _ _ _ _ _ _ _ _ [b563, b559] h597 2 29 541 #[.val (.int x), .val (.int y), .val (.int z), .val (.int (3 : Int32))] [(.ref b563), (.ref b559), (.ref b559)]
  refine Go.dup (pc' := 542) d_method_4_541 rfl rfl ?_
  refine Go.bipush (pc' := 544) d_method_4_542 rfl icb_16 ?_
  refine Go.bipush (pc' := 546) d_method_4_544 rfl icb_105 ?_
  refine Go.castoreV (pc' := 547) (i := 16) d_method_4_546 rfl (List.mem_of_getElem? (i := 0) rfl) V_b563 (by decide) (by decide) (by simp) ?_
  rw [show nar .char (105 : Int32) = (105 : Int32) from by decide]
  intro h599 W600 V_b563'
  replace E_b559 := E_b559.wr W600
  replace U_b559 := own_unt_wr W600 U_b559
  replace F_b559_coder := F_b559_coder.other W600 (Or.inl o_b559_b563)
  replace F_b559_value := F_b559_value.other W600 (Or.inl o_b559_b563)
  replace E_b563 := E_b563.wr W600
  replace V_b563 : Arv Z h599 b563 q566 .char (25 : Int32) [(.int (117 : Int32)), (.int (110 : Int32)), (.int (114 : Int32)), (.int (101 : Int32)), (.int (99 : Int32)), (.int (111 : Int32)), (.int (103 : Int32)), (.int (110 : Int32)), (.int (105 : Int32)), (.int (122 : Int32)), (.int (101 : Int32)), (.int (100 : Int32)), (.int (32 : Int32)), (.int (111 : Int32)), (.int (112 : Int32)), (.int (116 : Int32)), (.int (105 : Int32)), (.int (0 : Int32)), (.int (0 : Int32)), (.int (0 : Int32)), (.int (0 : Int32)), (.int (0 : Int32)), (.int (0 : Int32)), (.int (0 : Int32)), (.int (0 : Int32))] (.int (0 : Int32)) := V_b563'
  change Go _ _ _ _ _ _ _ _ _ _ _ _ _ _ [b563, b559] h599 2 29 547 #[.val (.int x), .val (.int y), .val (.int z), .val (.int (3 : Int32))] [(.ref b563), (.ref b559), (.ref b559)]
  refine Go.dup (pc' := 548) d_method_4_547 rfl rfl ?_
  refine Go.bipush (pc' := 550) d_method_4_548 rfl icb_17 ?_
  refine Go.bipush (pc' := 552) d_method_4_550 rfl icb_111 ?_
  refine Go.castoreV (pc' := 553) (i := 17) d_method_4_552 rfl (List.mem_of_getElem? (i := 0) rfl) V_b563 (by decide) (by decide) (by simp) ?_
  rw [show nar .char (111 : Int32) = (111 : Int32) from by decide]
  intro h601 W602 V_b563'
  replace E_b559 := E_b559.wr W602
  replace U_b559 := own_unt_wr W602 U_b559
  replace F_b559_coder := F_b559_coder.other W602 (Or.inl o_b559_b563)
  replace F_b559_value := F_b559_value.other W602 (Or.inl o_b559_b563)
  replace E_b563 := E_b563.wr W602
  replace V_b563 : Arv Z h601 b563 q566 .char (25 : Int32) [(.int (117 : Int32)), (.int (110 : Int32)), (.int (114 : Int32)), (.int (101 : Int32)), (.int (99 : Int32)), (.int (111 : Int32)), (.int (103 : Int32)), (.int (110 : Int32)), (.int (105 : Int32)), (.int (122 : Int32)), (.int (101 : Int32)), (.int (100 : Int32)), (.int (32 : Int32)), (.int (111 : Int32)), (.int (112 : Int32)), (.int (116 : Int32)), (.int (105 : Int32)), (.int (111 : Int32)), (.int (0 : Int32)), (.int (0 : Int32)), (.int (0 : Int32)), (.int (0 : Int32)), (.int (0 : Int32)), (.int (0 : Int32)), (.int (0 : Int32))] (.int (0 : Int32)) := V_b563'
  change Go _ _ _ _ _ _ _ _ _ _ _ _ _ _ [b563, b559] h601 2 29 553 #[.val (.int x), .val (.int y), .val (.int z), .val (.int (3 : Int32))] [(.ref b563), (.ref b559), (.ref b559)]
  refine Go.dup (pc' := 554) d_method_4_553 rfl rfl ?_
  refine Go.bipush (pc' := 556) d_method_4_554 rfl icb_18 ?_
  refine Go.bipush (pc' := 558) d_method_4_556 rfl icb_110 ?_
  refine Go.castoreV (pc' := 559) (i := 18) d_method_4_558 rfl (List.mem_of_getElem? (i := 0) rfl) V_b563 (by decide) (by decide) (by simp) ?_
  rw [show nar .char (110 : Int32) = (110 : Int32) from by decide]
  intro h603 W604 V_b563'
  replace E_b559 := E_b559.wr W604
  replace U_b559 := own_unt_wr W604 U_b559
  replace F_b559_coder := F_b559_coder.other W604 (Or.inl o_b559_b563)
  replace F_b559_value := F_b559_value.other W604 (Or.inl o_b559_b563)
  replace E_b563 := E_b563.wr W604
  replace V_b563 : Arv Z h603 b563 q566 .char (25 : Int32) [(.int (117 : Int32)), (.int (110 : Int32)), (.int (114 : Int32)), (.int (101 : Int32)), (.int (99 : Int32)), (.int (111 : Int32)), (.int (103 : Int32)), (.int (110 : Int32)), (.int (105 : Int32)), (.int (122 : Int32)), (.int (101 : Int32)), (.int (100 : Int32)), (.int (32 : Int32)), (.int (111 : Int32)), (.int (112 : Int32)), (.int (116 : Int32)), (.int (105 : Int32)), (.int (111 : Int32)), (.int (110 : Int32)), (.int (0 : Int32)), (.int (0 : Int32)), (.int (0 : Int32)), (.int (0 : Int32)), (.int (0 : Int32)), (.int (0 : Int32))] (.int (0 : Int32)) := V_b563'
  change Go _ _ _ _ _ _ _ _ _ _ _ _ _ _ [b563, b559] h603 2 29 559 #[.val (.int x), .val (.int y), .val (.int z), .val (.int (3 : Int32))] [(.ref b563), (.ref b559), (.ref b559)]
  refine Go.dup (pc' := 560) d_method_4_559 rfl rfl ?_
  refine Go.bipush (pc' := 562) d_method_4_560 rfl icb_19 ?_
  refine Go.bipush (pc' := 564) d_method_4_562 rfl icb_32 ?_
  refine Go.castoreV (pc' := 565) (i := 19) d_method_4_564 rfl (List.mem_of_getElem? (i := 0) rfl) V_b563 (by decide) (by decide) (by simp) ?_
  rw [show nar .char (32 : Int32) = (32 : Int32) from by decide]
  intro h605 W606 V_b563'
  replace E_b559 := E_b559.wr W606
  replace U_b559 := own_unt_wr W606 U_b559
  replace F_b559_coder := F_b559_coder.other W606 (Or.inl o_b559_b563)
  replace F_b559_value := F_b559_value.other W606 (Or.inl o_b559_b563)
  replace E_b563 := E_b563.wr W606
  replace V_b563 : Arv Z h605 b563 q566 .char (25 : Int32) [(.int (117 : Int32)), (.int (110 : Int32)), (.int (114 : Int32)), (.int (101 : Int32)), (.int (99 : Int32)), (.int (111 : Int32)), (.int (103 : Int32)), (.int (110 : Int32)), (.int (105 : Int32)), (.int (122 : Int32)), (.int (101 : Int32)), (.int (100 : Int32)), (.int (32 : Int32)), (.int (111 : Int32)), (.int (112 : Int32)), (.int (116 : Int32)), (.int (105 : Int32)), (.int (111 : Int32)), (.int (110 : Int32)), (.int (32 : Int32)), (.int (0 : Int32)), (.int (0 : Int32)), (.int (0 : Int32)), (.int (0 : Int32)), (.int (0 : Int32))] (.int (0 : Int32)) := V_b563'
  change Go _ _ _ _ _ _ _ _ _ _ _ _ _ _ [b563, b559] h605 2 29 565 #[.val (.int x), .val (.int y), .val (.int z), .val (.int (3 : Int32))] [(.ref b563), (.ref b559), (.ref b559)]
  refine Go.dup (pc' := 566) d_method_4_565 rfl rfl ?_
  refine Go.bipush (pc' := 568) d_method_4_566 rfl icb_20 ?_
  refine Go.bipush (pc' := 570) d_method_4_568 rfl icb_39 ?_
  refine Go.castoreV (pc' := 571) (i := 20) d_method_4_570 rfl (List.mem_of_getElem? (i := 0) rfl) V_b563 (by decide) (by decide) (by simp) ?_
  rw [show nar .char (39 : Int32) = (39 : Int32) from by decide]
  intro h607 W608 V_b563'
  replace E_b559 := E_b559.wr W608
  replace U_b559 := own_unt_wr W608 U_b559
  replace F_b559_coder := F_b559_coder.other W608 (Or.inl o_b559_b563)
  replace F_b559_value := F_b559_value.other W608 (Or.inl o_b559_b563)
  replace E_b563 := E_b563.wr W608
  replace V_b563 : Arv Z h607 b563 q566 .char (25 : Int32) [(.int (117 : Int32)), (.int (110 : Int32)), (.int (114 : Int32)), (.int (101 : Int32)), (.int (99 : Int32)), (.int (111 : Int32)), (.int (103 : Int32)), (.int (110 : Int32)), (.int (105 : Int32)), (.int (122 : Int32)), (.int (101 : Int32)), (.int (100 : Int32)), (.int (32 : Int32)), (.int (111 : Int32)), (.int (112 : Int32)), (.int (116 : Int32)), (.int (105 : Int32)), (.int (111 : Int32)), (.int (110 : Int32)), (.int (32 : Int32)), (.int (39 : Int32)), (.int (0 : Int32)), (.int (0 : Int32)), (.int (0 : Int32)), (.int (0 : Int32))] (.int (0 : Int32)) := V_b563'
  change Go _ _ _ _ _ _ _ _ _ _ _ _ _ _ [b563, b559] h607 2 29 571 #[.val (.int x), .val (.int y), .val (.int z), .val (.int (3 : Int32))] [(.ref b563), (.ref b559), (.ref b559)]
  refine Go.dup (pc' := 572) d_method_4_571 rfl rfl ?_
  refine Go.bipush (pc' := 574) d_method_4_572 rfl icb_21 ?_
  refine Go.iload_n (pc' := 575) d_method_4_574 rfl rfl ?_
  refine Go.castoreV (pc' := 576) (i := 21) d_method_4_575 rfl (List.mem_of_getElem? (i := 0) rfl) V_b563 (by decide) (by decide) (by simp) ?_
  rw [nar_char hx_x.1 (le255 hx_x.2)]
  intro h609 W610 V_b563'
  replace E_b559 := E_b559.wr W610
  replace U_b559 := own_unt_wr W610 U_b559
  replace F_b559_coder := F_b559_coder.other W610 (Or.inl o_b559_b563)
  replace F_b559_value := F_b559_value.other W610 (Or.inl o_b559_b563)
  replace E_b563 := E_b563.wr W610
  replace V_b563 : Arv Z h609 b563 q566 .char (25 : Int32) [(.int (117 : Int32)), (.int (110 : Int32)), (.int (114 : Int32)), (.int (101 : Int32)), (.int (99 : Int32)), (.int (111 : Int32)), (.int (103 : Int32)), (.int (110 : Int32)), (.int (105 : Int32)), (.int (122 : Int32)), (.int (101 : Int32)), (.int (100 : Int32)), (.int (32 : Int32)), (.int (111 : Int32)), (.int (112 : Int32)), (.int (116 : Int32)), (.int (105 : Int32)), (.int (111 : Int32)), (.int (110 : Int32)), (.int (32 : Int32)), (.int (39 : Int32)), (.int x), (.int (0 : Int32)), (.int (0 : Int32)), (.int (0 : Int32))] (.int (0 : Int32)) := V_b563'
  change Go _ _ _ _ _ _ _ _ _ _ _ _ _ _ [b563, b559] h609 2 29 576 #[.val (.int x), .val (.int y), .val (.int z), .val (.int (3 : Int32))] [(.ref b563), (.ref b559), (.ref b559)]
  refine Go.dup (pc' := 577) d_method_4_576 rfl rfl ?_
  refine Go.bipush (pc' := 579) d_method_4_577 rfl icb_22 ?_
  refine Go.iload_n (pc' := 580) d_method_4_579 rfl rfl ?_
  refine Go.castoreV (pc' := 581) (i := 22) d_method_4_580 rfl (List.mem_of_getElem? (i := 0) rfl) V_b563 (by decide) (by decide) (by simp) ?_
  rw [nar_char hx_y.1 (le255 hx_y.2)]
  intro h611 W612 V_b563'
  replace E_b559 := E_b559.wr W612
  replace U_b559 := own_unt_wr W612 U_b559
  replace F_b559_coder := F_b559_coder.other W612 (Or.inl o_b559_b563)
  replace F_b559_value := F_b559_value.other W612 (Or.inl o_b559_b563)
  replace E_b563 := E_b563.wr W612
  replace V_b563 : Arv Z h611 b563 q566 .char (25 : Int32) [(.int (117 : Int32)), (.int (110 : Int32)), (.int (114 : Int32)), (.int (101 : Int32)), (.int (99 : Int32)), (.int (111 : Int32)), (.int (103 : Int32)), (.int (110 : Int32)), (.int (105 : Int32)), (.int (122 : Int32)), (.int (101 : Int32)), (.int (100 : Int32)), (.int (32 : Int32)), (.int (111 : Int32)), (.int (112 : Int32)), (.int (116 : Int32)), (.int (105 : Int32)), (.int (111 : Int32)), (.int (110 : Int32)), (.int (32 : Int32)), (.int (39 : Int32)), (.int x), (.int y), (.int (0 : Int32)), (.int (0 : Int32))] (.int (0 : Int32)) := V_b563'
  change Go _ _ _ _ _ _ _ _ _ _ _ _ _ _ [b563, b559] h611 2 29 581 #[.val (.int x), .val (.int y), .val (.int z), .val (.int (3 : Int32))] [(.ref b563), (.ref b559), (.ref b559)]
  refine Go.dup (pc' := 582) d_method_4_581 rfl rfl ?_
  refine Go.bipush (pc' := 584) d_method_4_582 rfl icb_23 ?_
  refine Go.iload_n (pc' := 585) d_method_4_584 rfl rfl ?_
  refine Go.castoreV (pc' := 586) (i := 23) d_method_4_585 rfl (List.mem_of_getElem? (i := 0) rfl) V_b563 (by decide) (by decide) (by simp) ?_
  rw [nar_char hx_z.1 (le255 hx_z.2)]
  intro h613 W614 V_b563'
  replace E_b559 := E_b559.wr W614
  replace U_b559 := own_unt_wr W614 U_b559
  replace F_b559_coder := F_b559_coder.other W614 (Or.inl o_b559_b563)
  replace F_b559_value := F_b559_value.other W614 (Or.inl o_b559_b563)
  replace E_b563 := E_b563.wr W614
  replace V_b563 : Arv Z h613 b563 q566 .char (25 : Int32) [(.int (117 : Int32)), (.int (110 : Int32)), (.int (114 : Int32)), (.int (101 : Int32)), (.int (99 : Int32)), (.int (111 : Int32)), (.int (103 : Int32)), (.int (110 : Int32)), (.int (105 : Int32)), (.int (122 : Int32)), (.int (101 : Int32)), (.int (100 : Int32)), (.int (32 : Int32)), (.int (111 : Int32)), (.int (112 : Int32)), (.int (116 : Int32)), (.int (105 : Int32)), (.int (111 : Int32)), (.int (110 : Int32)), (.int (32 : Int32)), (.int (39 : Int32)), (.int x), (.int y), (.int z), (.int (0 : Int32))] (.int (0 : Int32)) := V_b563'
  change Go _ _ _ _ _ _ _ _ _ _ _ _ _ _ [b563, b559] h613 2 29 586 #[.val (.int x), .val (.int y), .val (.int z), .val (.int (3 : Int32))] [(.ref b563), (.ref b559), (.ref b559)]
  refine Go.dup (pc' := 587) d_method_4_586 rfl rfl ?_
  refine Go.bipush (pc' := 589) d_method_4_587 rfl icb_24 ?_
  refine Go.bipush (pc' := 591) d_method_4_589 rfl icb_39 ?_
  refine Go.castoreV (pc' := 592) (i := 24) d_method_4_591 rfl (List.mem_of_getElem? (i := 0) rfl) V_b563 (by decide) (by decide) (by simp) ?_
  rw [show nar .char (39 : Int32) = (39 : Int32) from by decide]
  intro h615 W616 V_b563'
  replace E_b559 := E_b559.wr W616
  replace U_b559 := own_unt_wr W616 U_b559
  replace F_b559_coder := F_b559_coder.other W616 (Or.inl o_b559_b563)
  replace F_b559_value := F_b559_value.other W616 (Or.inl o_b559_b563)
  replace E_b563 := E_b563.wr W616
  replace V_b563 : Arv Z h615 b563 q566 .char (25 : Int32) [(.int (117 : Int32)), (.int (110 : Int32)), (.int (114 : Int32)), (.int (101 : Int32)), (.int (99 : Int32)), (.int (111 : Int32)), (.int (103 : Int32)), (.int (110 : Int32)), (.int (105 : Int32)), (.int (122 : Int32)), (.int (101 : Int32)), (.int (100 : Int32)), (.int (32 : Int32)), (.int (111 : Int32)), (.int (112 : Int32)), (.int (116 : Int32)), (.int (105 : Int32)), (.int (111 : Int32)), (.int (110 : Int32)), (.int (32 : Int32)), (.int (39 : Int32)), (.int x), (.int y), (.int z), (.int (39 : Int32))] (.int (0 : Int32)) := V_b563'
  change Go _ _ _ _ _ _ _ _ _ _ _ _ _ _ [b563, b559] h615 2 29 592 #[.val (.int x), .val (.int y), .val (.int z), .val (.int (3 : Int32))] [(.ref b563), (.ref b559), (.ref b559)]
  replace V_b563 : Arv Z h615 b563 q566 .char (25 : Int32) ([(117 : Int32), (110 : Int32), (114 : Int32), (101 : Int32), (99 : Int32), (111 : Int32), (103 : Int32), (110 : Int32), (105 : Int32), (122 : Int32), (101 : Int32), (100 : Int32), (32 : Int32), (111 : Int32), (112 : Int32), (116 : Int32), (105 : Int32), (111 : Int32), (110 : Int32), (32 : Int32), (39 : Int32), x, y, z, (39 : Int32)].map Value.int) (.int (0 : Int32)) := V_b563
  refine Go.callI (pc' := 595) (z := N_35) (a := b559) d_method_4_592 rfl rfl (w_8 hw) (w_9 hw) (w_10 hw) (by decide) (argsL := [(.ref b563)]) (rest := [(.ref b559)]) (Pays.of_met (W := 1) (len := 3) (m_str hw hs b559 b563 q566 [(117 : Int32), (110 : Int32), (114 : Int32), (101 : Int32), (99 : Int32), (111 : Int32), (103 : Int32), (110 : Int32), (105 : Int32), (122 : Int32), (101 : Int32), (100 : Int32), (32 : Int32), (111 : Int32), (112 : Int32), (116 : Int32), (105 : Int32), (111 : Int32), (110 : Int32), (32 : Int32), (39 : Int32), x, y, z, (39 : Int32)] (25 : Int32) h615 E_b559 F_b559_coder F_b559_value V_b563 (show (25 : Int32).toNatClampNeg = 25 from by decide) ((own_cons (P := fun x => ¬ x < 0 ∧ ¬ 255 < x) (by decide) (own_cons (P := fun x => ¬ x < 0 ∧ ¬ 255 < x) (by decide) (own_cons (P := fun x => ¬ x < 0 ∧ ¬ 255 < x) (by decide) (own_cons (P := fun x => ¬ x < 0 ∧ ¬ 255 < x) (by decide) (own_cons (P := fun x => ¬ x < 0 ∧ ¬ 255 < x) (by decide) (own_cons (P := fun x => ¬ x < 0 ∧ ¬ 255 < x) (by decide) (own_cons (P := fun x => ¬ x < 0 ∧ ¬ 255 < x) (by decide) (own_cons (P := fun x => ¬ x < 0 ∧ ¬ 255 < x) (by decide) (own_cons (P := fun x => ¬ x < 0 ∧ ¬ 255 < x) (by decide) (own_cons (P := fun x => ¬ x < 0 ∧ ¬ 255 < x) (by decide) (own_cons (P := fun x => ¬ x < 0 ∧ ¬ 255 < x) (by decide) (own_cons (P := fun x => ¬ x < 0 ∧ ¬ 255 < x) (by decide) (own_cons (P := fun x => ¬ x < 0 ∧ ¬ 255 < x) (by decide) (own_cons (P := fun x => ¬ x < 0 ∧ ¬ 255 < x) (by decide) (own_cons (P := fun x => ¬ x < 0 ∧ ¬ 255 < x) (by decide) (own_cons (P := fun x => ¬ x < 0 ∧ ¬ 255 < x) (by decide) (own_cons (P := fun x => ¬ x < 0 ∧ ¬ 255 < x) (by decide) (own_cons (P := fun x => ¬ x < 0 ∧ ¬ 255 < x) (by decide) (own_cons (P := fun x => ¬ x < 0 ∧ ¬ 255 < x) (by decide) (own_cons (P := fun x => ¬ x < 0 ∧ ¬ 255 < x) (by decide) (own_cons (P := fun x => ¬ x < 0 ∧ ¬ 255 < x) (by decide) (own_cons (P := fun x => ¬ x < 0 ∧ ¬ 255 < x) hx_x (own_cons (P := fun x => ¬ x < 0 ∧ ¬ 255 < x) hx_y (own_cons (P := fun x => ¬ x < 0 ∧ ¬ 255 < x) hx_z (own_one (P := fun x => ¬ x < 0 ∧ ¬ 255 < x) (by decide))))))))))))))))))))))))))) (List.cons_ne_nil _ _) (by decide) (Ne.symm o_b559_b563)) (w_10 hw) (w_6 hw) (by decide) (by decide)) rfl rfl (lenOf pd_26 rfl) rfl (Nat.le_of_eq rfl) (memS (List.mem_of_getElem? (i := 1) rfl) mem0) (by decide) (by decide) ?_
  rintro _ h619 _ K620 le621 ⟨b617, q618, rfl, rfl, p622, p623, p624, p625, p626⟩
  have o_b559_b617 : b559 ≠ b617 := Nat.ne_of_lt (Nat.lt_of_lt_of_le E_b559.lt p626)
  have o_b563_b617 : b563 ≠ b617 := Nat.ne_of_lt (Nat.lt_of_lt_of_le E_b563.lt p626)
  have ge_b617 := Nat.le_trans le621 p626
  replace E_b559 := E_b559.keep K620
  replace E_b563 := E_b563.keep K620
  replace V_b563 := V_b563.keep K620 (ninS (Ne.symm o_b559_b563) nin0)
  have F_b559_coder := p623
  have F_b559_value := p624
  have V_b617 := p625
  change Go _ _ _ _ _ _ _ _ _ _ _ _ _ _ [b563, b559] h619 3 54 595 #[.val (.int x), .val (.int y), .val (.int z), .val (.int (3 : Int32))] [(.ref b559)]
  replace V_b617 : Arv Z h619 b617 q618 .byte (25 : Int32) ([(117 : Int32).toInt8.toInt32, (110 : Int32).toInt8.toInt32, (114 : Int32).toInt8.toInt32, (101 : Int32).toInt8.toInt32, (99 : Int32).toInt8.toInt32, (111 : Int32).toInt8.toInt32, (103 : Int32).toInt8.toInt32, (110 : Int32).toInt8.toInt32, (105 : Int32).toInt8.toInt32, (122 : Int32).toInt8.toInt32, (101 : Int32).toInt8.toInt32, (100 : Int32).toInt8.toInt32, (32 : Int32).toInt8.toInt32, (111 : Int32).toInt8.toInt32, (112 : Int32).toInt8.toInt32, (116 : Int32).toInt8.toInt32, (105 : Int32).toInt8.toInt32, (111 : Int32).toInt8.toInt32, (110 : Int32).toInt8.toInt32, (32 : Int32).toInt8.toInt32, (39 : Int32).toInt8.toInt32, x.toInt8.toInt32, y.toInt8.toInt32, z.toInt8.toInt32, (39 : Int32).toInt8.toInt32].map Value.int) (.int (0 : Int32)) := V_b617
  rw [show [(117 : Int32).toInt8.toInt32, (110 : Int32).toInt8.toInt32, (114 : Int32).toInt8.toInt32, (101 : Int32).toInt8.toInt32, (99 : Int32).toInt8.toInt32, (111 : Int32).toInt8.toInt32, (103 : Int32).toInt8.toInt32, (110 : Int32).toInt8.toInt32, (105 : Int32).toInt8.toInt32, (122 : Int32).toInt8.toInt32, (101 : Int32).toInt8.toInt32, (100 : Int32).toInt8.toInt32, (32 : Int32).toInt8.toInt32, (111 : Int32).toInt8.toInt32, (112 : Int32).toInt8.toInt32, (116 : Int32).toInt8.toInt32, (105 : Int32).toInt8.toInt32, (111 : Int32).toInt8.toInt32, (110 : Int32).toInt8.toInt32, (32 : Int32).toInt8.toInt32, (39 : Int32).toInt8.toInt32, x.toInt8.toInt32, y.toInt8.toInt32, z.toInt8.toInt32, (39 : Int32).toInt8.toInt32] = [(117 : Int32), (110 : Int32), (114 : Int32), (101 : Int32), (99 : Int32), (111 : Int32), (103 : Int32), (110 : Int32), (105 : Int32), (122 : Int32), (101 : Int32), (100 : Int32), (32 : Int32), (111 : Int32), (112 : Int32), (116 : Int32), (105 : Int32), (111 : Int32), (110 : Int32), (32 : Int32), (39 : Int32), x.toInt8.toInt32, y.toInt8.toInt32, z.toInt8.toInt32, (39 : Int32)] from by rw [lc_100, lc_101, lc_103, lc_105, lc_110, lc_111, lc_112, lc_114, lc_116, lc_117, lc_122, lc_32, lc_39, lc_99]] at V_b617
  exact Go.retA d_method_4_595 rfl rfl rfl (by decide) (by decide) [] sn0 ⟨b559, b617, _, rfl, rfl, E_b559, F_b559_coder, F_b559_value, V_b617⟩
theorem pn_m_law : plainFor (⟨"com/example/slackline/slackline/UsageExceptionUnrecognizedOptionPinLaw", "law", "(IIII)Z"⟩ : MethodName) = true := by first | (refine plainFor_of_name ?_; simp [plainName, overriddenIn]; done) | decide +kernel
abbrev Q_m_law (Z : State) (p1 : Int32) (p2 : Int32) (p3 : Int32) (p4 : Int32) (h0 : Heap) : Option Value → Heap → List Addr → Prop := fun res h' SN => res = some (.int (1 : Int32)) ∧ SN = []
theorem ef_m_law (mid : MethodId) (p1 : Int32) (p2 : Int32) (p3 : Int32) (p4 : Int32) : entryFrame mid #[(.int p1), (.int p2), (.int p3), (.int p4)] maxLocals = mkF mid 0 #[.val (.int p1), .val (.int p2), .val (.int p3), .val (.int p4), .unset, .unset, .unset, .unset, .unset, .unset, .unset] [] := by first | (simp [entryFrame, mkF, argsToLocals, Value.category, maxLocals]; done) | rfl
set_option maxRecDepth 65536 in
set_option maxHeartbeats 40000000 in
theorem m_law {l : Launch} {Z : State} {a0 : Array Value} {n0 : Nat} (hw : ∀ d ∈ tables_1, d.before a0 Z = true) (hs : Stat Z) (p1 : Int32) (p2 : Int32) (p3 : Int32) (p4 : Int32) (h0 : Heap) (hst : l.stackTraces = true) :
    Met l Z EL0 n0 NR0 KN0 x code maxLocals ret room_1 [] #[(.int p1), (.int p2), (.int p3), (.int p4)] h0 (Q_m_law Z p1 p2 p3 p4 h0) := by
  refine Met.of_go pn_m_law (fun mid => ef_m_law mid p1 p2 p3 p4 ) ?_
  intro hO hWS
  refine Go.iload_n (pc' := 1) at_0 rfl rfl ?_
  refine Go.iconst (pc' := 2) at_1 rfl ic_3 ?_
  refine Go.iand (pc' := 3) at_2 rfl ?_
  refine Go.istore (pc' := 5) (Ls' := #[.val (.int p1), .val (.int p2), .val (.int p3), .val (.int p4), .val (.int (p4 &&& (3 : Int32))), .unset, .unset, .unset, .unset, .unset, .unset]) at_3 rfl rfl ?_
  refine Go.iload_n (pc' := 6) at_5 rfl rfl ?_
  refine Go.sipush (pc' := 9) at_6 rfl ics_255 ?_
  refine Go.iand (pc' := 10) at_9 rfl ?_
  refine Go.i2c (pc' := 11) at_10 rfl ?_
  rw [i2c_mask]
  have hx_x := mask255 p1
  generalize hg_x : (p1 &&& (255 : Int32)) = x at hx_x ⊢
  refine Go.istore (pc' := 13) (Ls' := #[.val (.int p1), .val (.int p2), .val (.int p3), .val (.int p4), .val (.int (p4 &&& (3 : Int32))), .val (.int x), .unset, .unset, .unset, .unset, .unset]) at_11 rfl rfl ?_
  refine Go.iload_n (pc' := 14) at_13 rfl rfl ?_
  refine Go.sipush (pc' := 17) at_14 rfl ics_255 ?_
  refine Go.iand (pc' := 18) at_17 rfl ?_
  refine Go.i2c (pc' := 19) at_18 rfl ?_
  rw [i2c_mask]
  have hx_y := mask255 p2
  generalize hg_y : (p2 &&& (255 : Int32)) = y at hx_y ⊢
  refine Go.istore (pc' := 21) (Ls' := #[.val (.int p1), .val (.int p2), .val (.int p3), .val (.int p4), .val (.int (p4 &&& (3 : Int32))), .val (.int x), .val (.int y), .unset, .unset, .unset, .unset]) at_19 rfl rfl ?_
  refine Go.iload_n (pc' := 22) at_21 rfl rfl ?_
  refine Go.sipush (pc' := 25) at_22 rfl ics_255 ?_
  refine Go.iand (pc' := 26) at_25 rfl ?_
  refine Go.i2c (pc' := 27) at_26 rfl ?_
  rw [i2c_mask]
  have hx_z := mask255 p3
  generalize hg_z : (p3 &&& (255 : Int32)) = z at hx_z ⊢
  refine Go.istore (pc' := 29) (Ls' := #[.val (.int p1), .val (.int p2), .val (.int p3), .val (.int p4), .val (.int (p4 &&& (3 : Int32))), .val (.int x), .val (.int y), .val (.int z), .unset, .unset, .unset]) at_27 rfl rfl ?_
  refine Go.iload (pc' := 31) at_29 rfl rfl ?_
  refine Go.iload (pc' := 33) at_31 rfl rfl ?_
  refine Go.iload (pc' := 35) at_33 rfl rfl ?_
  refine Go.iload (pc' := 37) at_35 rfl rfl ?_
  rcases own_and3 p4 with h4 | h4 | h4 | h4
  · skip
    rw [h4]
    refine Go.callS (pc' := 40) (z := N_38) at_37 rfl (w_0 hw) (w_1 hw) (w_2 hw) (w_3 hw) (by decide) (argsL := [(.int x), (.int y), (.int z), (.int (0 : Int32))]) (rest := []) (Pays.of_met (W := 0) (len := 3) (m_opt0 hw hs x y z h0 (hx_x) (hx_y) (hx_z)) (w_3 hw) (w_2 hw) (by decide) (by decide)) rfl rfl (lenOf pd_27 rfl) rfl (Nat.le_of_eq rfl) mem0 (by decide) (by decide) ?_
    rintro _ h630 _ K631 le632 ⟨b627, b628, q629, rfl, rfl, p633, p634, p635, p636⟩
    have E_b627 := p633
    have F_b627_coder := p634
    have F_b627_value := p635
    have V_b628 := p636
    change Go _ _ _ _ _ _ _ _ _ _ _ _ _ _ [] h630 6 12 40 #[.val (.int p1), .val (.int p2), .val (.int p3), .val (.int p4), .val (.int (0 : Int32)), .val (.int x), .val (.int y), .val (.int z), .unset, .unset, .unset] [(.ref b627)]
    refine Go.astore (pc' := 42) (Ls' := #[.val (.int p1), .val (.int p2), .val (.int p3), .val (.int p4), .val (.int (0 : Int32)), .val (.int x), .val (.int y), .val (.int z), .val (.ref b627), .unset, .unset]) at_40 rfl rfl rfl ?_
    refine Go.aload (pc' := 44) at_42 rfl rfl rfl ?_
    refine Go.callS (pc' := 47) (z := N_30) at_44 rfl (w_34 hw) (w_35 hw) (w_36 hw) (w_37 hw) (by decide) (argsL := [(.ref b627)]) (rest := []) (Pays.of_met (W := 0) (len := 3) (m_un hw hs b627 b628 q629 ([] : List Int32) (0 : Int32) h630 E_b627 F_b627_coder F_b627_value V_b628 (show (0 : Int32).toNatClampNeg = 0 from by decide) (show 0 ≤ 3 from by decide) (hst)) (w_37 hw) (w_36 hw) (by decide) (by decide)) rfl rfl (lenOf pd_28 rfl) rfl (Nat.le_of_eq rfl) mem0 (by decide) (by decide) ?_
    rintro _ h641 _ K642 le643 ⟨b637, b638, b639, q640, rfl, rfl, p644, p645, p646, p647, p648, p649⟩
    replace E_b627 := E_b627.keep K642
    replace F_b627_coder := F_b627_coder.keep K642 nin0
    replace F_b627_value := F_b627_value.keep K642 nin0
    replace V_b628 := V_b628.keep K642 nin0
    have E_b637 := p644
    have F_b637_detailMessage := p645
    have E_b638 := p646
    have F_b638_coder := p647
    have F_b638_value := p648
    have V_b639 := p649
    change Go _ _ _ _ _ _ _ _ _ _ _ _ _ _ [] h641 17 2958 47 #[.val (.int p1), .val (.int p2), .val (.int p3), .val (.int p4), .val (.int (0 : Int32)), .val (.int x), .val (.int y), .val (.int z), .val (.ref b627), .unset, .unset] [(.ref b637)]
    refine Go.astore (pc' := 49) (Ls' := #[.val (.int p1), .val (.int p2), .val (.int p3), .val (.int p4), .val (.int (0 : Int32)), .val (.int x), .val (.int y), .val (.int z), .val (.ref b627), .val (.ref b637), .unset]) at_47 rfl rfl rfl ?_
    refine Go.aload (pc' := 51) at_49 rfl rfl rfl ?_
    refine Go.ifnonnullY (pc' := 56) at_51 (by decide) (by decide) ?_
    refine Go.aload (pc' := 58) at_56 rfl rfl rfl ?_
    refine Go.callU (pc' := 61) (u := N_40) (z := N_29) (owner := "java/lang/Throwable") (a := b637) at_58 rfl (w_222 hw) (w_223 hw) (w_224 hw) (by decide) (w_226 hw) (w_225 hw) E_b637 (argsL := []) (rest := []) (Pays.of_met (W := 0) (len := 3) (m_gm hw hs b637 b638 h641 F_b637_detailMessage) (w_227 hw) (w_183 hw) (by decide) (by decide)) rfl rfl (lenOf pd_20 rfl) rfl (Nat.le_of_eq rfl) mem0 (by decide) (by decide) ?_
    rintro _ _ _ - - ⟨rfl, rfl, rfl⟩
    change Go _ _ _ _ _ _ _ _ _ _ _ _ _ _ [] h641 17 2958 61 #[.val (.int p1), .val (.int p2), .val (.int p3), .val (.int p4), .val (.int (0 : Int32)), .val (.int x), .val (.int y), .val (.int z), .val (.ref b627), .val (.ref b637), .unset] [(.ref b638)]
    refine Go.astore (pc' := 63) (Ls' := #[.val (.int p1), .val (.int p2), .val (.int p3), .val (.int p4), .val (.int (0 : Int32)), .val (.int x), .val (.int y), .val (.int z), .val (.ref b627), .val (.ref b637), .val (.ref b638)]) at_61 rfl rfl rfl ?_
    refine Go.aload (pc' := 65) at_63 rfl rfl rfl ?_
    refine Go.ifnonnullY (pc' := 70) at_65 (by decide) (by decide) ?_
    refine Go.aload (pc' := 72) at_70 rfl rfl rfl ?_
    refine Go.iload (pc' := 74) at_72 rfl rfl ?_
    refine Go.iload (pc' := 76) at_74 rfl rfl ?_
    refine Go.iload (pc' := 78) at_76 rfl rfl ?_
    refine Go.iload (pc' := 80) at_78 rfl rfl ?_
    refine Go.callS (pc' := 83) (z := N_39) at_80 rfl (w_228 hw) (w_229 hw) (w_2 hw) (w_230 hw) (by decide) (argsL := [(.int x), (.int y), (.int z), (.int (0 : Int32))]) (rest := [(.ref b638)]) (Pays.of_met (W := 1) (len := 3) (m_expected0 hw hs x y z h641 (hx_x) (hx_y) (hx_z)) (w_230 hw) (w_2 hw) (by decide) (by decide)) rfl rfl (lenOf pd_27 rfl) rfl (Nat.le_of_eq rfl) mem0 (by decide) (by decide) ?_
    rintro _ h653 _ K654 le655 ⟨b650, b651, q652, rfl, rfl, p656, p657, p658, p659⟩
    replace E_b627 := E_b627.keep K654
    replace F_b627_coder := F_b627_coder.keep K654 nin0
    replace F_b627_value := F_b627_value.keep K654 nin0
    replace V_b628 := V_b628.keep K654 nin0
    replace E_b637 := E_b637.keep K654
    replace F_b637_detailMessage := F_b637_detailMessage.keep K654 nin0
    replace E_b638 := E_b638.keep K654
    replace F_b638_coder := F_b638_coder.keep K654 nin0
    replace F_b638_value := F_b638_value.keep K654 nin0
    replace V_b639 := V_b639.keep K654 nin0
    have E_b650 := p656
    have F_b650_coder := p657
    have F_b650_value := p658
    have V_b651 := p659
    change Go _ _ _ _ _ _ _ _ _ _ _ _ _ _ [] h653 20 3009 83 #[.val (.int p1), .val (.int p2), .val (.int p3), .val (.int p4), .val (.int (0 : Int32)), .val (.int x), .val (.int y), .val (.int z), .val (.ref b627), .val (.ref b637), .val (.ref b638)] [(.ref b650), (.ref b638)]
    refine Go.callV (pc' := 86) (u := N_37) (z := N_37) (a := b638) at_83 rfl (w_231 hw) (w_232 hw) (nf (w_234 hw) rfl) (w_234 hw) (w_233 hw) (by decide) E_b638 (argsL := [(.ref b650)]) (rest := []) (Pays.of_met (W := 0) (len := 3) (m_seq hw hs b638 b650 b639 b651 q640 q652 ((PFX ++ ([] : List Int32)) ++ [(39 : Int32)]) [(117 : Int32), (110 : Int32), (114 : Int32), (101 : Int32), (99 : Int32), (111 : Int32), (103 : Int32), (110 : Int32), (105 : Int32), (122 : Int32), (101 : Int32), (100 : Int32), (32 : Int32), (111 : Int32), (112 : Int32), (116 : Int32), (105 : Int32), (111 : Int32), (110 : Int32), (32 : Int32), (39 : Int32), (39 : Int32)] (((21 : Int32) + (0 : Int32)) + (1 : Int32)) (22 : Int32) h653 E_b638 F_b638_coder F_b638_value V_b639 E_b650 F_b650_coder F_b650_value V_b651 (show (((21 : Int32) + (0 : Int32)) + (1 : Int32)).toNatClampNeg = 22 from by decide) (show (22 : Int32).toNatClampNeg = 22 from by decide)) (w_235 hw) (w_6 hw) (by decide) (by decide)) rfl rfl (lenOf pd_29 rfl) rfl (Nat.le_of_eq rfl) mem0 (by decide) (by decide) ?_
    rintro _ _ _ - - ⟨rfl, rfl, rfl⟩
    change Go _ _ _ _ _ _ _ _ _ _ _ _ _ _ [] h653 20 3009 86 #[.val (.int p1), .val (.int p2), .val (.int p3), .val (.int p4), .val (.int (0 : Int32)), .val (.int x), .val (.int y), .val (.int z), .val (.ref b627), .val (.ref b637), .val (.ref b638)] [(.int (own_eqb ((PFX ++ ([] : List Int32)) ++ [(39 : Int32)]) [(117 : Int32), (110 : Int32), (114 : Int32), (101 : Int32), (99 : Int32), (111 : Int32), (103 : Int32), (110 : Int32), (105 : Int32), (122 : Int32), (101 : Int32), (100 : Int32), (32 : Int32), (111 : Int32), (112 : Int32), (116 : Int32), (105 : Int32), (111 : Int32), (110 : Int32), (32 : Int32), (39 : Int32), (39 : Int32)]))]
    rw [show (own_eqb ((PFX ++ ([] : List Int32)) ++ [(39 : Int32)]) [(117 : Int32), (110 : Int32), (114 : Int32), (101 : Int32), (99 : Int32), (111 : Int32), (103 : Int32), (110 : Int32), (105 : Int32), (122 : Int32), (101 : Int32), (100 : Int32), (32 : Int32), (111 : Int32), (112 : Int32), (116 : Int32), (105 : Int32), (111 : Int32), (110 : Int32), (32 : Int32), (39 : Int32), (39 : Int32)]) = (1 : Int32) from own_eqb_pos rfl]
    exact Go.retS (ty := .boolean) at_86 rfl (by simp) rfl (by decide) (by decide) [] sn0 ⟨rfl, rfl⟩
  · skip
    rw [h4]
    refine Go.callS (pc' := 40) (z := N_38) at_37 rfl (w_0 hw) (w_1 hw) (w_2 hw) (w_3 hw) (by decide) (argsL := [(.int x), (.int y), (.int z), (.int (1 : Int32))]) (rest := []) (Pays.of_met (W := 0) (len := 3) (m_opt1 hw hs x y z h0 (hx_x) (hx_y) (hx_z)) (w_3 hw) (w_2 hw) (by decide) (by decide)) rfl rfl (lenOf pd_27 rfl) rfl (Nat.le_of_eq rfl) mem0 (by decide) (by decide) ?_
    rintro _ h663 _ K664 le665 ⟨b660, b661, q662, rfl, rfl, p666, p667, p668, p669⟩
    have E_b660 := p666
    have F_b660_coder := p667
    have F_b660_value := p668
    have V_b661 := p669
    change Go _ _ _ _ _ _ _ _ _ _ _ _ _ _ [] h663 3 30 40 #[.val (.int p1), .val (.int p2), .val (.int p3), .val (.int p4), .val (.int (1 : Int32)), .val (.int x), .val (.int y), .val (.int z), .unset, .unset, .unset] [(.ref b660)]
    refine Go.astore (pc' := 42) (Ls' := #[.val (.int p1), .val (.int p2), .val (.int p3), .val (.int p4), .val (.int (1 : Int32)), .val (.int x), .val (.int y), .val (.int z), .val (.ref b660), .unset, .unset]) at_40 rfl rfl rfl ?_
    refine Go.aload (pc' := 44) at_42 rfl rfl rfl ?_
    refine Go.callS (pc' := 47) (z := N_30) at_44 rfl (w_34 hw) (w_35 hw) (w_36 hw) (w_37 hw) (by decide) (argsL := [(.ref b660)]) (rest := []) (Pays.of_met (W := 0) (len := 3) (m_un hw hs b660 b661 q662 [x.toInt8.toInt32] (1 : Int32) h663 E_b660 F_b660_coder F_b660_value V_b661 (show (1 : Int32).toNatClampNeg = 1 from by decide) (show 1 ≤ 3 from by decide) (hst)) (w_37 hw) (w_36 hw) (by decide) (by decide)) rfl rfl (lenOf pd_28 rfl) rfl (Nat.le_of_eq rfl) mem0 (by decide) (by decide) ?_
    rintro _ h674 _ K675 le676 ⟨b670, b671, b672, q673, rfl, rfl, p677, p678, p679, p680, p681, p682⟩
    replace E_b660 := E_b660.keep K675
    replace F_b660_coder := F_b660_coder.keep K675 nin0
    replace F_b660_value := F_b660_value.keep K675 nin0
    replace V_b661 := V_b661.keep K675 nin0
    have E_b670 := p677
    have F_b670_detailMessage := p678
    have E_b671 := p679
    have F_b671_coder := p680
    have F_b671_value := p681
    have V_b672 := p682
    change Go _ _ _ _ _ _ _ _ _ _ _ _ _ _ [] h674 14 2976 47 #[.val (.int p1), .val (.int p2), .val (.int p3), .val (.int p4), .val (.int (1 : Int32)), .val (.int x), .val (.int y), .val (.int z), .val (.ref b660), .unset, .unset] [(.ref b670)]
    refine Go.astore (pc' := 49) (Ls' := #[.val (.int p1), .val (.int p2), .val (.int p3), .val (.int p4), .val (.int (1 : Int32)), .val (.int x), .val (.int y), .val (.int z), .val (.ref b660), .val (.ref b670), .unset]) at_47 rfl rfl rfl ?_
    refine Go.aload (pc' := 51) at_49 rfl rfl rfl ?_
    refine Go.ifnonnullY (pc' := 56) at_51 (by decide) (by decide) ?_
    refine Go.aload (pc' := 58) at_56 rfl rfl rfl ?_
    refine Go.callU (pc' := 61) (u := N_40) (z := N_29) (owner := "java/lang/Throwable") (a := b670) at_58 rfl (w_222 hw) (w_223 hw) (w_224 hw) (by decide) (w_226 hw) (w_225 hw) E_b670 (argsL := []) (rest := []) (Pays.of_met (W := 0) (len := 3) (m_gm hw hs b670 b671 h674 F_b670_detailMessage) (w_227 hw) (w_183 hw) (by decide) (by decide)) rfl rfl (lenOf pd_20 rfl) rfl (Nat.le_of_eq rfl) mem0 (by decide) (by decide) ?_
    rintro _ _ _ - - ⟨rfl, rfl, rfl⟩
    change Go _ _ _ _ _ _ _ _ _ _ _ _ _ _ [] h674 14 2976 61 #[.val (.int p1), .val (.int p2), .val (.int p3), .val (.int p4), .val (.int (1 : Int32)), .val (.int x), .val (.int y), .val (.int z), .val (.ref b660), .val (.ref b670), .unset] [(.ref b671)]
    refine Go.astore (pc' := 63) (Ls' := #[.val (.int p1), .val (.int p2), .val (.int p3), .val (.int p4), .val (.int (1 : Int32)), .val (.int x), .val (.int y), .val (.int z), .val (.ref b660), .val (.ref b670), .val (.ref b671)]) at_61 rfl rfl rfl ?_
    refine Go.aload (pc' := 65) at_63 rfl rfl rfl ?_
    refine Go.ifnonnullY (pc' := 70) at_65 (by decide) (by decide) ?_
    refine Go.aload (pc' := 72) at_70 rfl rfl rfl ?_
    refine Go.iload (pc' := 74) at_72 rfl rfl ?_
    refine Go.iload (pc' := 76) at_74 rfl rfl ?_
    refine Go.iload (pc' := 78) at_76 rfl rfl ?_
    refine Go.iload (pc' := 80) at_78 rfl rfl ?_
    refine Go.callS (pc' := 83) (z := N_39) at_80 rfl (w_228 hw) (w_229 hw) (w_2 hw) (w_230 hw) (by decide) (argsL := [(.int x), (.int y), (.int z), (.int (1 : Int32))]) (rest := [(.ref b671)]) (Pays.of_met (W := 1) (len := 3) (m_expected1 hw hs x y z h674 (hx_x) (hx_y) (hx_z)) (w_230 hw) (w_2 hw) (by decide) (by decide)) rfl rfl (lenOf pd_27 rfl) rfl (Nat.le_of_eq rfl) mem0 (by decide) (by decide) ?_
    rintro _ h686 _ K687 le688 ⟨b683, b684, q685, rfl, rfl, p689, p690, p691, p692⟩
    replace E_b660 := E_b660.keep K687
    replace F_b660_coder := F_b660_coder.keep K687 nin0
    replace F_b660_value := F_b660_value.keep K687 nin0
    replace V_b661 := V_b661.keep K687 nin0
    replace E_b670 := E_b670.keep K687
    replace F_b670_detailMessage := F_b670_detailMessage.keep K687 nin0
    replace E_b671 := E_b671.keep K687
    replace F_b671_coder := F_b671_coder.keep K687 nin0
    replace F_b671_value := F_b671_value.keep K687 nin0
    replace V_b672 := V_b672.keep K687 nin0
    have E_b683 := p689
    have F_b683_coder := p690
    have F_b683_value := p691
    have V_b684 := p692
    change Go _ _ _ _ _ _ _ _ _ _ _ _ _ _ [] h686 17 3028 83 #[.val (.int p1), .val (.int p2), .val (.int p3), .val (.int p4), .val (.int (1 : Int32)), .val (.int x), .val (.int y), .val (.int z), .val (.ref b660), .val (.ref b670), .val (.ref b671)] [(.ref b683), (.ref b671)]
    refine Go.callV (pc' := 86) (u := N_37) (z := N_37) (a := b671) at_83 rfl (w_231 hw) (w_232 hw) (nf (w_234 hw) rfl) (w_234 hw) (w_233 hw) (by decide) E_b671 (argsL := [(.ref b683)]) (rest := []) (Pays.of_met (W := 0) (len := 3) (m_seq hw hs b671 b683 b672 b684 q673 q685 ((PFX ++ [x.toInt8.toInt32]) ++ [(39 : Int32)]) [(117 : Int32), (110 : Int32), (114 : Int32), (101 : Int32), (99 : Int32), (111 : Int32), (103 : Int32), (110 : Int32), (105 : Int32), (122 : Int32), (101 : Int32), (100 : Int32), (32 : Int32), (111 : Int32), (112 : Int32), (116 : Int32), (105 : Int32), (111 : Int32), (110 : Int32), (32 : Int32), (39 : Int32), x.toInt8.toInt32, (39 : Int32)] (((21 : Int32) + (1 : Int32)) + (1 : Int32)) (23 : Int32) h686 E_b671 F_b671_coder F_b671_value V_b672 E_b683 F_b683_coder F_b683_value V_b684 (show (((21 : Int32) + (1 : Int32)) + (1 : Int32)).toNatClampNeg = 23 from by decide) (show (23 : Int32).toNatClampNeg = 23 from by decide)) (w_235 hw) (w_6 hw) (by decide) (by decide)) rfl rfl (lenOf pd_29 rfl) rfl (Nat.le_of_eq rfl) mem0 (by decide) (by decide) ?_
    rintro _ _ _ - - ⟨rfl, rfl, rfl⟩
    change Go _ _ _ _ _ _ _ _ _ _ _ _ _ _ [] h686 17 3028 86 #[.val (.int p1), .val (.int p2), .val (.int p3), .val (.int p4), .val (.int (1 : Int32)), .val (.int x), .val (.int y), .val (.int z), .val (.ref b660), .val (.ref b670), .val (.ref b671)] [(.int (own_eqb ((PFX ++ [x.toInt8.toInt32]) ++ [(39 : Int32)]) [(117 : Int32), (110 : Int32), (114 : Int32), (101 : Int32), (99 : Int32), (111 : Int32), (103 : Int32), (110 : Int32), (105 : Int32), (122 : Int32), (101 : Int32), (100 : Int32), (32 : Int32), (111 : Int32), (112 : Int32), (116 : Int32), (105 : Int32), (111 : Int32), (110 : Int32), (32 : Int32), (39 : Int32), x.toInt8.toInt32, (39 : Int32)]))]
    rw [show (own_eqb ((PFX ++ [x.toInt8.toInt32]) ++ [(39 : Int32)]) [(117 : Int32), (110 : Int32), (114 : Int32), (101 : Int32), (99 : Int32), (111 : Int32), (103 : Int32), (110 : Int32), (105 : Int32), (122 : Int32), (101 : Int32), (100 : Int32), (32 : Int32), (111 : Int32), (112 : Int32), (116 : Int32), (105 : Int32), (111 : Int32), (110 : Int32), (32 : Int32), (39 : Int32), x.toInt8.toInt32, (39 : Int32)]) = (1 : Int32) from own_eqb_pos rfl]
    exact Go.retS (ty := .boolean) at_86 rfl (by simp) rfl (by decide) (by decide) [] sn0 ⟨rfl, rfl⟩
  · skip
    rw [h4]
    refine Go.callS (pc' := 40) (z := N_38) at_37 rfl (w_0 hw) (w_1 hw) (w_2 hw) (w_3 hw) (by decide) (argsL := [(.int x), (.int y), (.int z), (.int (2 : Int32))]) (rest := []) (Pays.of_met (W := 0) (len := 3) (m_opt2 hw hs x y z h0 (hx_x) (hx_y) (hx_z)) (w_3 hw) (w_2 hw) (by decide) (by decide)) rfl rfl (lenOf pd_27 rfl) rfl (Nat.le_of_eq rfl) mem0 (by decide) (by decide) ?_
    rintro _ h696 _ K697 le698 ⟨b693, b694, q695, rfl, rfl, p699, p700, p701, p702⟩
    have E_b693 := p699
    have F_b693_coder := p700
    have F_b693_value := p701
    have V_b694 := p702
    change Go _ _ _ _ _ _ _ _ _ _ _ _ _ _ [] h696 3 31 40 #[.val (.int p1), .val (.int p2), .val (.int p3), .val (.int p4), .val (.int (2 : Int32)), .val (.int x), .val (.int y), .val (.int z), .unset, .unset, .unset] [(.ref b693)]
    refine Go.astore (pc' := 42) (Ls' := #[.val (.int p1), .val (.int p2), .val (.int p3), .val (.int p4), .val (.int (2 : Int32)), .val (.int x), .val (.int y), .val (.int z), .val (.ref b693), .unset, .unset]) at_40 rfl rfl rfl ?_
    refine Go.aload (pc' := 44) at_42 rfl rfl rfl ?_
    refine Go.callS (pc' := 47) (z := N_30) at_44 rfl (w_34 hw) (w_35 hw) (w_36 hw) (w_37 hw) (by decide) (argsL := [(.ref b693)]) (rest := []) (Pays.of_met (W := 0) (len := 3) (m_un hw hs b693 b694 q695 [x.toInt8.toInt32, y.toInt8.toInt32] (2 : Int32) h696 E_b693 F_b693_coder F_b693_value V_b694 (show (2 : Int32).toNatClampNeg = 2 from by decide) (show 2 ≤ 3 from by decide) (hst)) (w_37 hw) (w_36 hw) (by decide) (by decide)) rfl rfl (lenOf pd_28 rfl) rfl (Nat.le_of_eq rfl) mem0 (by decide) (by decide) ?_
    rintro _ h707 _ K708 le709 ⟨b703, b704, b705, q706, rfl, rfl, p710, p711, p712, p713, p714, p715⟩
    replace E_b693 := E_b693.keep K708
    replace F_b693_coder := F_b693_coder.keep K708 nin0
    replace F_b693_value := F_b693_value.keep K708 nin0
    replace V_b694 := V_b694.keep K708 nin0
    have E_b703 := p710
    have F_b703_detailMessage := p711
    have E_b704 := p712
    have F_b704_coder := p713
    have F_b704_value := p714
    have V_b705 := p715
    change Go _ _ _ _ _ _ _ _ _ _ _ _ _ _ [] h707 14 2977 47 #[.val (.int p1), .val (.int p2), .val (.int p3), .val (.int p4), .val (.int (2 : Int32)), .val (.int x), .val (.int y), .val (.int z), .val (.ref b693), .unset, .unset] [(.ref b703)]
    refine Go.astore (pc' := 49) (Ls' := #[.val (.int p1), .val (.int p2), .val (.int p3), .val (.int p4), .val (.int (2 : Int32)), .val (.int x), .val (.int y), .val (.int z), .val (.ref b693), .val (.ref b703), .unset]) at_47 rfl rfl rfl ?_
    refine Go.aload (pc' := 51) at_49 rfl rfl rfl ?_
    refine Go.ifnonnullY (pc' := 56) at_51 (by decide) (by decide) ?_
    refine Go.aload (pc' := 58) at_56 rfl rfl rfl ?_
    refine Go.callU (pc' := 61) (u := N_40) (z := N_29) (owner := "java/lang/Throwable") (a := b703) at_58 rfl (w_222 hw) (w_223 hw) (w_224 hw) (by decide) (w_226 hw) (w_225 hw) E_b703 (argsL := []) (rest := []) (Pays.of_met (W := 0) (len := 3) (m_gm hw hs b703 b704 h707 F_b703_detailMessage) (w_227 hw) (w_183 hw) (by decide) (by decide)) rfl rfl (lenOf pd_20 rfl) rfl (Nat.le_of_eq rfl) mem0 (by decide) (by decide) ?_
    rintro _ _ _ - - ⟨rfl, rfl, rfl⟩
    change Go _ _ _ _ _ _ _ _ _ _ _ _ _ _ [] h707 14 2977 61 #[.val (.int p1), .val (.int p2), .val (.int p3), .val (.int p4), .val (.int (2 : Int32)), .val (.int x), .val (.int y), .val (.int z), .val (.ref b693), .val (.ref b703), .unset] [(.ref b704)]
    refine Go.astore (pc' := 63) (Ls' := #[.val (.int p1), .val (.int p2), .val (.int p3), .val (.int p4), .val (.int (2 : Int32)), .val (.int x), .val (.int y), .val (.int z), .val (.ref b693), .val (.ref b703), .val (.ref b704)]) at_61 rfl rfl rfl ?_
    refine Go.aload (pc' := 65) at_63 rfl rfl rfl ?_
    refine Go.ifnonnullY (pc' := 70) at_65 (by decide) (by decide) ?_
    refine Go.aload (pc' := 72) at_70 rfl rfl rfl ?_
    refine Go.iload (pc' := 74) at_72 rfl rfl ?_
    refine Go.iload (pc' := 76) at_74 rfl rfl ?_
    refine Go.iload (pc' := 78) at_76 rfl rfl ?_
    refine Go.iload (pc' := 80) at_78 rfl rfl ?_
    refine Go.callS (pc' := 83) (z := N_39) at_80 rfl (w_228 hw) (w_229 hw) (w_2 hw) (w_230 hw) (by decide) (argsL := [(.int x), (.int y), (.int z), (.int (2 : Int32))]) (rest := [(.ref b704)]) (Pays.of_met (W := 1) (len := 3) (m_expected2 hw hs x y z h707 (hx_x) (hx_y) (hx_z)) (w_230 hw) (w_2 hw) (by decide) (by decide)) rfl rfl (lenOf pd_27 rfl) rfl (Nat.le_of_eq rfl) mem0 (by decide) (by decide) ?_
    rintro _ h719 _ K720 le721 ⟨b716, b717, q718, rfl, rfl, p722, p723, p724, p725⟩
    replace E_b693 := E_b693.keep K720
    replace F_b693_coder := F_b693_coder.keep K720 nin0
    replace F_b693_value := F_b693_value.keep K720 nin0
    replace V_b694 := V_b694.keep K720 nin0
    replace E_b703 := E_b703.keep K720
    replace F_b703_detailMessage := F_b703_detailMessage.keep K720 nin0
    replace E_b704 := E_b704.keep K720
    replace F_b704_coder := F_b704_coder.keep K720 nin0
    replace F_b704_value := F_b704_value.keep K720 nin0
    replace V_b705 := V_b705.keep K720 nin0
    have E_b716 := p722
    have F_b716_coder := p723
    have F_b716_value := p724
    have V_b717 := p725
    change Go _ _ _ _ _ _ _ _ _ _ _ _ _ _ [] h719 17 3030 83 #[.val (.int p1), .val (.int p2), .val (.int p3), .val (.int p4), .val (.int (2 : Int32)), .val (.int x), .val (.int y), .val (.int z), .val (.ref b693), .val (.ref b703), .val (.ref b704)] [(.ref b716), (.ref b704)]
    refine Go.callV (pc' := 86) (u := N_37) (z := N_37) (a := b704) at_83 rfl (w_231 hw) (w_232 hw) (nf (w_234 hw) rfl) (w_234 hw) (w_233 hw) (by decide) E_b704 (argsL := [(.ref b716)]) (rest := []) (Pays.of_met (W := 0) (len := 3) (m_seq hw hs b704 b716 b705 b717 q706 q718 ((PFX ++ [x.toInt8.toInt32, y.toInt8.toInt32]) ++ [(39 : Int32)]) [(117 : Int32), (110 : Int32), (114 : Int32), (101 : Int32), (99 : Int32), (111 : Int32), (103 : Int32), (110 : Int32), (105 : Int32), (122 : Int32), (101 : Int32), (100 : Int32), (32 : Int32), (111 : Int32), (112 : Int32), (116 : Int32), (105 : Int32), (111 : Int32), (110 : Int32), (32 : Int32), (39 : Int32), x.toInt8.toInt32, y.toInt8.toInt32, (39 : Int32)] (((21 : Int32) + (2 : Int32)) + (1 : Int32)) (24 : Int32) h719 E_b704 F_b704_coder F_b704_value V_b705 E_b716 F_b716_coder F_b716_value V_b717 (show (((21 : Int32) + (2 : Int32)) + (1 : Int32)).toNatClampNeg = 24 from by decide) (show (24 : Int32).toNatClampNeg = 24 from by decide)) (w_235 hw) (w_6 hw) (by decide) (by decide)) rfl rfl (lenOf pd_29 rfl) rfl (Nat.le_of_eq rfl) mem0 (by decide) (by decide) ?_
    rintro _ _ _ - - ⟨rfl, rfl, rfl⟩
    change Go _ _ _ _ _ _ _ _ _ _ _ _ _ _ [] h719 17 3030 86 #[.val (.int p1), .val (.int p2), .val (.int p3), .val (.int p4), .val (.int (2 : Int32)), .val (.int x), .val (.int y), .val (.int z), .val (.ref b693), .val (.ref b703), .val (.ref b704)] [(.int (own_eqb ((PFX ++ [x.toInt8.toInt32, y.toInt8.toInt32]) ++ [(39 : Int32)]) [(117 : Int32), (110 : Int32), (114 : Int32), (101 : Int32), (99 : Int32), (111 : Int32), (103 : Int32), (110 : Int32), (105 : Int32), (122 : Int32), (101 : Int32), (100 : Int32), (32 : Int32), (111 : Int32), (112 : Int32), (116 : Int32), (105 : Int32), (111 : Int32), (110 : Int32), (32 : Int32), (39 : Int32), x.toInt8.toInt32, y.toInt8.toInt32, (39 : Int32)]))]
    rw [show (own_eqb ((PFX ++ [x.toInt8.toInt32, y.toInt8.toInt32]) ++ [(39 : Int32)]) [(117 : Int32), (110 : Int32), (114 : Int32), (101 : Int32), (99 : Int32), (111 : Int32), (103 : Int32), (110 : Int32), (105 : Int32), (122 : Int32), (101 : Int32), (100 : Int32), (32 : Int32), (111 : Int32), (112 : Int32), (116 : Int32), (105 : Int32), (111 : Int32), (110 : Int32), (32 : Int32), (39 : Int32), x.toInt8.toInt32, y.toInt8.toInt32, (39 : Int32)]) = (1 : Int32) from own_eqb_pos rfl]
    exact Go.retS (ty := .boolean) at_86 rfl (by simp) rfl (by decide) (by decide) [] sn0 ⟨rfl, rfl⟩
  · skip
    rw [h4]
    refine Go.callS (pc' := 40) (z := N_38) at_37 rfl (w_0 hw) (w_1 hw) (w_2 hw) (w_3 hw) (by decide) (argsL := [(.int x), (.int y), (.int z), (.int (3 : Int32))]) (rest := []) (Pays.of_met (W := 0) (len := 3) (m_opt3 hw hs x y z h0 (hx_x) (hx_y) (hx_z)) (w_3 hw) (w_2 hw) (by decide) (by decide)) rfl rfl (lenOf pd_27 rfl) rfl (Nat.le_of_eq rfl) mem0 (by decide) (by decide) ?_
    rintro _ h729 _ K730 le731 ⟨b726, b727, q728, rfl, rfl, p732, p733, p734, p735⟩
    have E_b726 := p732
    have F_b726_coder := p733
    have F_b726_value := p734
    have V_b727 := p735
    change Go _ _ _ _ _ _ _ _ _ _ _ _ _ _ [] h729 3 32 40 #[.val (.int p1), .val (.int p2), .val (.int p3), .val (.int p4), .val (.int (3 : Int32)), .val (.int x), .val (.int y), .val (.int z), .unset, .unset, .unset] [(.ref b726)]
    refine Go.astore (pc' := 42) (Ls' := #[.val (.int p1), .val (.int p2), .val (.int p3), .val (.int p4), .val (.int (3 : Int32)), .val (.int x), .val (.int y), .val (.int z), .val (.ref b726), .unset, .unset]) at_40 rfl rfl rfl ?_
    refine Go.aload (pc' := 44) at_42 rfl rfl rfl ?_
    refine Go.callS (pc' := 47) (z := N_30) at_44 rfl (w_34 hw) (w_35 hw) (w_36 hw) (w_37 hw) (by decide) (argsL := [(.ref b726)]) (rest := []) (Pays.of_met (W := 0) (len := 3) (m_un hw hs b726 b727 q728 [x.toInt8.toInt32, y.toInt8.toInt32, z.toInt8.toInt32] (3 : Int32) h729 E_b726 F_b726_coder F_b726_value V_b727 (show (3 : Int32).toNatClampNeg = 3 from by decide) (show 3 ≤ 3 from by decide) (hst)) (w_37 hw) (w_36 hw) (by decide) (by decide)) rfl rfl (lenOf pd_28 rfl) rfl (Nat.le_of_eq rfl) mem0 (by decide) (by decide) ?_
    rintro _ h740 _ K741 le742 ⟨b736, b737, b738, q739, rfl, rfl, p743, p744, p745, p746, p747, p748⟩
    replace E_b726 := E_b726.keep K741
    replace F_b726_coder := F_b726_coder.keep K741 nin0
    replace F_b726_value := F_b726_value.keep K741 nin0
    replace V_b727 := V_b727.keep K741 nin0
    have E_b736 := p743
    have F_b736_detailMessage := p744
    have E_b737 := p745
    have F_b737_coder := p746
    have F_b737_value := p747
    have V_b738 := p748
    change Go _ _ _ _ _ _ _ _ _ _ _ _ _ _ [] h740 14 2978 47 #[.val (.int p1), .val (.int p2), .val (.int p3), .val (.int p4), .val (.int (3 : Int32)), .val (.int x), .val (.int y), .val (.int z), .val (.ref b726), .unset, .unset] [(.ref b736)]
    refine Go.astore (pc' := 49) (Ls' := #[.val (.int p1), .val (.int p2), .val (.int p3), .val (.int p4), .val (.int (3 : Int32)), .val (.int x), .val (.int y), .val (.int z), .val (.ref b726), .val (.ref b736), .unset]) at_47 rfl rfl rfl ?_
    refine Go.aload (pc' := 51) at_49 rfl rfl rfl ?_
    refine Go.ifnonnullY (pc' := 56) at_51 (by decide) (by decide) ?_
    refine Go.aload (pc' := 58) at_56 rfl rfl rfl ?_
    refine Go.callU (pc' := 61) (u := N_40) (z := N_29) (owner := "java/lang/Throwable") (a := b736) at_58 rfl (w_222 hw) (w_223 hw) (w_224 hw) (by decide) (w_226 hw) (w_225 hw) E_b736 (argsL := []) (rest := []) (Pays.of_met (W := 0) (len := 3) (m_gm hw hs b736 b737 h740 F_b736_detailMessage) (w_227 hw) (w_183 hw) (by decide) (by decide)) rfl rfl (lenOf pd_20 rfl) rfl (Nat.le_of_eq rfl) mem0 (by decide) (by decide) ?_
    rintro _ _ _ - - ⟨rfl, rfl, rfl⟩
    change Go _ _ _ _ _ _ _ _ _ _ _ _ _ _ [] h740 14 2978 61 #[.val (.int p1), .val (.int p2), .val (.int p3), .val (.int p4), .val (.int (3 : Int32)), .val (.int x), .val (.int y), .val (.int z), .val (.ref b726), .val (.ref b736), .unset] [(.ref b737)]
    refine Go.astore (pc' := 63) (Ls' := #[.val (.int p1), .val (.int p2), .val (.int p3), .val (.int p4), .val (.int (3 : Int32)), .val (.int x), .val (.int y), .val (.int z), .val (.ref b726), .val (.ref b736), .val (.ref b737)]) at_61 rfl rfl rfl ?_
    refine Go.aload (pc' := 65) at_63 rfl rfl rfl ?_
    refine Go.ifnonnullY (pc' := 70) at_65 (by decide) (by decide) ?_
    refine Go.aload (pc' := 72) at_70 rfl rfl rfl ?_
    refine Go.iload (pc' := 74) at_72 rfl rfl ?_
    refine Go.iload (pc' := 76) at_74 rfl rfl ?_
    refine Go.iload (pc' := 78) at_76 rfl rfl ?_
    refine Go.iload (pc' := 80) at_78 rfl rfl ?_
    refine Go.callS (pc' := 83) (z := N_39) at_80 rfl (w_228 hw) (w_229 hw) (w_2 hw) (w_230 hw) (by decide) (argsL := [(.int x), (.int y), (.int z), (.int (3 : Int32))]) (rest := [(.ref b737)]) (Pays.of_met (W := 1) (len := 3) (m_expected3 hw hs x y z h740 (hx_x) (hx_y) (hx_z)) (w_230 hw) (w_2 hw) (by decide) (by decide)) rfl rfl (lenOf pd_27 rfl) rfl (Nat.le_of_eq rfl) mem0 (by decide) (by decide) ?_
    rintro _ h752 _ K753 le754 ⟨b749, b750, q751, rfl, rfl, p755, p756, p757, p758⟩
    replace E_b726 := E_b726.keep K753
    replace F_b726_coder := F_b726_coder.keep K753 nin0
    replace F_b726_value := F_b726_value.keep K753 nin0
    replace V_b727 := V_b727.keep K753 nin0
    replace E_b736 := E_b736.keep K753
    replace F_b736_detailMessage := F_b736_detailMessage.keep K753 nin0
    replace E_b737 := E_b737.keep K753
    replace F_b737_coder := F_b737_coder.keep K753 nin0
    replace F_b737_value := F_b737_value.keep K753 nin0
    replace V_b738 := V_b738.keep K753 nin0
    have E_b749 := p755
    have F_b749_coder := p756
    have F_b749_value := p757
    have V_b750 := p758
    change Go _ _ _ _ _ _ _ _ _ _ _ _ _ _ [] h752 17 3032 83 #[.val (.int p1), .val (.int p2), .val (.int p3), .val (.int p4), .val (.int (3 : Int32)), .val (.int x), .val (.int y), .val (.int z), .val (.ref b726), .val (.ref b736), .val (.ref b737)] [(.ref b749), (.ref b737)]
    refine Go.callV (pc' := 86) (u := N_37) (z := N_37) (a := b737) at_83 rfl (w_231 hw) (w_232 hw) (nf (w_234 hw) rfl) (w_234 hw) (w_233 hw) (by decide) E_b737 (argsL := [(.ref b749)]) (rest := []) (Pays.of_met (W := 0) (len := 3) (m_seq hw hs b737 b749 b738 b750 q739 q751 ((PFX ++ [x.toInt8.toInt32, y.toInt8.toInt32, z.toInt8.toInt32]) ++ [(39 : Int32)]) [(117 : Int32), (110 : Int32), (114 : Int32), (101 : Int32), (99 : Int32), (111 : Int32), (103 : Int32), (110 : Int32), (105 : Int32), (122 : Int32), (101 : Int32), (100 : Int32), (32 : Int32), (111 : Int32), (112 : Int32), (116 : Int32), (105 : Int32), (111 : Int32), (110 : Int32), (32 : Int32), (39 : Int32), x.toInt8.toInt32, y.toInt8.toInt32, z.toInt8.toInt32, (39 : Int32)] (((21 : Int32) + (3 : Int32)) + (1 : Int32)) (25 : Int32) h752 E_b737 F_b737_coder F_b737_value V_b738 E_b749 F_b749_coder F_b749_value V_b750 (show (((21 : Int32) + (3 : Int32)) + (1 : Int32)).toNatClampNeg = 25 from by decide) (show (25 : Int32).toNatClampNeg = 25 from by decide)) (w_235 hw) (w_6 hw) (by decide) (by decide)) rfl rfl (lenOf pd_29 rfl) rfl (Nat.le_of_eq rfl) mem0 (by decide) (by decide) ?_
    rintro _ _ _ - - ⟨rfl, rfl, rfl⟩
    change Go _ _ _ _ _ _ _ _ _ _ _ _ _ _ [] h752 17 3032 86 #[.val (.int p1), .val (.int p2), .val (.int p3), .val (.int p4), .val (.int (3 : Int32)), .val (.int x), .val (.int y), .val (.int z), .val (.ref b726), .val (.ref b736), .val (.ref b737)] [(.int (own_eqb ((PFX ++ [x.toInt8.toInt32, y.toInt8.toInt32, z.toInt8.toInt32]) ++ [(39 : Int32)]) [(117 : Int32), (110 : Int32), (114 : Int32), (101 : Int32), (99 : Int32), (111 : Int32), (103 : Int32), (110 : Int32), (105 : Int32), (122 : Int32), (101 : Int32), (100 : Int32), (32 : Int32), (111 : Int32), (112 : Int32), (116 : Int32), (105 : Int32), (111 : Int32), (110 : Int32), (32 : Int32), (39 : Int32), x.toInt8.toInt32, y.toInt8.toInt32, z.toInt8.toInt32, (39 : Int32)]))]
    rw [show (own_eqb ((PFX ++ [x.toInt8.toInt32, y.toInt8.toInt32, z.toInt8.toInt32]) ++ [(39 : Int32)]) [(117 : Int32), (110 : Int32), (114 : Int32), (101 : Int32), (99 : Int32), (111 : Int32), (103 : Int32), (110 : Int32), (105 : Int32), (122 : Int32), (101 : Int32), (100 : Int32), (32 : Int32), (111 : Int32), (112 : Int32), (116 : Int32), (105 : Int32), (111 : Int32), (110 : Int32), (32 : Int32), (39 : Int32), x.toInt8.toInt32, y.toInt8.toInt32, z.toInt8.toInt32, (39 : Int32)]) = (1 : Int32) from own_eqb_pos rfl]
    exact Go.retS (ty := .boolean) at_86 rfl (by simp) rfl (by decide) (by decide) [] sn0 ⟨rfl, rfl⟩
theorem own_mk {vm : Vm} {m : MethodId} (h : Jvm.D.methodKnown vm m = true) : vm.knowsMethod m := by
  unfold Jvm.D.methodKnown at h
  cases e : vm.classes[m.cls]? with
  | none => rw [e] at h; cases h
  | some k =>
    rw [e] at h
    refine ⟨k, e, fun cf hc => ?_⟩
    simp only [hc] at h
    exact h
theorem own_hkn {s : State} {m : MethodId} {args : Array Value} {below : List Frame} (hf : s.frames = Frame.invoking m args :: below) (h1 : Jvm.D.framesKnown s = true) (h2 : Jvm.D.tablesKnown s = true) : s.vm.MethodsKnown ∧ s.vm.FramesKnown below := by
  refine ⟨fun m x hx => ?_, fun y hy m' hm' => ?_⟩
  · unfold Vm.method? at hx
    cases e : s.vm.classes[m.cls]? with
    | none => rw [e] at hx; cases hx
    | some k =>
      rw [e] at hx
      refine ⟨k, e, fun cf hc => ?_⟩
      have q := (Array.all_eq_true_iff_forall_mem.mp h2) k (Array.mem_of_getElem? e)
      simp only [hc] at q
      have q' : k.methods.size = cf.methods.size := by simpa using q
      have hx' : k.methods[m.idx]? = some x := hx
      have lt := (Array.getElem?_eq_some_iff.mp hx').1
      rw [q'] at lt
      simp [Array.getElem?_eq_getElem lt]
  · have q := List.all_eq_true.mp h1 y (by rw [hf]; exact List.mem_cons_of_mem _ hy)
    cases y with
    | java g => cases hm'; exact own_mk q
    | native g => cases hm'; exact own_mk q
    | _ => cases hm'
set_option maxRecDepth 65536 in
set_option maxHeartbeats 40000000 in
theorem comes_1 {Post : Tables → Env → Array Value → State → Outcome → State → Prop} (hpost : ∀ tb e args s v u, (limb_1_1.after args s (.returned v) u = true ∧ limb_1_2.after args s (.returned v) u = true ∧ True) → Jvm.D.FramedW s (.returned v) u (Jvm.fieldLocs frame_1_writes args s ++ Jvm.arrayLocs frame_1_arrays args s ++ Jvm.staticLocs frame_1_statics s) 40 8960 → Post tb e args s (.returned v) u) :
    ArmFor flags0 classFile x code maxLocals ret World_1 tables_1 room_1 Calls_1 rest_1 Pre_1 Post := by
  intro l hfl _ _ p e ha hc hk s m args below hf hA hF happ hP
  obtain ⟨hcalls, hrest, hpre⟩ := hP
  obtain ⟨-, -, -, hnamed, -, -, -, hat⟩ := (Spec.applies_iff hf).mp happ
  obtain ⟨hg, hn⟩ := and_e (Cond.before_iff.mp (show (Jvm.Cond.and given_1 narrow_1).before args s = true from hpre))
  have hgn := hg
  obtain ⟨h_c, hg⟩ := and_e hg
  obtain ⟨w0, w1, w2, w3, rfl⟩ : ∃ w0 w1 w2 w3 : Value, args = #[w0, w1, w2, w3] := by
    have hs : args.size = 4 := by simpa [Cond.value, given_1] using h_c
    obtain ⟨L⟩ := args
    match L, hs with
    | [w0, w1, w2, w3], _ => exact ⟨w0, w1, w2, w3, rfl⟩
  obtain ⟨h_0, hg⟩ := and_e hg
  obtain ⟨i0, e_0⟩ := is_v h_0
  obtain rfl : w0 = (.int i0) := Option.some.inj e_0
  obtain ⟨h_1, hg⟩ := and_e hg
  obtain ⟨i1, e_1⟩ := is_v h_1
  obtain rfl : w1 = (.int i1) := Option.some.inj e_1
  obtain ⟨h_2, hg⟩ := and_e hg
  obtain ⟨i2, e_2⟩ := is_v h_2
  obtain rfl : w2 = (.int i2) := Option.some.inj e_2
  have h_3 := hg
  obtain ⟨i3, e_3⟩ := is_v h_3
  obtain rfl : w3 = (.int i3) := Option.some.inj e_3
  have hw := fun d (hd : d ∈ tables_1) => atoms_spec (ws := Jvm.Cond.code x code maxLocals ret :: tables_1) hat d (List.mem_cons_of_mem _ hd)
  have hfit : Fit s := fun {y c} hc i hi => by
    obtain ⟨ha, rfl⟩ := Array.getElem?_eq_some_iff.mp hc
    have q := List.all_eq_true.mp ((Array.all_eq_true_iff_forall_mem.mp hF) _ (Array.getElem_mem ha)) i (List.mem_range.mpr hi)
    simpa [Array.getElem?_eq_getElem hi] using q
  have hsets := (atoms_of jdkStatics_1 (show (jdkStatics_1.foldr Jvm.Cond.and restOwn_1).before _ s = true from hrest)).1
  obtain ⟨zc, e_zc⟩ := is_v (Cond.before_iff.mp (hsets _ (List.mem_of_getElem? (i := 1) rfl)))
  have n_zc := gotF (Cond.eq_ints e_zc (Term.int_eval (0))) (not_v (Cond.before_iff.mp (hsets _ (List.mem_of_getElem? (i := 2) rfl))))
  have s_zc := Sta.start e_zc (Or.inl (hsets _ (List.mem_of_getElem? (i := 0) rfl)))
  obtain ⟨ua, e_ua⟩ := arr_v (Cond.before_iff.mp (hsets _ (List.mem_of_getElem? (i := 17) rfl)))
  have s_ua := Sta.start e_ua (Or.inl (hsets _ (List.mem_of_getElem? (i := 15) rfl)))
  obtain ⟨va, e_va⟩ := exa_v (Cond.before_iff.mp (hsets _ (List.mem_of_getElem? (i := 22) rfl)))
  have s_va := Sta.start e_va (Or.inl (hsets _ (List.mem_of_getElem? (i := 20) rfl)))
  have hs : Stat s := ⟨⟨zc, s_zc, n_zc⟩, ⟨⟨ua, s_ua⟩, va, s_va⟩, trivial⟩
  have hst : l.stackTraces = true := by unfold Launch.stackTraces; rw [hfl]; decide +kernel
  have hkn := own_hkn hf hcalls.1 hcalls.2.1
  have hEL : EW s _ EL0 := (EW.cons (w_58 hw) lit_0.1 (EW.cons (w_131 hw) lit_1.1 (EW.cons (w_241 hw) lit_2.1 EW.nil)))
  have hCH : CHv s EL0 s.vm s.heap := CHv.start hEL (fun p hp => hcalls.2.2.1 p hp) (hsets _ (List.mem_of_getElem? (i := 2) rfl)) (sA hw _ (by simp [Bundle.stringAtoms])) (sA hw _ (by simp [Bundle.stringAtoms, Bundle.sN]))
  obtain ⟨n, o, h1, h2, h3, v, L, SN, rfl, ⟨rfl, -⟩, hL, -, -, -, hN, hE⟩ := m_law hw hs i0 i1 i2 i3 s.heap hst tables_1 p e ha hc hk s m _ below hf ((Spec.applies_iff_loose hf).mp happ).1 ⟨rfl, State.Warmed39.refl s, rfl, hCH, (fun x hx => nomatch hx), ⟨rfl, Ext.refl _⟩, _, hEL⟩ (fun _ => hkn)
  refine ⟨n, _, h1, h2, h3, hpost _ _ _ _ _ _ ⟨Cond.after_iff.mpr rfl, Cond.after_iff.mpr (eq_i res_at (Term.int_eval (1)) rfl), trivial⟩ ⟨hE.1, hE.2.1, hE.2.2.1, (hE.2.2.2.sift fun y hy => Or.inr (hL y hy)).mono (by decide) (by decide)⟩⟩
theorem main_1_1 : Claimed_1_1 := comes_1 fun _ _ _ _ _ _ h hF => ⟨h.1, hF⟩
theorem main_1_2 : Claimed_1_2 := comes_1 fun _ _ _ _ _ _ h hF => ⟨h.2.1, hF⟩
end Jvm.Pilot.@@N@@
namespace Jvm.Pilot.@@N@@
open Jvm Jvm.ClassFile Sem Op Lib Jvm.Free Jvm.Stand Jvm.Pilot.@@N@@.Jvm.D
/-! MADE BY PROGRAM (witnessworld.py) out of the Statement's table words and the real class files: 41 classes; the members and pool entries that the words name. The judged class is class 1, her method 1. -/
namespace start1
open Jvm.ClassFile
def u (s : String) : CpInfo := .utf8 (stringToUtf16 s)
/-- a pool by its gaps: so many unusable entries, then the entry; so many at the end -/
def gap : Nat → List CpInfo → List CpInfo
  | 0, r => r
  | n + 1, r => .unusable :: gap n r
def poolList (es : List (Nat × CpInfo)) (last : Nat) : List CpInfo := es.foldr (fun e r => gap e.1 (e.2 :: r)) (gap last [])
def pool (es : List (Nat × CpInfo)) (last : Nat) : Array CpInfo := ⟨poolList es last⟩
def fileOf (pool : Array CpInfo) (this : Nat) (attrs : Array Attribute := #[]) (ms : Array MethodInfo := #[]) (fl : Nat := 33) (sup : Nat := 0) (ifs : Array Nat := #[]) (fds : Array FieldInfo := #[]) : ClassFile where
  minorVersion := 0
  majorVersion := 65
  constantPool := pool
  accessFlags := fl
  thisClass := this
  superClass := sup
  interfaces := ifs
  fields := fds
  methods := ms
  attributes := attrs
def plain (name : String) (sup : Option ClassId) : Class where
  name := name
  kind := .ordinary
  loader := none
  accessFlags := 33
  super := sup
  interfaces := #[]
  cf := none
  fields := #[]
  methods := #[]
  instanceTypes := #[]
  staticTypes := #[]
  resolved := #[]
  callSites := []
  init := .initialized
  statics := none
  mirror := none

def pool0 : Array CpInfo := pool [(5, u "<init>"), (0, u "()V"), (1, .class_ 10), (1, u "java/lang/Object")] 113

def k0c0 : Code := { maxStack := 0, maxLocals := 1, code := object_method_1_code, exceptionTable := #[], attributes := #[] }
def k0m0 : Method := { name := "<init>", desc := "()V", sig := { parameters := [], returnType := none }, accessFlags := 1, code := some k0c0 }
/-- java/lang/Object -/
def k0 : Class := { plain "java/lang/Object" none with
  accessFlags := 33
  interfaces := #[]
  cf := some (fileOf pool0 8 #[] #[{ accessFlags := 1, nameIndex := 5, descriptorIndex := 6, attributes := #[] }] 33 0 #[] #[])
  fields := #[]
  methods := #[k0m0]
  instanceTypes := #[]
  staticTypes := #[]
  resolved := Array.replicate 124 none
  statics := none }

def pool1 : Array CpInfo := pool [(2, .class_ 4), (1, u "java/lang/Object"), (0, u "<init>"), (0, u "()V"), (0, .methodref 8 9), (0, .class_ 10), (0, .nameAndType 11 12), (0, u "com/example/slackline/slackline/UsageExceptionUnrecognizedOptionPinLaw"), (0, u "opt"), (0, u "(CCCI)Ljava/lang/String;"), (0, .methodref 14 15), (0, .class_ 16), (0, .nameAndType 17 18), (0, u "com/example/slackline/slackline/UsageException"), (0, u "unrecognizedOption"), (0, u "(Ljava/lang/String;)Lcom/example/slackline/slackline/UsageException;"), (0, .methodref 14 20), (0, .nameAndType 21 22), (0, u "getMessage"), (0, u "()Ljava/lang/String;"), (0, .methodref 8 24), (0, .nameAndType 25 12), (0, u "expected"), (0, .methodref 27 28), (0, .class_ 29), (0, .nameAndType 30 31), (0, u "java/lang/String"), (0, u "equals"), (0, u "(Ljava/lang/Object;)Z"), (0, .methodref 27 33), (0, .nameAndType 5 34), (0, u "([C)V"), (2, u "law"), (0, u "(IIII)Z")] 3

def k1m0 : Method := { name := "<init>", desc := "()V", sig := { parameters := [], returnType := none }, accessFlags := 1, code := none }
def k1c1 : Code := { maxStack := 5, maxLocals := 11, code := code, exceptionTable := #[], attributes := #[] }
def k1m1 : Method := { name := "law", desc := "(IIII)Z", sig := { parameters := [.int, .int, .int, .int], returnType := some .boolean }, accessFlags := 9, code := some k1c1 }
def k1c2 : Code := { maxStack := 6, maxLocals := 4, code := method_3_code, exceptionTable := #[], attributes := #[] }
def k1m2 : Method := { name := "opt", desc := "(CCCI)Ljava/lang/String;", sig := { parameters := [.char, .char, .char, .int], returnType := some (.object "java/lang/String") }, accessFlags := 10, code := some k1c2 }
def k1c3 : Code := { maxStack := 6, maxLocals := 4, code := method_4_code, exceptionTable := #[], attributes := #[] }
def k1m3 : Method := { name := "expected", desc := "(CCCI)Ljava/lang/String;", sig := { parameters := [.char, .char, .char, .int], returnType := some (.object "java/lang/String") }, accessFlags := 10, code := some k1c3 }
/-- com/example/slackline/slackline/UsageExceptionUnrecognizedOptionPinLaw -/
def k1 : Class := { plain "com/example/slackline/slackline/UsageExceptionUnrecognizedOptionPinLaw" (some 0) with
  accessFlags := 49
  interfaces := #[]
  cf := some (fileOf pool1 8 #[] #[{ accessFlags := 1, nameIndex := 5, descriptorIndex := 6, attributes := #[] }, { accessFlags := 9, nameIndex := 37, descriptorIndex := 38, attributes := #[] }, { accessFlags := 10, nameIndex := 11, descriptorIndex := 12, attributes := #[] }, { accessFlags := 10, nameIndex := 25, descriptorIndex := 12, attributes := #[] }] 49 2 #[] #[])
  fields := #[]
  methods := #[k1m0, k1m1, k1m2, k1m3]
  instanceTypes := #[]
  staticTypes := #[]
  resolved := Array.replicate 42 none
  statics := none }

def pool2 : Array CpInfo := pool [(1, .class_ 2), (0, u "java/io/Serializable"), (0, .class_ 4), (0, u "java/lang/Object")] 2

/-- java/io/Serializable -/
def k2 : Class := { plain "java/io/Serializable" (some 0) with
  accessFlags := 1537
  interfaces := #[]
  cf := some (fileOf pool2 1 #[] #[] 1537 3 #[] #[])
  fields := #[]
  methods := #[]
  instanceTypes := #[]
  staticTypes := #[]
  resolved := Array.replicate 7 none
  statics := none }

def pool3 : Array CpInfo := pool [(1, .class_ 2), (0, u "java/lang/Comparable"), (0, .class_ 4), (0, u "java/lang/Object")] 7

/-- java/lang/Comparable -/
def k3 : Class := { plain "java/lang/Comparable" (some 0) with
  accessFlags := 1537
  interfaces := #[]
  cf := some (fileOf pool3 1 #[] #[] 1537 3 #[] #[])
  fields := #[]
  methods := #[]
  instanceTypes := #[]
  staticTypes := #[]
  resolved := Array.replicate 12 none
  statics := none }

def pool4 : Array CpInfo := pool [(2, .class_ 4), (1, u "java/lang/CharSequence"), (42, .class_ 48), (0, u "java/lang/CharSequence$1CodePointIterator"), (10, .class_ 60), (0, u "java/lang/CharSequence$1CharIterator"), (5, .class_ 67), (0, u "java/lang/Object")] 63

/-- java/lang/CharSequence -/
def k4 : Class := { plain "java/lang/CharSequence" (some 0) with
  accessFlags := 1537
  interfaces := #[]
  cf := some (fileOf pool4 2 #[.nestMembers #[47, 59]] #[] 1537 66 #[] #[])
  fields := #[]
  methods := #[]
  instanceTypes := #[]
  staticTypes := #[]
  resolved := Array.replicate 131 none
  statics := none }

def pool5 : Array CpInfo := pool [(1, .class_ 2), (0, u "java/lang/constant/Constable"), (0, .class_ 4), (0, u "java/lang/Object")] 6

/-- java/lang/constant/Constable -/
def k5 : Class := { plain "java/lang/constant/Constable" (some 0) with
  accessFlags := 1537
  interfaces := #[]
  cf := some (fileOf pool5 1 #[] #[] 1537 3 #[] #[])
  fields := #[]
  methods := #[]
  instanceTypes := #[]
  staticTypes := #[]
  resolved := Array.replicate 11 none
  statics := none }

def pool6 : Array CpInfo := pool [(1, .class_ 2), (0, u "java/lang/constant/ConstantDesc"), (0, .class_ 4), (0, u "java/lang/Object")] 32

/-- java/lang/constant/ConstantDesc -/
def k6 : Class := { plain "java/lang/constant/ConstantDesc" (some 0) with
  accessFlags := 1537
  interfaces := #[]
  cf := some (fileOf pool6 1 #[] #[] 1537 3 #[] #[])
  fields := #[]
  methods := #[]
  instanceTypes := #[]
  staticTypes := #[]
  resolved := Array.replicate 37 none
  statics := none }

def pool7 : Array CpInfo := pool [(1, .methodref 2 3), (0, .class_ 4), (0, .nameAndType 5 6), (0, u "java/lang/Object"), (0, u "<init>"), (0, u "()V"), (0, .string 8), (0, u ""), (0, .fieldref 10 11), (0, .class_ 12), (0, .nameAndType 13 14), (0, u "java/lang/String"), (0, u "value"), (0, u "[B"), (0, .fieldref 10 16), (0, .nameAndType 17 18), (0, u "coder"), (0, u "B"), (2, u "hash"), (0, u "I"), (2, u "hashIsZero"), (0, u "Z"), (0, .methodref 10 28), (0, .nameAndType 5 29), (0, u "([CIILjava/lang/Void;)V"), (8, .fieldref 10 39), (0, .nameAndType 40 26), (0, u "COMPACT_STRINGS"), (1, .class_ 44), (1, u "java/lang/StringUTF16"), (0, u "compress"), (1, .methodref 42 48), (0, .nameAndType 49 50), (0, u "coderFromArrayLen"), (0, u "([BI)B"), (3, .methodref 55 56), (0, .class_ 57), (0, .nameAndType 58 59), (0, u "java/util/Arrays"), (0, u "copyOfRange"), (0, u "([BII)[B"), (47, .class_ 109), (1, u "java/lang/StringLatin1"), (32, u "()Z"), (34, .methodref 42 178), (0, .nameAndType 45 179), (0, u "([CII)[B"), (13, .class_ 195), (1, u "java/lang/System"), (16, .methodref 193 213), (0, .nameAndType 214 215), (0, u "arraycopy"), (0, u "(Ljava/lang/Object;ILjava/lang/Object;II)V"), (118, u "()I"), (0, .methodref 10 336), (0, .nameAndType 17 337), (0, u "()B"), (2, u "()[B"), (148, .methodref 10 490), (0, .nameAndType 5 491), (0, u "(Ljava/lang/AbstractStringBuilder;Ljava/lang/Void;)V"), (1, .nameAndType 494 142), (0, u "isLatin1"), (11, .nameAndType 507 334), (0, u "length"), (24, u "getBytes"), (8, .methodref 107 542), (0, .nameAndType 543 544), (0, u "equals"), (0, u "([B[B)Z"), (4, .methodref 550 506), (0, .class_ 551), (0, u "java/lang/AbstractStringBuilder"), (0, .methodref 550 553), (0, .nameAndType 554 340), (0, u "getValue"), (18, u "(Ljava/lang/Object;)Z"), (1, .class_ 576), (0, u "java/lang/CharSequence"), (22, u "CASE_INSENSITIVE_ORDER"), (0, u "Ljava/util/Comparator;"), (220, u "([BIB)V"), (188, u "([C)V"), (36, .methodref 550 493), (53, u "serialPersistentFields"), (0, u "[Ljava/io/ObjectStreamField;"), (0, .class_ 1104), (0, u "java/lang/String$CaseInsensitiveComparator"), (1, .class_ 1107), (0, u "java/io/Serializable"), (0, .class_ 1109), (0, u "java/lang/Comparable"), (0, .class_ 1111), (0, u "java/lang/constant/Constable"), (0, .class_ 1113), (0, u "java/lang/constant/ConstantDesc"), (2, u "serialVersionUID"), (0, u "J"), (3, u "REPL"), (0, u "C"), (2, u "LATIN1"), (1, u "UTF16"), (105, u "(Ljava/lang/StringBuilder;)V")] 217

def k7m0 : Method := { name := "<init>", desc := "()V", sig := { parameters := [], returnType := none }, accessFlags := 1, code := none }
def k7c1 : Code := { maxStack := 5, maxLocals := 2, code := jdk_42_method_3_code, exceptionTable := #[], attributes := #[] }
def k7m1 : Method := { name := "<init>", desc := "([C)V", sig := { parameters := [(.array .char)], returnType := none }, accessFlags := 1, code := some k7c1 }
def k7c2 : Code := { maxStack := 3, maxLocals := 2, code := jdk_42_method_53_code, exceptionTable := #[], attributes := #[] }
def k7m2 : Method := { name := "<init>", desc := "(Ljava/lang/StringBuilder;)V", sig := { parameters := [(.object "java/lang/StringBuilder")], returnType := none }, accessFlags := 1, code := some k7c2 }
def k7c3 : Code := { maxStack := 2, maxLocals := 1, code := jdk_42_method_54_code, exceptionTable := #[], attributes := #[] }
def k7m3 : Method := { name := "length", desc := "()I", sig := { parameters := [], returnType := some .int }, accessFlags := 1, code := some k7c3 }
def k7c4 : Code := { maxStack := 2, maxLocals := 3, code := jdk_42_method_66_code, exceptionTable := #[], attributes := #[] }
def k7m4 : Method := { name := "equals", desc := "(Ljava/lang/Object;)Z", sig := { parameters := [(.object "java/lang/Object")], returnType := some .boolean }, accessFlags := 1, code := some k7c4 }
def k7c5 : Code := { maxStack := 5, maxLocals := 4, code := jdk_42_method_147_code, exceptionTable := #[], attributes := #[] }
def k7m5 : Method := { name := "getBytes", desc := "([BIB)V", sig := { parameters := [(.array .byte), .int, .byte], returnType := none }, accessFlags := 0, code := some k7c5 }
def k7c6 : Code := { maxStack := 4, maxLocals := 6, code := jdk_42_method_149_code, exceptionTable := #[], attributes := #[] }
def k7m6 : Method := { name := "<init>", desc := "([CIILjava/lang/Void;)V", sig := { parameters := [(.array .char), .int, .int, (.object "java/lang/Void")], returnType := none }, accessFlags := 2, code := some k7c6 }
def k7c7 : Code := { maxStack := 5, maxLocals := 5, code := jdk_42_method_150_code, exceptionTable := #[], attributes := #[] }
def k7m7 : Method := { name := "<init>", desc := "(Ljava/lang/AbstractStringBuilder;Ljava/lang/Void;)V", sig := { parameters := [(.object "java/lang/AbstractStringBuilder"), (.object "java/lang/Void")], returnType := none }, accessFlags := 0, code := some k7c7 }
def k7c8 : Code := { maxStack := 1, maxLocals := 1, code := jdk_42_method_152_code, exceptionTable := #[], attributes := #[] }
def k7m8 : Method := { name := "coder", desc := "()B", sig := { parameters := [], returnType := some .byte }, accessFlags := 0, code := some k7c8 }
/-- java/lang/String -/
def k7 : Class := { plain "java/lang/String" (some 0) with
  accessFlags := 49
  interfaces := #[2, 3, 4, 5, 6]
  cf := some (fileOf pool7 10 #[.nestMembers #[1103]] #[{ accessFlags := 1, nameIndex := 5, descriptorIndex := 6, attributes := #[] }, { accessFlags := 1, nameIndex := 5, descriptorIndex := 1010, attributes := #[] }, { accessFlags := 1, nameIndex := 5, descriptorIndex := 1233, attributes := #[] }, { accessFlags := 1, nameIndex := 507, descriptorIndex := 334, attributes := #[] }, { accessFlags := 1, nameIndex := 543, descriptorIndex := 573, attributes := #[] }, { accessFlags := 0, nameIndex := 532, descriptorIndex := 821, attributes := #[] }, { accessFlags := 2, nameIndex := 5, descriptorIndex := 29, attributes := #[] }, { accessFlags := 0, nameIndex := 5, descriptorIndex := 491, attributes := #[] }, { accessFlags := 0, nameIndex := 17, descriptorIndex := 337, attributes := #[] }] 49 2 #[1106, 1108, 575, 1110, 1112] #[{ accessFlags := 18, nameIndex := 13, descriptorIndex := 14, attributes := #[] }, { accessFlags := 18, nameIndex := 17, descriptorIndex := 18, attributes := #[] }, { accessFlags := 2, nameIndex := 21, descriptorIndex := 22, attributes := #[] }, { accessFlags := 2, nameIndex := 25, descriptorIndex := 26, attributes := #[] }, { accessFlags := 26, nameIndex := 1116, descriptorIndex := 1117, attributes := #[] }, { accessFlags := 24, nameIndex := 40, descriptorIndex := 26, attributes := #[] }, { accessFlags := 26, nameIndex := 1101, descriptorIndex := 1102, attributes := #[] }, { accessFlags := 26, nameIndex := 1121, descriptorIndex := 1122, attributes := #[] }, { accessFlags := 25, nameIndex := 599, descriptorIndex := 600, attributes := #[] }, { accessFlags := 24, nameIndex := 1125, descriptorIndex := 18, attributes := #[] }, { accessFlags := 24, nameIndex := 1127, descriptorIndex := 18, attributes := #[] }])
  fields := #[{ name := "value", type := (.array .byte), accessFlags := 18, slot := 0, constantValue := 0 }, { name := "coder", type := .byte, accessFlags := 18, slot := 1, constantValue := 0 }, { name := "hash", type := .int, accessFlags := 2, slot := 2, constantValue := 0 }, { name := "hashIsZero", type := .boolean, accessFlags := 2, slot := 3, constantValue := 0 }, { name := "serialVersionUID", type := .long, accessFlags := 26, slot := 0, constantValue := 0 }, { name := "COMPACT_STRINGS", type := .boolean, accessFlags := 24, slot := 1, constantValue := 0 }, { name := "serialPersistentFields", type := (.array (.object "java/io/ObjectStreamField")), accessFlags := 26, slot := 2, constantValue := 0 }, { name := "REPL", type := .char, accessFlags := 26, slot := 3, constantValue := 0 }, { name := "CASE_INSENSITIVE_ORDER", type := (.object "java/util/Comparator"), accessFlags := 25, slot := 4, constantValue := 0 }, { name := "LATIN1", type := .byte, accessFlags := 24, slot := 5, constantValue := 0 }, { name := "UTF16", type := .byte, accessFlags := 24, slot := 6, constantValue := 0 }]
  methods := #[k7m0, k7m1, k7m2, k7m3, k7m4, k7m5, k7m6, k7m7, k7m8]
  instanceTypes := #[(.array .byte), .byte, .int, .boolean]
  staticTypes := #[.long, .boolean, (.array (.object "java/io/ObjectStreamField")), .char, (.object "java/util/Comparator"), .byte, .byte]
  resolved := Array.replicate 1451 none
  statics := some 0 }

def pool8 : Array CpInfo := pool [(6, .class_ 8), (1, u "java/lang/Object"), (0, u "<init>"), (0, u "()V"), (1, .class_ 14), (1, u "java/lang/StringUTF16"), (31, u "$assertionsDisabled"), (0, u "Z"), (13, u "HI_BYTE_SHIFT"), (0, u "I"), (2, u "LO_BYTE_SHIFT"), (49, .methodref 12 116), (0, .nameAndType 117 118), (0, u "compress"), (0, u "([CI[BII)I"), (3, u "([CII)[B"), (138, u "coderFromArrayLen"), (0, u "([BI)B"), (106, .class_ 371), (1, u "java/lang/StringUTF16$LinesSpliterator"), (58, u "MAX_LENGTH"), (196, .class_ 628), (0, u "java/lang/StringUTF16$CodePointsSpliterator"), (0, .class_ 630), (0, u "java/lang/StringUTF16$CharsSpliterator")] 4

def k8m0 : Method := { name := "<init>", desc := "()V", sig := { parameters := [], returnType := none }, accessFlags := 0, code := none }
def k8c1 : Code := { maxStack := 2, maxLocals := 2, code := jdk_52_method_15_code, exceptionTable := #[], attributes := #[] }
def k8m1 : Method := { name := "coderFromArrayLen", desc := "([BI)B", sig := { parameters := [(.array .byte), .int], returnType := some .byte }, accessFlags := 8, code := some k8c1 }
def k8c2 : Code := { maxStack := 5, maxLocals := 6, code := jdk_52_method_16_code, exceptionTable := #[], attributes := #[] }
def k8m2 : Method := { name := "compress", desc := "([CII)[B", sig := { parameters := [(.array .char), .int, .int], returnType := some (.array .byte) }, accessFlags := 9, code := some k8c2 }
def k8c3 : Code := { maxStack := 3, maxLocals := 7, code := jdk_52_method_21_code, exceptionTable := #[], attributes := #[] }
def k8m3 : Method := { name := "compress", desc := "([CI[BII)I", sig := { parameters := [(.array .char), .int, (.array .byte), .int, .int], returnType := some .int }, accessFlags := 9, code := some k8c3 }
/-- java/lang/StringUTF16 -/
def k8 : Class := { plain "java/lang/StringUTF16" (some 0) with
  accessFlags := 48
  interfaces := #[]
  cf := some (fileOf pool8 12 #[.nestMembers #[627, 629, 369]] #[{ accessFlags := 0, nameIndex := 9, descriptorIndex := 10, attributes := #[] }, { accessFlags := 8, nameIndex := 261, descriptorIndex := 262, attributes := #[] }, { accessFlags := 9, nameIndex := 117, descriptorIndex := 122, attributes := #[] }, { accessFlags := 9, nameIndex := 117, descriptorIndex := 118, attributes := #[] }] 48 6 #[] #[{ accessFlags := 26, nameIndex := 61, descriptorIndex := 62, attributes := #[] }, { accessFlags := 26, nameIndex := 65, descriptorIndex := 62, attributes := #[] }, { accessFlags := 24, nameIndex := 430, descriptorIndex := 62, attributes := #[] }, { accessFlags := 4120, nameIndex := 46, descriptorIndex := 47, attributes := #[] }])
  fields := #[{ name := "HI_BYTE_SHIFT", type := .int, accessFlags := 26, slot := 0, constantValue := 0 }, { name := "LO_BYTE_SHIFT", type := .int, accessFlags := 26, slot := 1, constantValue := 0 }, { name := "MAX_LENGTH", type := .int, accessFlags := 24, slot := 2, constantValue := 0 }, { name := "$assertionsDisabled", type := .boolean, accessFlags := 4120, slot := 3, constantValue := 0 }]
  methods := #[k8m0, k8m1, k8m2, k8m3]
  instanceTypes := #[]
  staticTypes := #[.int, .int, .int, .boolean]
  resolved := Array.replicate 635 none
  statics := none }

def pool9 : Array CpInfo := pool [(1, .methodref 2 3), (0, .class_ 4), (0, .nameAndType 5 6), (0, u "java/lang/Object"), (0, u "<init>"), (0, u "()V"), (0, .fieldref 8 9), (0, .class_ 10), (0, .nameAndType 11 12), (0, u "java/lang/Throwable"), (0, u "cause"), (0, u "Ljava/lang/Throwable;"), (0, .fieldref 8 14), (0, .nameAndType 15 16), (0, u "UNASSIGNED_STACK"), (0, u "[Ljava/lang/StackTraceElement;"), (0, .fieldref 8 18), (0, .nameAndType 19 16), (0, u "stackTrace"), (0, .fieldref 8 21), (0, .nameAndType 22 23), (0, u "SUPPRESSED_SENTINEL"), (0, u "Ljava/util/List;"), (0, .fieldref 8 25), (0, .nameAndType 26 23), (0, u "suppressedExceptions"), (0, .methodref 8 28), (0, .nameAndType 29 30), (0, u "fillInStackTrace"), (0, u "()Ljava/lang/Throwable;"), (0, .fieldref 8 32), (0, .nameAndType 33 34), (0, u "detailMessage"), (0, u "Ljava/lang/String;"), (3, u "()Ljava/lang/String;"), (2, u "getMessage"), (51, .class_ 94), (0, u "java/lang/Throwable$WrappedPrintStream"), (6, .class_ 103), (1, u "java/lang/Throwable$PrintStreamOrWriter"), (61, u "$assertionsDisabled"), (0, u "Z"), (26, .class_ 194), (0, u "java/lang/Throwable$WrappedPrintWriter"), (3, .fieldref 8 199), (0, .nameAndType 200 201), (0, u "backtrace"), (0, u "Ljava/lang/Object;"), (0, .methodref 8 203), (0, .nameAndType 29 204), (0, u "(I)Ljava/lang/Throwable;"), (6, u "depth"), (0, u "I"), (10, u "(Ljava/lang/String;)V"), (45, .class_ 271), (1, u "java/lang/Throwable$SentinelHolder"), (32, u "EMPTY_THROWABLE_ARRAY"), (0, u "[Ljava/lang/Throwable;"), (12, .class_ 319), (0, u "java/io/Serializable"), (0, u "serialVersionUID"), (0, u "J"), (5, u "NULL_CAUSE_MESSAGE"), (0, u "SELF_SUPPRESSION_MESSAGE"), (0, u "CAUSE_CAPTION"), (0, u "SUPPRESSED_CAPTION")] 73

def k9c0 : Code := { maxStack := 2, maxLocals := 1, code := jdk_78_method_1_code, exceptionTable := #[], attributes := #[] }
def k9m0 : Method := { name := "<init>", desc := "()V", sig := { parameters := [], returnType := none }, accessFlags := 1, code := some k9c0 }
def k9c1 : Code := { maxStack := 2, maxLocals := 2, code := jdk_78_method_2_code, exceptionTable := #[], attributes := #[] }
def k9m1 : Method := { name := "<init>", desc := "(Ljava/lang/String;)V", sig := { parameters := [(.object "java/lang/String")], returnType := none }, accessFlags := 1, code := some k9c1 }
def k9c2 : Code := { maxStack := 1, maxLocals := 1, code := jdk_78_method_6_code, exceptionTable := #[], attributes := #[] }
def k9m2 : Method := { name := "getMessage", desc := "()Ljava/lang/String;", sig := { parameters := [], returnType := some (.object "java/lang/String") }, accessFlags := 1, code := some k9c2 }
def k9c3 : Code := { maxStack := 2, maxLocals := 1, code := ⟨#[0x2a, 0xb4, 0x00, 0x11, 0xc7, 0x00, 0x0a, 0x2a, 0xb4, 0x00, 0xc6, 0xc6, 0x00, 0x10, 0x2a, 0x03, 0xb6, 0x00, 0xca, 0x57, 0x2a, 0xb2, 0x00, 0x0d, 0xb5, 0x00, 0x11, 0x2a, 0xb0]⟩, exceptionTable := #[], attributes := #[] }
def k9m3 : Method := { name := "fillInStackTrace", desc := "()Ljava/lang/Throwable;", sig := { parameters := [], returnType := some (.object "java/lang/Throwable") }, accessFlags := 33, code := some k9c3 }
def k9m4 : Method := { name := "fillInStackTrace", desc := "(I)Ljava/lang/Throwable;", sig := { parameters := [.int], returnType := some (.object "java/lang/Throwable") }, accessFlags := 258, code := none }
/-- java/lang/Throwable -/
def k9 : Class := { plain "java/lang/Throwable" (some 0) with
  accessFlags := 33
  interfaces := #[2]
  cf := some (fileOf pool9 8 #[.nestMembers #[193, 93, 101, 269]] #[{ accessFlags := 1, nameIndex := 5, descriptorIndex := 6, attributes := #[] }, { accessFlags := 1, nameIndex := 5, descriptorIndex := 223, attributes := #[] }, { accessFlags := 1, nameIndex := 41, descriptorIndex := 38, attributes := #[] }, { accessFlags := 33, nameIndex := 29, descriptorIndex := 30, attributes := #[] }, { accessFlags := 258, nameIndex := 29, descriptorIndex := 204, attributes := #[] }] 33 2 #[318] #[{ accessFlags := 26, nameIndex := 320, descriptorIndex := 321, attributes := #[] }, { accessFlags := 130, nameIndex := 200, descriptorIndex := 201, attributes := #[] }, { accessFlags := 2, nameIndex := 33, descriptorIndex := 34, attributes := #[] }, { accessFlags := 26, nameIndex := 15, descriptorIndex := 16, attributes := #[] }, { accessFlags := 2, nameIndex := 11, descriptorIndex := 12, attributes := #[] }, { accessFlags := 2, nameIndex := 19, descriptorIndex := 16, attributes := #[] }, { accessFlags := 130, nameIndex := 211, descriptorIndex := 212, attributes := #[] }, { accessFlags := 26, nameIndex := 22, descriptorIndex := 23, attributes := #[] }, { accessFlags := 2, nameIndex := 26, descriptorIndex := 23, attributes := #[] }, { accessFlags := 26, nameIndex := 327, descriptorIndex := 34, attributes := #[] }, { accessFlags := 26, nameIndex := 328, descriptorIndex := 34, attributes := #[] }, { accessFlags := 26, nameIndex := 329, descriptorIndex := 34, attributes := #[] }, { accessFlags := 26, nameIndex := 330, descriptorIndex := 34, attributes := #[] }, { accessFlags := 26, nameIndex := 304, descriptorIndex := 305, attributes := #[] }, { accessFlags := 4120, nameIndex := 165, descriptorIndex := 166, attributes := #[] }])
  fields := #[{ name := "serialVersionUID", type := .long, accessFlags := 26, slot := 0, constantValue := 0 }, { name := "backtrace", type := (.object "java/lang/Object"), accessFlags := 130, slot := 0, constantValue := 0 }, { name := "detailMessage", type := (.object "java/lang/String"), accessFlags := 2, slot := 1, constantValue := 0 }, { name := "UNASSIGNED_STACK", type := (.array (.object "java/lang/StackTraceElement")), accessFlags := 26, slot := 1, constantValue := 0 }, { name := "cause", type := (.object "java/lang/Throwable"), accessFlags := 2, slot := 2, constantValue := 0 }, { name := "stackTrace", type := (.array (.object "java/lang/StackTraceElement")), accessFlags := 2, slot := 3, constantValue := 0 }, { name := "depth", type := .int, accessFlags := 130, slot := 4, constantValue := 0 }, { name := "SUPPRESSED_SENTINEL", type := (.object "java/util/List"), accessFlags := 26, slot := 2, constantValue := 0 }, { name := "suppressedExceptions", type := (.object "java/util/List"), accessFlags := 2, slot := 5, constantValue := 0 }, { name := "NULL_CAUSE_MESSAGE", type := (.object "java/lang/String"), accessFlags := 26, slot := 3, constantValue := 0 }, { name := "SELF_SUPPRESSION_MESSAGE", type := (.object "java/lang/String"), accessFlags := 26, slot := 4, constantValue := 0 }, { name := "CAUSE_CAPTION", type := (.object "java/lang/String"), accessFlags := 26, slot := 5, constantValue := 0 }, { name := "SUPPRESSED_CAPTION", type := (.object "java/lang/String"), accessFlags := 26, slot := 6, constantValue := 0 }, { name := "EMPTY_THROWABLE_ARRAY", type := (.array (.object "java/lang/Throwable")), accessFlags := 26, slot := 7, constantValue := 0 }, { name := "$assertionsDisabled", type := .boolean, accessFlags := 4120, slot := 8, constantValue := 0 }]
  methods := #[k9m0, k9m1, k9m2, k9m3, k9m4]
  instanceTypes := #[(.object "java/lang/Object"), (.object "java/lang/String"), (.object "java/lang/Throwable"), (.array (.object "java/lang/StackTraceElement")), .int, (.object "java/util/List")]
  staticTypes := #[.long, (.array (.object "java/lang/StackTraceElement")), (.object "java/util/List"), (.object "java/lang/String"), (.object "java/lang/String"), (.object "java/lang/String"), (.object "java/lang/String"), (.array (.object "java/lang/Throwable")), .boolean]
  resolved := Array.replicate 404 none
  statics := some 1 }

def pool10 : Array CpInfo := pool [(2, .class_ 4), (1, u "java/lang/Throwable"), (0, u "<init>"), (0, u "()V"), (0, .methodref 2 8), (0, .nameAndType 5 9), (0, u "(Ljava/lang/String;)V"), (9, .class_ 20), (0, u "java/lang/Exception"), (0, u "serialVersionUID"), (0, u "J")] 17

def k10m0 : Method := { name := "<init>", desc := "()V", sig := { parameters := [], returnType := none }, accessFlags := 1, code := none }
def k10c1 : Code := { maxStack := 2, maxLocals := 2, code := jdk_59_method_2_code, exceptionTable := #[], attributes := #[] }
def k10m1 : Method := { name := "<init>", desc := "(Ljava/lang/String;)V", sig := { parameters := [(.object "java/lang/String")], returnType := none }, accessFlags := 1, code := some k10c1 }
/-- java/lang/Exception -/
def k10 : Class := { plain "java/lang/Exception" (some 9) with
  accessFlags := 33
  interfaces := #[]
  cf := some (fileOf pool10 19 #[] #[{ accessFlags := 1, nameIndex := 5, descriptorIndex := 6, attributes := #[] }, { accessFlags := 1, nameIndex := 5, descriptorIndex := 9, attributes := #[] }] 33 2 #[] #[{ accessFlags := 24, nameIndex := 21, descriptorIndex := 22, attributes := #[] }])
  fields := #[{ name := "serialVersionUID", type := .long, accessFlags := 24, slot := 0, constantValue := 0 }]
  methods := #[k10m0, k10m1]
  instanceTypes := #[(.object "java/lang/Object"), (.object "java/lang/String"), (.object "java/lang/Throwable"), (.array (.object "java/lang/StackTraceElement")), .int, (.object "java/util/List")]
  staticTypes := #[.long]
  resolved := Array.replicate 40 none
  statics := none }

def pool11 : Array CpInfo := pool [(1, .methodref 2 3), (0, .class_ 4), (0, .nameAndType 5 6), (0, u "java/lang/Exception"), (0, u "<init>"), (0, u "(Ljava/lang/String;)V"), (0, .class_ 8), (0, u "com/example/slackline/slackline/UsageException"), (0, .class_ 10), (0, u "java/lang/StringBuilder"), (0, .methodref 9 12), (0, .nameAndType 5 13), (0, u "()V"), (0, .string 15), (0, u "unrecognized option '"), (0, .methodref 9 17), (0, .nameAndType 18 19), (0, u "append"), (0, u "(Ljava/lang/String;)Ljava/lang/StringBuilder;"), (0, .string 21), (0, u "'"), (0, .methodref 9 23), (0, .nameAndType 24 25), (0, u "toString"), (0, u "()Ljava/lang/String;"), (0, .methodref 7 3), (0, u "serialVersionUID"), (0, u "J"), (5, u "unrecognizedOption"), (0, u "(Ljava/lang/String;)Lcom/example/slackline/slackline/UsageException;")] 2

def k11c0 : Code := { maxStack := 2, maxLocals := 2, code := prog_53_method_1_code, exceptionTable := #[], attributes := #[] }
def k11m0 : Method := { name := "<init>", desc := "(Ljava/lang/String;)V", sig := { parameters := [(.object "java/lang/String")], returnType := none }, accessFlags := 0, code := some k11c0 }
def k11c1 : Code := { maxStack := 4, maxLocals := 1, code := prog_53_method_2_code, exceptionTable := #[], attributes := #[] }
def k11m1 : Method := { name := "unrecognizedOption", desc := "(Ljava/lang/String;)Lcom/example/slackline/slackline/UsageException;", sig := { parameters := [(.object "java/lang/String")], returnType := some (.object "com/example/slackline/slackline/UsageException") }, accessFlags := 8, code := some k11c1 }
/-- com/example/slackline/slackline/UsageException -/
def k11 : Class := { plain "com/example/slackline/slackline/UsageException" (some 10) with
  accessFlags := 48
  interfaces := #[]
  cf := some (fileOf pool11 7 #[] #[{ accessFlags := 0, nameIndex := 5, descriptorIndex := 6, attributes := #[] }, { accessFlags := 8, nameIndex := 34, descriptorIndex := 35, attributes := #[] }] 48 2 #[] #[{ accessFlags := 26, nameIndex := 27, descriptorIndex := 28, attributes := #[] }])
  fields := #[{ name := "serialVersionUID", type := .long, accessFlags := 26, slot := 0, constantValue := 0 }]
  methods := #[k11m0, k11m1]
  instanceTypes := #[(.object "java/lang/Object"), (.object "java/lang/String"), (.object "java/lang/Throwable"), (.array (.object "java/lang/StackTraceElement")), .int, (.object "java/util/List")]
  staticTypes := #[.long]
  resolved := Array.replicate 38 none
  statics := none }

def pool12 : Array CpInfo := pool [(1, .class_ 2), (0, u "java/lang/Appendable"), (0, .class_ 4), (0, u "java/lang/Object")] 9

/-- java/lang/Appendable -/
def k12 : Class := { plain "java/lang/Appendable" (some 0) with
  accessFlags := 1537
  interfaces := #[]
  cf := some (fileOf pool12 1 #[] #[] 1537 3 #[] #[])
  fields := #[]
  methods := #[]
  instanceTypes := #[]
  staticTypes := #[]
  resolved := Array.replicate 14 none
  statics := none }

def pool13 : Array CpInfo := pool [(1, .class_ 2), (0, u "java/lang/String"), (0, .methodref 4 5), (0, .class_ 6), (0, .nameAndType 7 8), (0, u "java/lang/Object"), (0, u "<init>"), (0, u "()V"), (1, .class_ 12), (1, u "java/lang/AbstractStringBuilder"), (0, u "EMPTYVALUE"), (0, u "[B"), (0, .fieldref 10 16), (0, .nameAndType 17 14), (0, u "value"), (0, .fieldref 1 19), (0, .nameAndType 20 21), (0, u "COMPACT_STRINGS"), (0, u "Z"), (0, .fieldref 10 23), (0, .nameAndType 24 25), (0, u "coder"), (0, u "B"), (6, .methodref 1 33), (0, .nameAndType 34 35), (0, u "length"), (0, u "()I"), (3, .integer 2147483647), (0, .methodref 1 41), (0, .nameAndType 24 42), (0, u "()B"), (2, u "append"), (0, u "(Ljava/lang/String;)Ljava/lang/AbstractStringBuilder;"), (1, .class_ 49), (0, u "java/lang/CharSequence"), (19, u "(Ljava/lang/String;)V"), (5, u "maybeLatin1"), (3, .fieldref 10 80), (0, .nameAndType 81 82), (0, u "count"), (0, u "I"), (2, u "isLatin1"), (0, u "()Z"), (13, .methodref 10 101), (0, .nameAndType 102 103), (0, u "ensureCapacityInternal"), (0, u "(I)V"), (0, .methodref 10 105), (0, .nameAndType 106 107), (0, u "newCapacity"), (0, u "(I)I"), (0, .methodref 109 110), (0, .class_ 111), (0, .nameAndType 112 113), (0, u "java/util/Arrays"), (0, u "copyOf"), (0, u "([BI)[B"), (0, .methodref 115 116), (0, .class_ 117), (0, .nameAndType 118 119), (0, u "jdk/internal/util/ArraysSupport"), (0, u "newLength"), (0, u "(III)I"), (88, .methodref 10 209), (0, .nameAndType 210 211), (0, u "putStringAt"), (0, u "(ILjava/lang/String;)V"), (5, u "inflateIfNeededFor"), (2, .nameAndType 221 222), (0, u "getBytes"), (0, u "([BIB)V"), (174, .methodref 10 398), (0, .nameAndType 217 69), (0, .methodref 1 220), (3, u "()[B"), (40, .class_ 445), (0, u "java/lang/Appendable"), (106, u "getValue")] 56

def k13m0 : Method := { name := "<init>", desc := "()V", sig := { parameters := [], returnType := none }, accessFlags := 0, code := none }
def k13c1 : Code := { maxStack := 2, maxLocals := 2, code := jdk_68_method_2_code, exceptionTable := #[], attributes := #[] }
def k13m1 : Method := { name := "<init>", desc := "(I)V", sig := { parameters := [.int], returnType := none }, accessFlags := 0, code := some k13c1 }
def k13c2 : Code := { maxStack := 1, maxLocals := 1, code := jdk_68_method_6_code, exceptionTable := #[], attributes := #[] }
def k13m2 : Method := { name := "length", desc := "()I", sig := { parameters := [], returnType := some .int }, accessFlags := 1, code := some k13c2 }
def k13c3 : Code := { maxStack := 4, maxLocals := 3, code := jdk_68_method_9_code, exceptionTable := #[], attributes := #[] }
def k13m3 : Method := { name := "ensureCapacityInternal", desc := "(I)V", sig := { parameters := [.int], returnType := none }, accessFlags := 2, code := some k13c3 }
def k13c4 : Code := { maxStack := 5, maxLocals := 6, code := jdk_68_method_10_code, exceptionTable := #[], attributes := #[] }
def k13m4 : Method := { name := "newCapacity", desc := "(I)I", sig := { parameters := [.int], returnType := some .int }, accessFlags := 2, code := some k13c4 }
def k13c5 : Code := { maxStack := 3, maxLocals := 3, code := jdk_68_method_22_code, exceptionTable := #[], attributes := #[] }
def k13m5 : Method := { name := "append", desc := "(Ljava/lang/String;)Ljava/lang/AbstractStringBuilder;", sig := { parameters := [(.object "java/lang/String")], returnType := some (.object "java/lang/AbstractStringBuilder") }, accessFlags := 1, code := some k13c5 }
def k13c6 : Code := { maxStack := 1, maxLocals := 1, code := jdk_68_method_64_code, exceptionTable := #[], attributes := #[] }
def k13m6 : Method := { name := "getValue", desc := "()[B", sig := { parameters := [], returnType := some (.array .byte) }, accessFlags := 16, code := some k13c6 }
def k13c7 : Code := { maxStack := 1, maxLocals := 1, code := jdk_68_method_68_code, exceptionTable := #[], attributes := #[] }
def k13m7 : Method := { name := "isLatin1", desc := "()Z", sig := { parameters := [], returnType := some .boolean }, accessFlags := 16, code := some k13c7 }
def k13c8 : Code := { maxStack := 2, maxLocals := 2, code := jdk_68_method_71_code, exceptionTable := #[], attributes := #[] }
def k13m8 : Method := { name := "inflateIfNeededFor", desc := "(Ljava/lang/String;)V", sig := { parameters := [(.object "java/lang/String")], returnType := none }, accessFlags := 2, code := some k13c8 }
def k13c9 : Code := { maxStack := 4, maxLocals := 3, code := jdk_68_method_73_code, exceptionTable := #[], attributes := #[] }
def k13m9 : Method := { name := "putStringAt", desc := "(ILjava/lang/String;)V", sig := { parameters := [.int, (.object "java/lang/String")], returnType := none }, accessFlags := 2, code := some k13c9 }
/-- java/lang/AbstractStringBuilder -/
def k13 : Class := { plain "java/lang/AbstractStringBuilder" (some 0) with
  accessFlags := 1056
  interfaces := #[12, 4]
  cf := some (fileOf pool13 10 #[] #[{ accessFlags := 0, nameIndex := 7, descriptorIndex := 8, attributes := #[] }, { accessFlags := 0, nameIndex := 7, descriptorIndex := 103, attributes := #[] }, { accessFlags := 1, nameIndex := 34, descriptorIndex := 35, attributes := #[] }, { accessFlags := 2, nameIndex := 102, descriptorIndex := 103, attributes := #[] }, { accessFlags := 2, nameIndex := 106, descriptorIndex := 107, attributes := #[] }, { accessFlags := 1, nameIndex := 45, descriptorIndex := 46, attributes := #[] }, { accessFlags := 16, nameIndex := 552, descriptorIndex := 403, attributes := #[] }, { accessFlags := 16, nameIndex := 85, descriptorIndex := 86, attributes := #[] }, { accessFlags := 2, nameIndex := 217, descriptorIndex := 69, attributes := #[] }, { accessFlags := 2, nameIndex := 210, descriptorIndex := 211, attributes := #[] }] 1056 4 #[444, 48] #[{ accessFlags := 0, nameIndex := 17, descriptorIndex := 14, attributes := #[] }, { accessFlags := 0, nameIndex := 24, descriptorIndex := 25, attributes := #[] }, { accessFlags := 0, nameIndex := 75, descriptorIndex := 21, attributes := #[] }, { accessFlags := 0, nameIndex := 81, descriptorIndex := 82, attributes := #[] }, { accessFlags := 26, nameIndex := 13, descriptorIndex := 14, attributes := #[] }])
  fields := #[{ name := "value", type := (.array .byte), accessFlags := 0, slot := 0, constantValue := 0 }, { name := "coder", type := .byte, accessFlags := 0, slot := 1, constantValue := 0 }, { name := "maybeLatin1", type := .boolean, accessFlags := 0, slot := 2, constantValue := 0 }, { name := "count", type := .int, accessFlags := 0, slot := 3, constantValue := 0 }, { name := "EMPTYVALUE", type := (.array .byte), accessFlags := 26, slot := 0, constantValue := 0 }]
  methods := #[k13m0, k13m1, k13m2, k13m3, k13m4, k13m5, k13m6, k13m7, k13m8, k13m9]
  instanceTypes := #[(.array .byte), .byte, .boolean, .int]
  staticTypes := #[(.array .byte)]
  resolved := Array.replicate 609 none
  statics := none }

def pool14 : Array CpInfo := pool [(1, .methodref 2 3), (0, .class_ 4), (0, .nameAndType 5 6), (0, u "java/lang/AbstractStringBuilder"), (0, u "<init>"), (0, u "(I)V"), (11, .class_ 20), (1, u "java/lang/String"), (3, .class_ 26), (1, u "java/lang/StringBuilder"), (0, u "append"), (0, u "(Ljava/lang/String;)Ljava/lang/StringBuilder;"), (0, .methodref 2 30), (0, .nameAndType 27 31), (0, u "(Ljava/lang/String;)Ljava/lang/AbstractStringBuilder;"), (105, .methodref 18 138), (0, .nameAndType 5 139), (0, u "(Ljava/lang/StringBuilder;)V"), (5, u "()V"), (10, u "()I"), (186, .methodref 2 344), (0, .nameAndType 345 156), (0, u "length"), (3, .class_ 350), (0, u "java/lang/Appendable"), (0, .class_ 352), (0, u "java/io/Serializable"), (0, .class_ 354), (0, u "java/lang/Comparable"), (0, .class_ 356), (0, u "java/lang/CharSequence"), (0, u "serialVersionUID"), (0, u "J"), (40, u "toString"), (0, u "()Ljava/lang/String;")] 21

def k14c0 : Code := { maxStack := 2, maxLocals := 1, code := jdk_67_method_1_code, exceptionTable := #[], attributes := #[] }
def k14m0 : Method := { name := "<init>", desc := "()V", sig := { parameters := [], returnType := none }, accessFlags := 1, code := some k14c0 }
def k14c1 : Code := { maxStack := 2, maxLocals := 2, code := jdk_67_method_7_code, exceptionTable := #[], attributes := #[] }
def k14m1 : Method := { name := "append", desc := "(Ljava/lang/String;)Ljava/lang/StringBuilder;", sig := { parameters := [(.object "java/lang/String")], returnType := some (.object "java/lang/StringBuilder") }, accessFlags := 1, code := some k14c1 }
def k14c2 : Code := { maxStack := 3, maxLocals := 1, code := jdk_67_method_42_code, exceptionTable := #[], attributes := #[] }
def k14m2 : Method := { name := "toString", desc := "()Ljava/lang/String;", sig := { parameters := [], returnType := some (.object "java/lang/String") }, accessFlags := 1, code := some k14c2 }
def k14c3 : Code := { maxStack := 1, maxLocals := 1, code := jdk_67_method_93_code, exceptionTable := #[], attributes := #[] }
def k14m3 : Method := { name := "length", desc := "()I", sig := { parameters := [], returnType := some .int }, accessFlags := 4161, code := some k14c3 }
/-- java/lang/StringBuilder -/
def k14 : Class := { plain "java/lang/StringBuilder" (some 13) with
  accessFlags := 49
  interfaces := #[12, 2, 3, 4]
  cf := some (fileOf pool14 24 #[] #[{ accessFlags := 1, nameIndex := 5, descriptorIndex := 145, attributes := #[] }, { accessFlags := 1, nameIndex := 27, descriptorIndex := 28, attributes := #[] }, { accessFlags := 1, nameIndex := 399, descriptorIndex := 400, attributes := #[] }, { accessFlags := 4161, nameIndex := 345, descriptorIndex := 156, attributes := #[] }] 49 2 #[349, 351, 353, 355] #[{ accessFlags := 24, nameIndex := 357, descriptorIndex := 358, attributes := #[] }])
  fields := #[{ name := "serialVersionUID", type := .long, accessFlags := 24, slot := 0, constantValue := 0 }]
  methods := #[k14m0, k14m1, k14m2, k14m3]
  instanceTypes := #[(.array .byte), .byte, .boolean, .int]
  staticTypes := #[.long]
  resolved := Array.replicate 422 none
  statics := none }

def pool15 : Array CpInfo := pool [(9, u "<init>"), (6, .class_ 18), (1, u "java/lang/Object"), (0, u "()V"), (1, .class_ 23), (1, u "jdk/internal/util/ArraysSupport"), (0, u "LOG2_ARRAY_LONG_INDEX_SCALE"), (0, u "I"), (2, u "U"), (0, u "Ljdk/internal/misc/Unsafe;"), (8, u "BIG_ENDIAN"), (0, u "Z"), (8, u "LOG2_BYTE_BIT_SIZE"), (4, u "LOG2_ARRAY_INT_INDEX_SCALE"), (54, u "JLA"), (0, u "Ljdk/internal/access/JavaLangAccess;"), (11, u "LOG2_ARRAY_BOOLEAN_INDEX_SCALE"), (9, u "LOG2_ARRAY_BYTE_INDEX_SCALE"), (5, u "LOG2_ARRAY_CHAR_INDEX_SCALE"), (5, u "LOG2_ARRAY_SHORT_INDEX_SCALE"), (18, u "LOG2_ARRAY_FLOAT_INDEX_SCALE"), (24, u "LOG2_ARRAY_DOUBLE_INDEX_SCALE"), (6, .methodref 195 196), (0, .class_ 197), (0, .nameAndType 198 199), (0, u "java/lang/Math"), (0, u "max"), (0, u "(II)I"), (0, .integer 2147483639), (76, u "T_BOOLEAN"), (2, u "T_CHAR"), (1, u "T_FLOAT"), (1, u "T_DOUBLE"), (1, u "T_BYTE"), (1, u "T_SHORT"), (1, u "T_INT"), (1, u "T_LONG"), (1, u "SOFT_MAX_ARRAY_LENGTH"), (56, u "newLength"), (0, u "(III)I")] 25

def k15m0 : Method := { name := "<init>", desc := "()V", sig := { parameters := [], returnType := none }, accessFlags := 2, code := none }
def k15c1 : Code := { maxStack := 3, maxLocals := 4, code := jdk_48_method_27_code, exceptionTable := #[], attributes := #[] }
def k15m1 : Method := { name := "newLength", desc := "(III)I", sig := { parameters := [.int, .int, .int], returnType := some .int }, accessFlags := 9, code := some k15c1 }
/-- jdk/internal/util/ArraysSupport -/
def k15 : Class := { plain "jdk/internal/util/ArraysSupport" (some 0) with
  accessFlags := 33
  interfaces := #[]
  cf := some (fileOf pool15 21 #[] #[{ accessFlags := 2, nameIndex := 9, descriptorIndex := 19, attributes := #[] }, { accessFlags := 9, nameIndex := 351, descriptorIndex := 352, attributes := #[] }] 33 16 #[] #[{ accessFlags := 24, nameIndex := 28, descriptorIndex := 29, attributes := #[] }, { accessFlags := 26, nameIndex := 38, descriptorIndex := 39, attributes := #[] }, { accessFlags := 25, nameIndex := 121, descriptorIndex := 25, attributes := #[] }, { accessFlags := 25, nameIndex := 131, descriptorIndex := 25, attributes := #[] }, { accessFlags := 25, nameIndex := 137, descriptorIndex := 25, attributes := #[] }, { accessFlags := 25, nameIndex := 143, descriptorIndex := 25, attributes := #[] }, { accessFlags := 25, nameIndex := 53, descriptorIndex := 25, attributes := #[] }, { accessFlags := 25, nameIndex := 24, descriptorIndex := 25, attributes := #[] }, { accessFlags := 25, nameIndex := 162, descriptorIndex := 25, attributes := #[] }, { accessFlags := 25, nameIndex := 187, descriptorIndex := 25, attributes := #[] }, { accessFlags := 26, nameIndex := 48, descriptorIndex := 25, attributes := #[] }, { accessFlags := 25, nameIndex := 277, descriptorIndex := 25, attributes := #[] }, { accessFlags := 25, nameIndex := 280, descriptorIndex := 25, attributes := #[] }, { accessFlags := 25, nameIndex := 282, descriptorIndex := 25, attributes := #[] }, { accessFlags := 25, nameIndex := 284, descriptorIndex := 25, attributes := #[] }, { accessFlags := 25, nameIndex := 286, descriptorIndex := 25, attributes := #[] }, { accessFlags := 25, nameIndex := 288, descriptorIndex := 25, attributes := #[] }, { accessFlags := 25, nameIndex := 290, descriptorIndex := 25, attributes := #[] }, { accessFlags := 25, nameIndex := 292, descriptorIndex := 25, attributes := #[] }, { accessFlags := 26, nameIndex := 108, descriptorIndex := 109, attributes := #[] }, { accessFlags := 25, nameIndex := 294, descriptorIndex := 25, attributes := #[] }])
  fields := #[{ name := "U", type := (.object "jdk/internal/misc/Unsafe"), accessFlags := 24, slot := 0, constantValue := 0 }, { name := "BIG_ENDIAN", type := .boolean, accessFlags := 26, slot := 1, constantValue := 0 }, { name := "LOG2_ARRAY_BOOLEAN_INDEX_SCALE", type := .int, accessFlags := 25, slot := 2, constantValue := 0 }, { name := "LOG2_ARRAY_BYTE_INDEX_SCALE", type := .int, accessFlags := 25, slot := 3, constantValue := 0 }, { name := "LOG2_ARRAY_CHAR_INDEX_SCALE", type := .int, accessFlags := 25, slot := 4, constantValue := 0 }, { name := "LOG2_ARRAY_SHORT_INDEX_SCALE", type := .int, accessFlags := 25, slot := 5, constantValue := 0 }, { name := "LOG2_ARRAY_INT_INDEX_SCALE", type := .int, accessFlags := 25, slot := 6, constantValue := 0 }, { name := "LOG2_ARRAY_LONG_INDEX_SCALE", type := .int, accessFlags := 25, slot := 7, constantValue := 0 }, { name := "LOG2_ARRAY_FLOAT_INDEX_SCALE", type := .int, accessFlags := 25, slot := 8, constantValue := 0 }, { name := "LOG2_ARRAY_DOUBLE_INDEX_SCALE", type := .int, accessFlags := 25, slot := 9, constantValue := 0 }, { name := "LOG2_BYTE_BIT_SIZE", type := .int, accessFlags := 26, slot := 10, constantValue := 0 }, { name := "T_BOOLEAN", type := .int, accessFlags := 25, slot := 11, constantValue := 0 }, { name := "T_CHAR", type := .int, accessFlags := 25, slot := 12, constantValue := 0 }, { name := "T_FLOAT", type := .int, accessFlags := 25, slot := 13, constantValue := 0 }, { name := "T_DOUBLE", type := .int, accessFlags := 25, slot := 14, constantValue := 0 }, { name := "T_BYTE", type := .int, accessFlags := 25, slot := 15, constantValue := 0 }, { name := "T_SHORT", type := .int, accessFlags := 25, slot := 16, constantValue := 0 }, { name := "T_INT", type := .int, accessFlags := 25, slot := 17, constantValue := 0 }, { name := "T_LONG", type := .int, accessFlags := 25, slot := 18, constantValue := 0 }, { name := "JLA", type := (.object "jdk/internal/access/JavaLangAccess"), accessFlags := 26, slot := 19, constantValue := 0 }, { name := "SOFT_MAX_ARRAY_LENGTH", type := .int, accessFlags := 25, slot := 20, constantValue := 0 }]
  methods := #[k15m0, k15m1]
  instanceTypes := #[]
  staticTypes := #[(.object "jdk/internal/misc/Unsafe"), .boolean, .int, .int, .int, .int, .int, .int, .int, .int, .int, .int, .int, .int, .int, .int, .int, .int, .int, (.object "jdk/internal/access/JavaLangAccess"), .int]
  resolved := Array.replicate 378 none
  statics := none }

def pool16 : Array CpInfo := pool [(1, .class_ 2), (0, u "java/lang/Math"), (1, .class_ 6), (1, u "java/lang/Object"), (0, u "<init>"), (0, u "()V"), (89, .class_ 100), (1, u "java/lang/Math$RandomNumberGeneratorHolder"), (71, u "negativeZeroFloatBits"), (0, u "J"), (2, u "negativeZeroDoubleBits"), (21, u "max"), (2, u "min"), (43, u "$assertionsDisabled"), (0, u "Z"), (88, u "(II)I"), (2, u "twoToTheDoubleScaleDown"), (0, u "D"), (4, u "twoToTheDoubleScaleUp"), (9, u "E"), (3, u "PI"), (2, u "TAU"), (2, u "DEGREES_TO_RADIANS"), (0, u "RADIANS_TO_DEGREES")] 94

def k16m0 : Method := { name := "<init>", desc := "()V", sig := { parameters := [], returnType := none }, accessFlags := 2, code := none }
def k16c1 : Code := { maxStack := 2, maxLocals := 2, code := jdk_29_method_65_code, exceptionTable := #[], attributes := #[] }
def k16m1 : Method := { name := "max", desc := "(II)I", sig := { parameters := [.int, .int], returnType := some .int }, accessFlags := 9, code := some k16c1 }
def k16c2 : Code := { maxStack := 2, maxLocals := 2, code := jdk_29_method_69_code, exceptionTable := #[], attributes := #[] }
def k16m2 : Method := { name := "min", desc := "(II)I", sig := { parameters := [.int, .int], returnType := some .int }, accessFlags := 9, code := some k16c2 }
/-- java/lang/Math -/
def k16 : Class := { plain "java/lang/Math" (some 0) with
  accessFlags := 49
  interfaces := #[]
  cf := some (fileOf pool16 1 #[.nestMembers #[98]] #[{ accessFlags := 2, nameIndex := 7, descriptorIndex := 8, attributes := #[] }, { accessFlags := 9, nameIndex := 198, descriptorIndex := 335, attributes := #[] }, { accessFlags := 9, nameIndex := 201, descriptorIndex := 335, attributes := #[] }] 49 4 #[] #[{ accessFlags := 25, nameIndex := 354, descriptorIndex := 339, attributes := #[] }, { accessFlags := 25, nameIndex := 358, descriptorIndex := 339, attributes := #[] }, { accessFlags := 25, nameIndex := 361, descriptorIndex := 339, attributes := #[] }, { accessFlags := 26, nameIndex := 364, descriptorIndex := 339, attributes := #[] }, { accessFlags := 26, nameIndex := 365, descriptorIndex := 339, attributes := #[] }, { accessFlags := 26, nameIndex := 172, descriptorIndex := 173, attributes := #[] }, { accessFlags := 26, nameIndex := 176, descriptorIndex := 173, attributes := #[] }, { accessFlags := 8, nameIndex := 344, descriptorIndex := 339, attributes := #[] }, { accessFlags := 8, nameIndex := 338, descriptorIndex := 339, attributes := #[] }, { accessFlags := 4120, nameIndex := 245, descriptorIndex := 246, attributes := #[] }])
  fields := #[{ name := "E", type := .double, accessFlags := 25, slot := 0, constantValue := 0 }, { name := "PI", type := .double, accessFlags := 25, slot := 1, constantValue := 0 }, { name := "TAU", type := .double, accessFlags := 25, slot := 2, constantValue := 0 }, { name := "DEGREES_TO_RADIANS", type := .double, accessFlags := 26, slot := 3, constantValue := 0 }, { name := "RADIANS_TO_DEGREES", type := .double, accessFlags := 26, slot := 4, constantValue := 0 }, { name := "negativeZeroFloatBits", type := .long, accessFlags := 26, slot := 5, constantValue := 0 }, { name := "negativeZeroDoubleBits", type := .long, accessFlags := 26, slot := 6, constantValue := 0 }, { name := "twoToTheDoubleScaleUp", type := .double, accessFlags := 8, slot := 7, constantValue := 0 }, { name := "twoToTheDoubleScaleDown", type := .double, accessFlags := 8, slot := 8, constantValue := 0 }, { name := "$assertionsDisabled", type := .boolean, accessFlags := 4120, slot := 9, constantValue := 0 }]
  methods := #[k16m0, k16m1, k16m2]
  instanceTypes := #[]
  staticTypes := #[.double, .double, .double, .double, .double, .long, .long, .double, .double, .boolean]
  resolved := Array.replicate 460 none
  statics := none }

def pool17 : Array CpInfo := pool [(2, .class_ 4), (1, u "java/lang/Object"), (0, u "<init>"), (0, u "()V"), (7, .class_ 16), (1, u "java/util/Arrays"), (57, .class_ 76), (1, u "java/util/Arrays$NaturalOrder"), (36, .class_ 115), (1, u "java/util/Arrays$LegacyMergeSort"), (1, u "Z"), (21, u "copyOfRange"), (10, .methodref 151 152), (0, .class_ 153), (0, .nameAndType 154 155), (0, u "java/lang/System"), (0, u "arraycopy"), (0, u "(Ljava/lang/Object;ILjava/lang/Object;II)V"), (146, u "copyOf"), (1, .methodref 305 306), (0, .class_ 307), (0, .nameAndType 308 309), (0, u "java/lang/Math"), (0, u "min"), (0, u "(II)I"), (29, .methodref 14 340), (0, .nameAndType 341 342), (0, u "copyOfRangeByte"), (0, u "([BII)[B"), (0, .methodref 14 344), (0, .nameAndType 345 346), (0, u "checkLength"), (0, u "(II)V"), (28, .class_ 376), (0, u "java/util/Arrays$ArrayList"), (68, u "$assertionsDisabled"), (269, u "MIN_ARRAY_SORT_GRAN"), (0, u "I"), (2, u "INSERTIONSORT_THRESHOLD"), (149, u "([BI)[B"), (105, .class_ 976), (0, u "java/util/Arrays$ArrayItr")] 52

def k17m0 : Method := { name := "<init>", desc := "()V", sig := { parameters := [], returnType := none }, accessFlags := 2, code := none }
def k17c1 : Code := { maxStack := 6, maxLocals := 3, code := jdk_65_method_121_code, exceptionTable := #[], attributes := #[] }
def k17m1 : Method := { name := "copyOf", desc := "([BI)[B", sig := { parameters := [(.array .byte), .int], returnType := some (.array .byte) }, accessFlags := 9, code := some k17c1 }
def k17c2 : Code := { maxStack := 4, maxLocals := 2, code := jdk_65_method_131_code, exceptionTable := #[], attributes := #[] }
def k17m2 : Method := { name := "checkLength", desc := "(II)V", sig := { parameters := [.int, .int], returnType := none }, accessFlags := 10, code := some k17c2 }
def k17c3 : Code := { maxStack := 3, maxLocals := 3, code := jdk_65_method_132_code, exceptionTable := #[], attributes := #[] }
def k17m3 : Method := { name := "copyOfRange", desc := "([BII)[B", sig := { parameters := [(.array .byte), .int, .int], returnType := some (.array .byte) }, accessFlags := 9, code := some k17c3 }
def k17c4 : Code := { maxStack := 6, maxLocals := 5, code := jdk_65_method_133_code, exceptionTable := #[], attributes := #[] }
def k17m4 : Method := { name := "copyOfRangeByte", desc := "([BII)[B", sig := { parameters := [(.array .byte), .int, .int], returnType := some (.array .byte) }, accessFlags := 10, code := some k17c4 }
/-- java/util/Arrays -/
def k17 : Class := { plain "java/util/Arrays" (some 0) with
  accessFlags := 49
  interfaces := #[]
  cf := some (fileOf pool17 14 #[.nestMembers #[975, 375, 113, 74]] #[{ accessFlags := 2, nameIndex := 5, descriptorIndex := 6, attributes := #[] }, { accessFlags := 9, nameIndex := 302, descriptorIndex := 869, attributes := #[] }, { accessFlags := 10, nameIndex := 345, descriptorIndex := 346, attributes := #[] }, { accessFlags := 9, nameIndex := 139, descriptorIndex := 342, attributes := #[] }, { accessFlags := 10, nameIndex := 341, descriptorIndex := 342, attributes := #[] }] 49 2 #[] #[{ accessFlags := 26, nameIndex := 715, descriptorIndex := 716, attributes := #[] }, { accessFlags := 26, nameIndex := 719, descriptorIndex := 716, attributes := #[] }, { accessFlags := 4120, nameIndex := 445, descriptorIndex := 117, attributes := #[] }])
  fields := #[{ name := "MIN_ARRAY_SORT_GRAN", type := .int, accessFlags := 26, slot := 0, constantValue := 0 }, { name := "INSERTIONSORT_THRESHOLD", type := .int, accessFlags := 26, slot := 1, constantValue := 0 }, { name := "$assertionsDisabled", type := .boolean, accessFlags := 4120, slot := 2, constantValue := 0 }]
  methods := #[k17m0, k17m1, k17m2, k17m3, k17m4]
  instanceTypes := #[]
  staticTypes := #[.int, .int, .boolean]
  resolved := Array.replicate 1029 none
  statics := none }

def pool18 : Array CpInfo := pool [(2, .class_ 4), (1, u "java/lang/Object"), (0, u "<init>"), (0, u "()V"), (1, .class_ 10), (1, u "java/lang/System"), (0, u "allowSecurityManager"), (0, u "I"), (16, u "cons"), (0, u "Ljava/io/Console;"), (77, .class_ 110), (1, u "java/lang/System$CallersHolder"), (43, u "initialErrStream"), (0, u "Ljava/io/PrintStream;"), (19, u "security"), (0, u "Ljava/lang/SecurityManager;"), (31, .class_ 209), (0, u "java/lang/System$1"), (7, u "props"), (0, u "Ljava/util/Properties;"), (2, u "lineSeparator"), (0, u "Ljava/lang/String;"), (96, .class_ 321), (1, u "java/lang/System$LoggerFinder"), (5, .class_ 328), (0, u "java/lang/System$Logger"), (67, u "err"), (2, u "out"), (91, u "notSupportedJnuEncoding"), (15, u "in"), (17, u "initialIn"), (0, u "Ljava/io/InputStream;"), (35, u "bootLayer"), (0, u "Ljava/lang/ModuleLayer;"), (99, .class_ 664), (0, u "java/lang/System$2"), (9, u "NEVER"), (2, u "MAYBE"), (49, u "arraycopy"), (0, u "(Ljava/lang/Object;ILjava/lang/Object;II)V"), (72, .class_ 802), (0, u "java/lang/System$Logger$Level")] 31

def k18m0 : Method := { name := "<init>", desc := "()V", sig := { parameters := [], returnType := none }, accessFlags := 2, code := none }
def k18m1 : Method := { name := "arraycopy", desc := "(Ljava/lang/Object;ILjava/lang/Object;II)V", sig := { parameters := [(.object "java/lang/Object"), .int, (.object "java/lang/Object"), .int, .int], returnType := none }, accessFlags := 265, code := none }
/-- java/lang/System -/
def k18 : Class := { plain "java/lang/System" (some 0) with
  accessFlags := 49
  interfaces := #[]
  cf := some (fileOf pool18 8 #[.nestMembers #[319, 327, 801, 108, 663, 208]] #[{ accessFlags := 2, nameIndex := 5, descriptorIndex := 6, attributes := #[] }, { accessFlags := 265, nameIndex := 727, descriptorIndex := 728, attributes := #[] }] 49 2 #[] #[{ accessFlags := 25, nameIndex := 507, descriptorIndex := 526, attributes := #[] }, { accessFlags := 25, nameIndex := 399, descriptorIndex := 155, attributes := #[] }, { accessFlags := 25, nameIndex := 396, descriptorIndex := 155, attributes := #[] }, { accessFlags := 10, nameIndex := 525, descriptorIndex := 526, attributes := #[] }, { accessFlags := 26, nameIndex := 674, descriptorIndex := 12, attributes := #[] }, { accessFlags := 26, nameIndex := 677, descriptorIndex := 12, attributes := #[] }, { accessFlags := 10, nameIndex := 11, descriptorIndex := 12, attributes := #[] }, { accessFlags := 74, nameIndex := 175, descriptorIndex := 176, attributes := #[] }, { accessFlags := 10, nameIndex := 491, descriptorIndex := 222, attributes := #[] }, { accessFlags := 74, nameIndex := 29, descriptorIndex := 30, attributes := #[] }, { accessFlags := 74, nameIndex := 154, descriptorIndex := 155, attributes := #[] }, { accessFlags := 10, nameIndex := 217, descriptorIndex := 218, attributes := #[] }, { accessFlags := 10, nameIndex := 221, descriptorIndex := 222, attributes := #[] }, { accessFlags := 8, nameIndex := 562, descriptorIndex := 563, attributes := #[] }])
  fields := #[{ name := "in", type := (.object "java/io/InputStream"), accessFlags := 25, slot := 0, constantValue := 0 }, { name := "out", type := (.object "java/io/PrintStream"), accessFlags := 25, slot := 1, constantValue := 0 }, { name := "err", type := (.object "java/io/PrintStream"), accessFlags := 25, slot := 2, constantValue := 0 }, { name := "initialIn", type := (.object "java/io/InputStream"), accessFlags := 10, slot := 3, constantValue := 0 }, { name := "NEVER", type := .int, accessFlags := 26, slot := 4, constantValue := 0 }, { name := "MAYBE", type := .int, accessFlags := 26, slot := 5, constantValue := 0 }, { name := "allowSecurityManager", type := .int, accessFlags := 10, slot := 6, constantValue := 0 }, { name := "security", type := (.object "java/lang/SecurityManager"), accessFlags := 74, slot := 7, constantValue := 0 }, { name := "notSupportedJnuEncoding", type := (.object "java/lang/String"), accessFlags := 10, slot := 8, constantValue := 0 }, { name := "cons", type := (.object "java/io/Console"), accessFlags := 74, slot := 9, constantValue := 0 }, { name := "initialErrStream", type := (.object "java/io/PrintStream"), accessFlags := 74, slot := 10, constantValue := 0 }, { name := "props", type := (.object "java/util/Properties"), accessFlags := 10, slot := 11, constantValue := 0 }, { name := "lineSeparator", type := (.object "java/lang/String"), accessFlags := 10, slot := 12, constantValue := 0 }, { name := "bootLayer", type := (.object "java/lang/ModuleLayer"), accessFlags := 8, slot := 13, constantValue := 0 }]
  methods := #[k18m0, k18m1]
  instanceTypes := #[]
  staticTypes := #[(.object "java/io/InputStream"), (.object "java/io/PrintStream"), (.object "java/io/PrintStream"), (.object "java/io/InputStream"), .int, .int, .int, (.object "java/lang/SecurityManager"), (.object "java/lang/String"), (.object "java/io/Console"), (.object "java/io/PrintStream"), (.object "java/util/Properties"), (.object "java/lang/String"), (.object "java/lang/ModuleLayer")]
  resolved := Array.replicate 834 none
  statics := none }

def pool19 : Array CpInfo := pool [(4, .class_ 6), (1, u "java/lang/Object"), (0, u "<init>"), (0, u "()V"), (5, .class_ 16), (1, u "java/lang/StringLatin1"), (104, u "$assertionsDisabled"), (0, u "Z"), (98, .class_ 223), (1, u "java/lang/StringLatin1$LinesSpliterator"), (57, u "equals"), (0, u "([B[B)Z"), (107, .class_ 391), (0, u "java/lang/StringLatin1$CharsSpliterator")] 3

def k19m0 : Method := { name := "<init>", desc := "()V", sig := { parameters := [], returnType := none }, accessFlags := 0, code := none }
def k19c1 : Code := { maxStack := 3, maxLocals := 3, code := jdk_43_method_13_code, exceptionTable := #[], attributes := #[] }
def k19m1 : Method := { name := "equals", desc := "([B[B)Z", sig := { parameters := [(.array .byte), (.array .byte)], returnType := some .boolean }, accessFlags := 9, code := some k19c1 }
/-- java/lang/StringLatin1 -/
def k19 : Class := { plain "java/lang/StringLatin1" (some 0) with
  accessFlags := 48
  interfaces := #[]
  cf := some (fileOf pool19 14 #[.nestMembers #[390, 221]] #[{ accessFlags := 0, nameIndex := 7, descriptorIndex := 8, attributes := #[] }, { accessFlags := 9, nameIndex := 281, descriptorIndex := 282, attributes := #[] }] 48 4 #[] #[{ accessFlags := 4120, nameIndex := 121, descriptorIndex := 122, attributes := #[] }])
  fields := #[{ name := "$assertionsDisabled", type := .boolean, accessFlags := 4120, slot := 0, constantValue := 0 }]
  methods := #[k19m0, k19m1]
  instanceTypes := #[]
  staticTypes := #[.boolean]
  resolved := Array.replicate 395 none
  statics := none }

def pool20 : Array CpInfo := pool [(2, .class_ 4), (1, u "java/lang/Object"), (0, u "<init>"), (0, u "()V"), (17, .class_ 26), (1, u "jdk/internal/util/Preconditions"), (28, .class_ 56), (0, u "jdk/internal/util/Preconditions$4"), (57, .class_ 115), (0, u "jdk/internal/util/Preconditions$1"), (7, u "SIOOBE_FORMATTER"), (0, u "Ljava/util/function/BiFunction;"), (0, .class_ 126), (0, u "jdk/internal/util/Preconditions$2"), (3, u "AIOOBE_FORMATTER"), (0, .class_ 132), (0, u "jdk/internal/util/Preconditions$3"), (3, u "IOOBE_FORMATTER")] 57

def k20m0 : Method := { name := "<init>", desc := "()V", sig := { parameters := [], returnType := none }, accessFlags := 1, code := none }
/-- jdk/internal/util/Preconditions -/
def k20 : Class := { plain "jdk/internal/util/Preconditions" (some 0) with
  accessFlags := 33
  interfaces := #[]
  cf := some (fileOf pool20 24 #[.nestMembers #[55, 131, 125, 114]] #[{ accessFlags := 1, nameIndex := 5, descriptorIndex := 6, attributes := #[] }] 33 2 #[] #[{ accessFlags := 25, nameIndex := 123, descriptorIndex := 124, attributes := #[] }, { accessFlags := 25, nameIndex := 130, descriptorIndex := 124, attributes := #[] }, { accessFlags := 25, nameIndex := 136, descriptorIndex := 124, attributes := #[] }])
  fields := #[{ name := "SIOOBE_FORMATTER", type := (.object "java/util/function/BiFunction"), accessFlags := 25, slot := 0, constantValue := 0 }, { name := "AIOOBE_FORMATTER", type := (.object "java/util/function/BiFunction"), accessFlags := 25, slot := 1, constantValue := 0 }, { name := "IOOBE_FORMATTER", type := (.object "java/util/function/BiFunction"), accessFlags := 25, slot := 2, constantValue := 0 }]
  methods := #[k20m0]
  instanceTypes := #[]
  staticTypes := #[(.object "java/util/function/BiFunction"), (.object "java/util/function/BiFunction"), (.object "java/util/function/BiFunction")]
  resolved := Array.replicate 194 none
  statics := some 2 }

def pool21 : Array CpInfo := pool [(2, .class_ 4), (1, u "java/lang/Object"), (0, u "<init>"), (0, u "()V"), (12, .class_ 20), (0, u "java/util/Collections"), (63, u "r"), (0, u "Ljava/util/Random;"), (80, .class_ 167), (0, u "java/util/Collections$UnmodifiableCollection"), (6, .class_ 175), (0, u "java/util/Collections$UnmodifiableSequencedCollection"), (6, .class_ 183), (0, u "java/util/Collections$UnmodifiableSet"), (6, .class_ 191), (0, u "java/util/Collections$UnmodifiableSequencedSet"), (6, .class_ 199), (0, u "java/util/Collections$UnmodifiableSortedSet"), (6, .class_ 207), (0, u "java/util/Collections$UnmodifiableNavigableSet"), (4, .class_ 213), (0, u "java/util/Collections$UnmodifiableList"), (1, .class_ 216), (0, u "java/util/Collections$UnmodifiableRandomAccessList"), (6, .class_ 224), (0, u "java/util/Collections$UnmodifiableMap"), (6, .class_ 232), (0, u "java/util/Collections$UnmodifiableSequencedMap"), (4, .class_ 238), (0, u "java/util/Collections$UnmodifiableSortedMap"), (6, .class_ 246), (0, u "java/util/Collections$UnmodifiableNavigableMap"), (3, .class_ 251), (0, u "java/util/Collections$SynchronizedCollection"), (4, .class_ 257), (0, u "java/util/Collections$SynchronizedSet"), (4, .class_ 263), (0, u "java/util/Collections$SynchronizedSortedSet"), (1, .class_ 266), (0, u "java/util/Collections$SynchronizedNavigableSet"), (1, .class_ 269), (0, u "java/util/Collections$SynchronizedRandomAccessList"), (1, .class_ 272), (0, u "java/util/Collections$SynchronizedList"), (5, .class_ 279), (0, u "java/util/Collections$SynchronizedMap"), (1, .class_ 282), (0, u "java/util/Collections$SynchronizedSortedMap"), (1, .class_ 285), (0, u "java/util/Collections$SynchronizedNavigableMap"), (1, .class_ 288), (0, u "java/util/Collections$CheckedCollection"), (11, .class_ 301), (0, u "java/util/Collections$CheckedQueue"), (3, .class_ 306), (0, u "java/util/Collections$CheckedSet"), (3, .class_ 311), (0, u "java/util/Collections$CheckedSortedSet"), (3, .class_ 316), (0, u "java/util/Collections$CheckedNavigableSet"), (3, .class_ 321), (0, u "java/util/Collections$CheckedRandomAccessList"), (3, .class_ 326), (0, u "java/util/Collections$CheckedList"), (1, .class_ 329), (0, u "java/util/Collections$CheckedMap"), (3, .class_ 334), (0, u "java/util/Collections$CheckedSortedMap"), (3, .class_ 339), (0, u "java/util/Collections$CheckedNavigableMap"), (4, .class_ 346), (1, u "java/util/Collections$EmptyIterator"), (3, .class_ 352), (1, u "java/util/Collections$EmptyListIterator"), (2, .class_ 357), (1, u "java/util/Collections$EmptyEnumeration"), (4, u "EMPTY_SET"), (0, u "Ljava/util/Set;"), (6, u "EMPTY_LIST"), (0, u "Ljava/util/List;"), (2, u "EMPTY_MAP"), (0, u "Ljava/util/Map;"), (4, .class_ 381), (0, u "java/util/Collections$SingletonSet"), (2, .class_ 385), (0, u "java/util/Collections$1"), (1, .class_ 388), (0, u "java/util/Collections$2"), (1, .class_ 391), (0, u "java/util/Collections$SingletonList"), (1, .class_ 394), (0, u "java/util/Collections$SingletonMap"), (22, .class_ 418), (0, u "java/util/Collections$CopiesList"), (4, .class_ 425), (1, u "java/util/Collections$ReverseComparator"), (8, .class_ 435), (0, u "java/util/Collections$ReverseComparator2"), (6, .class_ 443), (0, u "java/util/Collections$3"), (25, .class_ 470), (0, u "java/util/Collections$SetFromMap"), (2, .class_ 474), (0, u "java/util/Collections$SequencedSetFromMap"), (3, .class_ 479), (0, u "java/util/Collections$AsLIFOQueue"), (11, .class_ 492), (0, u "java/util/Collections$EmptySet"), (1, .class_ 495), (0, u "java/util/Collections$EmptyList"), (1, .class_ 498), (0, u "java/util/Collections$EmptyMap"), (1, u "BINARYSEARCH_THRESHOLD"), (0, u "I"), (2, u "REVERSE_THRESHOLD"), (1, u "SHUFFLE_THRESHOLD"), (1, u "FILL_THRESHOLD"), (1, u "ROTATE_THRESHOLD"), (1, u "COPY_THRESHOLD"), (1, u "REPLACEALL_THRESHOLD"), (1, u "INDEXOFSUBLIST_THRESHOLD"), (333, .class_ 851), (0, u "java/util/Collections$CheckedMap$CheckedEntrySet"), (0, .class_ 853), (0, u "java/util/Collections$CheckedMap$CheckedEntrySet$CheckedEntry"), (0, .class_ 855), (0, u "java/util/Collections$CheckedMap$CheckedEntrySet$1"), (0, .class_ 857), (0, u "java/util/Collections$CheckedList$1"), (0, .class_ 859), (0, u "java/util/Collections$CheckedCollection$1"), (0, .class_ 861), (0, u "java/util/Collections$UnmodifiableNavigableMap$EmptyNavigableMap"), (0, .class_ 863), (0, u "java/util/Collections$UnmodifiableMap$UnmodifiableEntrySet"), (0, .class_ 865), (0, u "java/util/Collections$UnmodifiableMap$UnmodifiableEntrySet$UnmodifiableEntry"), (0, .class_ 867), (0, u "java/util/Collections$UnmodifiableMap$UnmodifiableEntrySet$UnmodifiableEntrySetSpliterator"), (0, .class_ 869), (0, u "java/util/Collections$UnmodifiableMap$UnmodifiableEntrySet$1"), (0, .class_ 871), (0, u "java/util/Collections$UnmodifiableList$1"), (0, .class_ 873), (0, u "java/util/Collections$UnmodifiableNavigableSet$EmptyNavigableSet"), (0, .class_ 875), (0, u "java/util/Collections$UnmodifiableCollection$1")] 57

def k21m0 : Method := { name := "<init>", desc := "()V", sig := { parameters := [], returnType := none }, accessFlags := 2, code := none }
/-- java/util/Collections -/
def k21 : Class := { plain "java/util/Collections" (some 0) with
  accessFlags := 33
  interfaces := #[]
  cf := some (fileOf pool21 19 #[.nestMembers #[478, 473, 469, 434, 423, 417, 393, 390, 380, 497, 494, 491, 355, 350, 344, 338, 333, 328, 850, 852, 854, 320, 325, 856, 315, 310, 305, 300, 287, 858, 284, 281, 278, 268, 271, 265, 262, 256, 250, 245, 860, 237, 231, 223, 862, 864, 866, 868, 215, 212, 870, 206, 872, 198, 190, 182, 174, 166, 874, 442, 387, 384]] #[{ accessFlags := 2, nameIndex := 5, descriptorIndex := 6, attributes := #[] }] 33 2 #[] #[{ accessFlags := 26, nameIndex := 500, descriptorIndex := 501, attributes := #[] }, { accessFlags := 26, nameIndex := 504, descriptorIndex := 501, attributes := #[] }, { accessFlags := 26, nameIndex := 506, descriptorIndex := 501, attributes := #[] }, { accessFlags := 26, nameIndex := 508, descriptorIndex := 501, attributes := #[] }, { accessFlags := 26, nameIndex := 510, descriptorIndex := 501, attributes := #[] }, { accessFlags := 26, nameIndex := 512, descriptorIndex := 501, attributes := #[] }, { accessFlags := 26, nameIndex := 514, descriptorIndex := 501, attributes := #[] }, { accessFlags := 26, nameIndex := 516, descriptorIndex := 501, attributes := #[] }, { accessFlags := 10, nameIndex := 84, descriptorIndex := 85, attributes := #[] }, { accessFlags := 25, nameIndex := 362, descriptorIndex := 363, attributes := #[] }, { accessFlags := 25, nameIndex := 370, descriptorIndex := 371, attributes := #[] }, { accessFlags := 25, nameIndex := 374, descriptorIndex := 375, attributes := #[] }])
  fields := #[{ name := "BINARYSEARCH_THRESHOLD", type := .int, accessFlags := 26, slot := 0, constantValue := 0 }, { name := "REVERSE_THRESHOLD", type := .int, accessFlags := 26, slot := 1, constantValue := 0 }, { name := "SHUFFLE_THRESHOLD", type := .int, accessFlags := 26, slot := 2, constantValue := 0 }, { name := "FILL_THRESHOLD", type := .int, accessFlags := 26, slot := 3, constantValue := 0 }, { name := "ROTATE_THRESHOLD", type := .int, accessFlags := 26, slot := 4, constantValue := 0 }, { name := "COPY_THRESHOLD", type := .int, accessFlags := 26, slot := 5, constantValue := 0 }, { name := "REPLACEALL_THRESHOLD", type := .int, accessFlags := 26, slot := 6, constantValue := 0 }, { name := "INDEXOFSUBLIST_THRESHOLD", type := .int, accessFlags := 26, slot := 7, constantValue := 0 }, { name := "r", type := (.object "java/util/Random"), accessFlags := 10, slot := 8, constantValue := 0 }, { name := "EMPTY_SET", type := (.object "java/util/Set"), accessFlags := 25, slot := 9, constantValue := 0 }, { name := "EMPTY_LIST", type := (.object "java/util/List"), accessFlags := 25, slot := 10, constantValue := 0 }, { name := "EMPTY_MAP", type := (.object "java/util/Map"), accessFlags := 25, slot := 11, constantValue := 0 }]
  methods := #[k21m0]
  instanceTypes := #[]
  staticTypes := #[.int, .int, .int, .int, .int, .int, .int, .int, (.object "java/util/Random"), (.object "java/util/Set"), (.object "java/util/List"), (.object "java/util/Map")]
  resolved := Array.replicate 933 none
  statics := some 3 }

def pool22 : Array CpInfo := pool [(8, .class_ 10), (1, u "java/lang/Iterable"), (24, .class_ 36), (0, u "java/lang/Object")] 25

/-- java/lang/Iterable -/
def k22 : Class := { plain "java/lang/Iterable" (some 0) with
  accessFlags := 1537
  interfaces := #[]
  cf := some (fileOf pool22 8 #[] #[] 1537 35 #[] #[])
  fields := #[]
  methods := #[]
  instanceTypes := #[]
  staticTypes := #[]
  resolved := Array.replicate 62 none
  statics := none }

def pool23 : Array CpInfo := pool [(10, .class_ 12), (1, u "java/util/Collection"), (47, .class_ 61), (0, u "java/lang/Object"), (0, .class_ 63), (0, u "java/lang/Iterable")] 51

/-- java/util/Collection -/
def k23 : Class := { plain "java/util/Collection" (some 0) with
  accessFlags := 1537
  interfaces := #[22]
  cf := some (fileOf pool23 10 #[] #[] 1537 60 #[62] #[])
  fields := #[]
  methods := #[]
  instanceTypes := #[]
  staticTypes := #[]
  resolved := Array.replicate 115 none
  statics := none }

def pool24 : Array CpInfo := pool [(2, .class_ 4), (1, u "java/lang/Object"), (0, u "<init>"), (0, u "()V"), (1, .class_ 10), (1, u "java/util/AbstractCollection"), (66, .class_ 78), (0, u "java/util/Collection")] 81

def k24m0 : Method := { name := "<init>", desc := "()V", sig := { parameters := [], returnType := none }, accessFlags := 4, code := none }
/-- java/util/AbstractCollection -/
def k24 : Class := { plain "java/util/AbstractCollection" (some 0) with
  accessFlags := 1057
  interfaces := #[23]
  cf := some (fileOf pool24 8 #[] #[{ accessFlags := 4, nameIndex := 5, descriptorIndex := 6, attributes := #[] }] 1057 2 #[77] #[])
  fields := #[]
  methods := #[k24m0]
  instanceTypes := #[]
  staticTypes := #[]
  resolved := Array.replicate 160 none
  statics := none }

def pool25 : Array CpInfo := pool [(8, .class_ 10), (1, u "java/util/SequencedCollection"), (15, .class_ 27), (0, u "java/lang/Object"), (0, .class_ 29), (0, u "java/util/Collection")] 27

/-- java/util/SequencedCollection -/
def k25 : Class := { plain "java/util/SequencedCollection" (some 0) with
  accessFlags := 1537
  interfaces := #[23]
  cf := some (fileOf pool25 8 #[] #[] 1537 26 #[28] #[])
  fields := #[]
  methods := #[]
  instanceTypes := #[]
  staticTypes := #[]
  resolved := Array.replicate 57 none
  statics := none }

def pool26 : Array CpInfo := pool [(8, .class_ 10), (1, u "java/util/List"), (92, .class_ 104), (0, u "java/lang/Object"), (15, .class_ 121), (0, u "java/util/SequencedCollection")] 129

/-- java/util/List -/
def k26 : Class := { plain "java/util/List" (some 0) with
  accessFlags := 1537
  interfaces := #[25]
  cf := some (fileOf pool26 8 #[] #[] 1537 103 #[120] #[])
  fields := #[]
  methods := #[]
  instanceTypes := #[]
  staticTypes := #[]
  resolved := Array.replicate 251 none
  statics := none }

def pool27 : Array CpInfo := pool [(2, .class_ 4), (1, u "java/util/AbstractCollection"), (0, u "<init>"), (0, u "()V"), (1, .class_ 10), (1, u "java/util/AbstractList"), (0, u "modCount"), (0, u "I"), (64, .class_ 78), (0, u "java/util/AbstractList$Itr"), (3, .class_ 83), (0, u "java/util/AbstractList$ListItr"), (9, .class_ 94), (0, u "java/util/AbstractList$RandomAccessSubList"), (3, .class_ 99), (0, u "java/util/AbstractList$SubList"), (33, .class_ 134), (0, u "java/util/List"), (73, .class_ 209), (0, u "java/util/AbstractList$SubList$1"), (0, .class_ 211), (0, u "java/util/AbstractList$RandomAccessSpliterator")] 6

def k27m0 : Method := { name := "<init>", desc := "()V", sig := { parameters := [], returnType := none }, accessFlags := 4, code := none }
/-- java/util/AbstractList -/
def k27 : Class := { plain "java/util/AbstractList" (some 24) with
  accessFlags := 1057
  interfaces := #[26]
  cf := some (fileOf pool27 8 #[.nestMembers #[93, 98, 208, 210, 82, 77]] #[{ accessFlags := 4, nameIndex := 5, descriptorIndex := 6, attributes := #[] }] 1057 2 #[133] #[{ accessFlags := 132, nameIndex := 11, descriptorIndex := 12, attributes := #[] }])
  fields := #[{ name := "modCount", type := .int, accessFlags := 132, slot := 0, constantValue := 0 }]
  methods := #[k27m0]
  instanceTypes := #[.int]
  staticTypes := #[]
  resolved := Array.replicate 218 none
  statics := none }

def pool28 : Array CpInfo := pool [(1, .class_ 2), (0, u "java/util/RandomAccess"), (0, .class_ 4), (0, u "java/lang/Object")] 2

/-- java/util/RandomAccess -/
def k28 : Class := { plain "java/util/RandomAccess" (some 0) with
  accessFlags := 1537
  interfaces := #[]
  cf := some (fileOf pool28 1 #[] #[] 1537 3 #[] #[])
  fields := #[]
  methods := #[]
  instanceTypes := #[]
  staticTypes := #[]
  resolved := Array.replicate 7 none
  statics := none }

def pool29 : Array CpInfo := pool [(2, .class_ 4), (1, u "java/util/AbstractList"), (0, u "<init>"), (0, u "()V"), (1, .class_ 10), (1, u "java/util/Collections"), (54, .class_ 66), (0, u "java/util/Collections$EmptyList"), (0, .class_ 68), (0, u "java/util/RandomAccess"), (0, .class_ 70), (0, u "java/io/Serializable"), (0, u "serialVersionUID"), (0, u "J")] 77

def k29m0 : Method := { name := "<init>", desc := "()V", sig := { parameters := [], returnType := none }, accessFlags := 2, code := none }
/-- java/util/Collections$EmptyList -/
def k29 : Class := { plain "java/util/Collections$EmptyList" (some 27) with
  accessFlags := 32
  interfaces := #[28, 2]
  cf := some (fileOf pool29 65 #[.nestHost 8] #[{ accessFlags := 2, nameIndex := 5, descriptorIndex := 6, attributes := #[] }] 32 2 #[67, 69] #[{ accessFlags := 26, nameIndex := 71, descriptorIndex := 72, attributes := #[] }])
  fields := #[{ name := "serialVersionUID", type := .long, accessFlags := 26, slot := 0, constantValue := 0 }]
  methods := #[k29m0]
  instanceTypes := #[.int]
  staticTypes := #[.long]
  resolved := Array.replicate 150 none
  statics := none }

def pool30 : Array CpInfo := pool [(2, .class_ 4), (1, u "java/lang/StackTraceElement"), (0, u "<init>"), (2, .class_ 10), (1, u "java/lang/Object"), (0, u "()V"), (2, u "format"), (0, u "B"), (2, u "classLoaderName"), (0, u "Ljava/lang/String;"), (2, u "moduleName"), (2, u "moduleVersion"), (12, u "declaringClass"), (4, u "methodName"), (2, u "fileName"), (2, u "lineNumber"), (0, u "I"), (65, u "declaringClassObject"), (0, u "Ljava/lang/Class;"), (33, .class_ 153), (1, u "java/lang/StackTraceElement$HashedModules"), (17, .class_ 172), (0, u "java/io/Serializable"), (0, u "NATIVE_METHOD"), (1, u "UNKNOWN_SOURCE"), (2, u "BUILTIN_CLASS_LOADER"), (1, u "JDK_NON_UPGRADEABLE_MODULE"), (1, u "serialVersionUID"), (0, u "J")] 51

def k30m0 : Method := { name := "<init>", desc := "()V", sig := { parameters := [], returnType := none }, accessFlags := 2, code := none }
/-- java/lang/StackTraceElement -/
def k30 : Class := { plain "java/lang/StackTraceElement" (some 0) with
  accessFlags := 49
  interfaces := #[2]
  cf := some (fileOf pool30 2 #[.nestMembers #[151]] #[{ accessFlags := 2, nameIndex := 5, descriptorIndex := 11, attributes := #[] }] 49 8 #[171] #[{ accessFlags := 26, nameIndex := 173, descriptorIndex := 19, attributes := #[] }, { accessFlags := 26, nameIndex := 175, descriptorIndex := 19, attributes := #[] }, { accessFlags := 130, nameIndex := 116, descriptorIndex := 117, attributes := #[] }, { accessFlags := 2, nameIndex := 18, descriptorIndex := 19, attributes := #[] }, { accessFlags := 2, nameIndex := 22, descriptorIndex := 19, attributes := #[] }, { accessFlags := 2, nameIndex := 25, descriptorIndex := 19, attributes := #[] }, { accessFlags := 2, nameIndex := 38, descriptorIndex := 19, attributes := #[] }, { accessFlags := 2, nameIndex := 43, descriptorIndex := 19, attributes := #[] }, { accessFlags := 2, nameIndex := 46, descriptorIndex := 19, attributes := #[] }, { accessFlags := 2, nameIndex := 49, descriptorIndex := 50, attributes := #[] }, { accessFlags := 2, nameIndex := 14, descriptorIndex := 15, attributes := #[] }, { accessFlags := 26, nameIndex := 178, descriptorIndex := 15, attributes := #[] }, { accessFlags := 26, nameIndex := 180, descriptorIndex := 15, attributes := #[] }, { accessFlags := 26, nameIndex := 182, descriptorIndex := 183, attributes := #[] }])
  fields := #[{ name := "NATIVE_METHOD", type := (.object "java/lang/String"), accessFlags := 26, slot := 0, constantValue := 0 }, { name := "UNKNOWN_SOURCE", type := (.object "java/lang/String"), accessFlags := 26, slot := 1, constantValue := 0 }, { name := "declaringClassObject", type := (.object "java/lang/Class"), accessFlags := 130, slot := 0, constantValue := 0 }, { name := "classLoaderName", type := (.object "java/lang/String"), accessFlags := 2, slot := 1, constantValue := 0 }, { name := "moduleName", type := (.object "java/lang/String"), accessFlags := 2, slot := 2, constantValue := 0 }, { name := "moduleVersion", type := (.object "java/lang/String"), accessFlags := 2, slot := 3, constantValue := 0 }, { name := "declaringClass", type := (.object "java/lang/String"), accessFlags := 2, slot := 4, constantValue := 0 }, { name := "methodName", type := (.object "java/lang/String"), accessFlags := 2, slot := 5, constantValue := 0 }, { name := "fileName", type := (.object "java/lang/String"), accessFlags := 2, slot := 6, constantValue := 0 }, { name := "lineNumber", type := .int, accessFlags := 2, slot := 7, constantValue := 0 }, { name := "format", type := .byte, accessFlags := 2, slot := 8, constantValue := 0 }, { name := "BUILTIN_CLASS_LOADER", type := .byte, accessFlags := 26, slot := 2, constantValue := 0 }, { name := "JDK_NON_UPGRADEABLE_MODULE", type := .byte, accessFlags := 26, slot := 3, constantValue := 0 }, { name := "serialVersionUID", type := .long, accessFlags := 26, slot := 4, constantValue := 0 }]
  methods := #[k30m0]
  instanceTypes := #[(.object "java/lang/Class"), (.object "java/lang/String"), (.object "java/lang/String"), (.object "java/lang/String"), (.object "java/lang/String"), (.object "java/lang/String"), (.object "java/lang/String"), .int, .byte]
  staticTypes := #[(.object "java/lang/String"), (.object "java/lang/String"), .byte, .byte, .long]
  resolved := Array.replicate 235 none
  statics := none }

def pool31 : Array CpInfo := pool [(1, u "java/lang/Cloneable"), (0, .class_ 1), (0, u "java/lang/Object"), (0, .class_ 3)] 3

/-- java/lang/Cloneable -/
def k31 : Class := { plain "java/lang/Cloneable" (some 0) with
  accessFlags := 1537
  interfaces := #[]
  cf := some (fileOf pool31 2 #[] #[] 1537 4 #[] #[])
  fields := #[]
  methods := #[]
  instanceTypes := #[]
  staticTypes := #[]
  resolved := Array.replicate 8 none
  statics := none }

/-- the primitive byte -/
def k32 : Class := { plain "byte" none with kind := .primitive 'B', accessFlags := 0x411 }
/-- [B -/
def k33 : Class := { plain "[B" (some 0) with kind := .array 32 .byte, interfaces := #[31, 2], accessFlags := 1041 }

/-- the primitive char -/
def k34 : Class := { plain "char" none with kind := .primitive 'C', accessFlags := 0x411 }
/-- [C -/
def k35 : Class := { plain "[C" (some 0) with kind := .array 34 .char, interfaces := #[31, 2], accessFlags := 1041 }

/-- the primitive int -/
def k36 : Class := { plain "int" none with kind := .primitive 'I', accessFlags := 0x411 }
/-- [I -/
def k37 : Class := { plain "[I" (some 0) with kind := .array 36 .int, interfaces := #[31, 2], accessFlags := 1041 }

/-- [Ljava/lang/Object; -/
def k38 : Class := { plain "[Ljava/lang/Object;" (some 0) with kind := .array 0 (.object "java/lang/Object"), interfaces := #[31, 2], accessFlags := 1041 }

/-- [Ljava/lang/StackTraceElement; -/
def k39 : Class := { plain "[Ljava/lang/StackTraceElement;" (some 0) with kind := .array 30 (.object "java/lang/StackTraceElement"), interfaces := #[31, 2], accessFlags := 1041 }

/-- [Ljava/lang/Throwable; -/
def k40 : Class := { plain "[Ljava/lang/Throwable;" (some 0) with kind := .array 9 (.object "java/lang/Throwable"), interfaces := #[31, 2], accessFlags := 1041 }

def heap : Heap := #[{ cls := 7, slots := #[.long 0, .int 1, .null, .int 0, .null, .int 0, .int 0], vm := .statics 7 },
  { cls := 9, slots := #[.long 0, .ref 4, .ref 5, .null, .null, .null, .null, .ref 6, .int 1], vm := .statics 9 },
  { cls := 20, slots := #[.null, .null, .null], vm := .statics 20 },
  { cls := 21, slots := #[.int 0, .int 0, .int 0, .int 0, .int 0, .int 0, .int 0, .int 0, .null, .null, .ref 5, .null], vm := .statics 21 },
  { cls := 39, slots := #[], vm := .none },
  { cls := 29, slots := #[.int 0], vm := .none },
  { cls := 40, slots := #[], vm := .none }]
def classes : Array Class := #[k0, k1, k2, k3, k4, k5, k6, k7, k8, k9, k10, k11, k12, k13, k14, k15, k16, k17, k18, k19, k20, k21, k22, k23, k24, k25, k26, k27, k28, k29, k30, k31, k32, k33, k34, k35, k36, k37, k38, k39, k40]
def interned : List (Array UInt16 × Addr) := []
def slotsUsed : Nat := 32
def theMethod : MethodId := ⟨1, 1⟩
def args0 : Array Value := #[.int 65, .int 66, .int 67, .int 2]
def aboutOver (below : List Frame) : State where
  vm := { classes := classes, interned := interned.toArray }
  heap := heap
  slotsUsed := slotsUsed
  threads := #[{ frames := .invoking theMethod args0 :: below }]
def below0 : List Frame := [.native { method := ⟨0, 0⟩, args := #[] }]
def about1 : State := aboutOver below0
def p0 : Program := .bare "" "" ""
def e0 : Env := launch0.env 0 0 0
theorem w_frames : about1.frames = Frame.invoking theMethod args0 :: below0 := rfl
set_option maxRecDepth 65536 in
theorem w_args : argsFit about1.vm theMethod args0 = true := by decide +kernel
set_option maxRecDepth 65536 in
theorem w_heap : heapFits about1 = true := by decide +kernel
set_option maxRecDepth 65536 in
theorem w_runnable : about1.curStatus? = some .runnable := by decide +kernel
set_option maxRecDepth 65536 in
theorem w_alone : about1.alone = true := by decide +kernel
set_option maxRecDepth 65536 in
theorem w_named : about1.methodNamed? x = some theMethod := by decide +kernel
set_option maxRecDepth 65536 in
theorem w_hears : about1.hears theMethod below0 = true := by decide +kernel
set_option maxRecDepth 65536 in
theorem w_ripe : about1.ripe theMethod args0 below0 = true := by decide +kernel
theorem w_running : about1.status = .running := rfl
set_option maxRecDepth 65536 in
theorem w_room : about1.hasRoom e0.platform room_1 = true :=
  launch0.hasRoom_least _ room_1 (by decide +kernel) (by decide +kernel) (by decide +kernel) (by decide +kernel) (by decide +kernel) (by decide +kernel)
theorem allAtoms_all (ts : List Jvm.Cond) (a : Array Jvm.Value) (st : Jvm.State) : (allAtoms ts).before a st = ts.all (fun c => c.before a st) := by
  induction ts with
  | nil => rfl
  | cons c t ih =>
    show (Jvm.Cond.and c (allAtoms t)).before a st = _
    rw [Jvm.Cond.before_and, ih, List.all_cons]
def words1 : List Jvm.Cond := Jvm.Cond.code x code maxLocals ret :: tables_1
/-- a 'code' word, met by the world's own term for the bytes: nothing is compared byte by byte -/
theorem code_word {y : MethodName} {bytes : ByteArray} {mx : Nat} {rt : Option FieldType} {a : Array Value} {s : State} {m : MethodId} {meth : Method} {c : Code} (h1 : s.methodNamed? y = some m) (h2 : s.vm.method? m = some meth) (h3 : meth.code = some c) (h4 : c.code = bytes)
    (h5 : (c.maxLocals == mx && c.exceptionTable.isEmpty && decide (c.maxStack ≤ mostOperands) && decide (meth.sig.returnType = rt) && !meth.locks && decide (parseMethodDescriptor y.desc = some meth.sig)) = true) : (Jvm.Cond.code y bytes mx rt).before a s = true := by
  simp only [Bool.and_eq_true, beq_iff_eq, Bool.not_eq_true', decide_eq_true_eq] at h5
  obtain ⟨⟨⟨⟨⟨g1, g2⟩, g3⟩, g4⟩, g5⟩, g6⟩ := h5
  simp [Cond.before, Cond.holds, Cond.value, h1, h2, h3, h4, g1, g2, g3, g4, g5, g6]
def isCode : Jvm.Cond → Bool
  | .code _ _ _ _ => true
  | _ => false
theorem all_split {L : List Jvm.Cond} {P : Jvm.Cond → Bool} (h1 : L.all (fun c => isCode c || P c) = true) (h2 : ∀ c ∈ L.filter isCode, P c = true) : L.all P = true := by
  refine List.all_eq_true.mpr fun c hc => ?_
  have h := List.all_eq_true.mp h1 c hc
  rcases Bool.eq_false_or_eq_true (isCode c) with hi | hi
  · exact h2 c (List.mem_filter.mpr ⟨hc, hi⟩)
  · simpa [hi] using h
set_option maxRecDepth 65536 in
theorem w_c0 : (Jvm.Cond.code x code maxLocals ret).before args0 about1 = true := code_word (m := ⟨1, 1⟩) (meth := k1m1) (c := k1c1) (by decide +kernel) rfl rfl rfl (by decide +kernel)
set_option maxRecDepth 65536 in
theorem w_c1 : (Jvm.Cond.code ({ cls := "com/example/slackline/slackline/UsageExceptionUnrecognizedOptionPinLaw", name := "opt", desc := "(CCCI)Ljava/lang/String;" } : Jvm.MethodName) method_3_code (4 : Nat) (Option.some (Jvm.ClassFile.FieldType.object "java/lang/String"))).before args0 about1 = true := code_word (m := ⟨1, 2⟩) (meth := k1m2) (c := k1c2) (by decide +kernel) rfl rfl rfl (by decide +kernel)
set_option maxRecDepth 65536 in
theorem w_c2 : (Jvm.Cond.code ({ cls := "java/lang/String", name := "<init>", desc := "([C)V" } : Jvm.MethodName) jdk_42_method_3_code (2 : Nat) (Option.none : Option Jvm.ClassFile.FieldType)).before args0 about1 = true := code_word (m := ⟨7, 1⟩) (meth := k7m1) (c := k7c1) (by decide +kernel) rfl rfl rfl (by decide +kernel)
set_option maxRecDepth 65536 in
theorem w_c3 : (Jvm.Cond.code ({ cls := "java/lang/String", name := "<init>", desc := "([CIILjava/lang/Void;)V" } : Jvm.MethodName) jdk_42_method_149_code (6 : Nat) (Option.none : Option Jvm.ClassFile.FieldType)).before args0 about1 = true := code_word (m := ⟨7, 6⟩) (meth := k7m6) (c := k7c6) (by decide +kernel) rfl rfl rfl (by decide +kernel)
set_option maxRecDepth 65536 in
theorem w_c4 : (Jvm.Cond.code ({ cls := "java/lang/Object", name := "<init>", desc := "()V" } : Jvm.MethodName) object_method_1_code (1 : Nat) (Option.none : Option Jvm.ClassFile.FieldType)).before args0 about1 = true := code_word (m := ⟨0, 0⟩) (meth := k0m0) (c := k0c0) (by decide +kernel) rfl rfl rfl (by decide +kernel)
set_option maxRecDepth 65536 in
theorem w_c5 : (Jvm.Cond.code ({ cls := "java/lang/StringUTF16", name := "compress", desc := "([CII)[B" } : Jvm.MethodName) jdk_52_method_16_code (6 : Nat) (Option.some (Jvm.ClassFile.FieldType.array Jvm.ClassFile.FieldType.byte))).before args0 about1 = true := code_word (m := ⟨8, 2⟩) (meth := k8m2) (c := k8c2) (by decide +kernel) rfl rfl rfl (by decide +kernel)
set_option maxRecDepth 65536 in
theorem w_c6 : (Jvm.Cond.code ({ cls := "java/lang/StringUTF16", name := "compress", desc := "([CI[BII)I" } : Jvm.MethodName) jdk_52_method_21_code (7 : Nat) (Option.some Jvm.ClassFile.FieldType.int)).before args0 about1 = true := code_word (m := ⟨8, 3⟩) (meth := k8m3) (c := k8c3) (by decide +kernel) rfl rfl rfl (by decide +kernel)
set_option maxRecDepth 65536 in
theorem w_c7 : (Jvm.Cond.code ({ cls := "java/lang/StringUTF16", name := "coderFromArrayLen", desc := "([BI)B" } : Jvm.MethodName) jdk_52_method_15_code (2 : Nat) (Option.some Jvm.ClassFile.FieldType.byte)).before args0 about1 = true := code_word (m := ⟨8, 1⟩) (meth := k8m1) (c := k8c1) (by decide +kernel) rfl rfl rfl (by decide +kernel)
set_option maxRecDepth 65536 in
theorem w_c8 : (Jvm.Cond.code ({ cls := "com/example/slackline/slackline/UsageException", name := "unrecognizedOption", desc := "(Ljava/lang/String;)Lcom/example/slackline/slackline/UsageException;" } : Jvm.MethodName) prog_53_method_2_code (1 : Nat) (Option.some (Jvm.ClassFile.FieldType.object "com/example/slackline/slackline/UsageException"))).before args0 about1 = true := code_word (m := ⟨11, 1⟩) (meth := k11m1) (c := k11c1) (by decide +kernel) rfl rfl rfl (by decide +kernel)
set_option maxRecDepth 65536 in
theorem w_c9 : (Jvm.Cond.code ({ cls := "java/lang/StringBuilder", name := "<init>", desc := "()V" } : Jvm.MethodName) jdk_67_method_1_code (1 : Nat) (Option.none : Option Jvm.ClassFile.FieldType)).before args0 about1 = true := code_word (m := ⟨14, 0⟩) (meth := k14m0) (c := k14c0) (by decide +kernel) rfl rfl rfl (by decide +kernel)
set_option maxRecDepth 65536 in
theorem w_c10 : (Jvm.Cond.code ({ cls := "java/lang/AbstractStringBuilder", name := "<init>", desc := "(I)V" } : Jvm.MethodName) jdk_68_method_2_code (2 : Nat) (Option.none : Option Jvm.ClassFile.FieldType)).before args0 about1 = true := code_word (m := ⟨13, 1⟩) (meth := k13m1) (c := k13c1) (by decide +kernel) rfl rfl rfl (by decide +kernel)
set_option maxRecDepth 65536 in
theorem w_c11 : (Jvm.Cond.code ({ cls := "java/lang/StringBuilder", name := "append", desc := "(Ljava/lang/String;)Ljava/lang/StringBuilder;" } : Jvm.MethodName) jdk_67_method_7_code (2 : Nat) (Option.some (Jvm.ClassFile.FieldType.object "java/lang/StringBuilder"))).before args0 about1 = true := code_word (m := ⟨14, 1⟩) (meth := k14m1) (c := k14c1) (by decide +kernel) rfl rfl rfl (by decide +kernel)
set_option maxRecDepth 65536 in
theorem w_c12 : (Jvm.Cond.code ({ cls := "java/lang/AbstractStringBuilder", name := "append", desc := "(Ljava/lang/String;)Ljava/lang/AbstractStringBuilder;" } : Jvm.MethodName) jdk_68_method_22_code (3 : Nat) (Option.some (Jvm.ClassFile.FieldType.object "java/lang/AbstractStringBuilder"))).before args0 about1 = true := code_word (m := ⟨13, 5⟩) (meth := k13m5) (c := k13c5) (by decide +kernel) rfl rfl rfl (by decide +kernel)
set_option maxRecDepth 65536 in
theorem w_c13 : (Jvm.Cond.code ({ cls := "java/lang/String", name := "length", desc := "()I" } : Jvm.MethodName) jdk_42_method_54_code (1 : Nat) (Option.some Jvm.ClassFile.FieldType.int)).before args0 about1 = true := code_word (m := ⟨7, 3⟩) (meth := k7m3) (c := k7c3) (by decide +kernel) rfl rfl rfl (by decide +kernel)
set_option maxRecDepth 65536 in
theorem w_c14 : (Jvm.Cond.code ({ cls := "java/lang/String", name := "coder", desc := "()B" } : Jvm.MethodName) jdk_42_method_152_code (1 : Nat) (Option.some Jvm.ClassFile.FieldType.byte)).before args0 about1 = true := code_word (m := ⟨7, 8⟩) (meth := k7m8) (c := k7c8) (by decide +kernel) rfl rfl rfl (by decide +kernel)
set_option maxRecDepth 65536 in
theorem w_c15 : (Jvm.Cond.code ({ cls := "java/lang/AbstractStringBuilder", name := "ensureCapacityInternal", desc := "(I)V" } : Jvm.MethodName) jdk_68_method_9_code (3 : Nat) (Option.none : Option Jvm.ClassFile.FieldType)).before args0 about1 = true := code_word (m := ⟨13, 3⟩) (meth := k13m3) (c := k13c3) (by decide +kernel) rfl rfl rfl (by decide +kernel)
set_option maxRecDepth 65536 in
theorem w_c16 : (Jvm.Cond.code ({ cls := "java/lang/AbstractStringBuilder", name := "newCapacity", desc := "(I)I" } : Jvm.MethodName) jdk_68_method_10_code (6 : Nat) (Option.some Jvm.ClassFile.FieldType.int)).before args0 about1 = true := code_word (m := ⟨13, 4⟩) (meth := k13m4) (c := k13c4) (by decide +kernel) rfl rfl rfl (by decide +kernel)
set_option maxRecDepth 65536 in
theorem w_c17 : (Jvm.Cond.code ({ cls := "jdk/internal/util/ArraysSupport", name := "newLength", desc := "(III)I" } : Jvm.MethodName) jdk_48_method_27_code (4 : Nat) (Option.some Jvm.ClassFile.FieldType.int)).before args0 about1 = true := code_word (m := ⟨15, 1⟩) (meth := k15m1) (c := k15c1) (by decide +kernel) rfl rfl rfl (by decide +kernel)
set_option maxRecDepth 65536 in
theorem w_c18 : (Jvm.Cond.code ({ cls := "java/lang/Math", name := "max", desc := "(II)I" } : Jvm.MethodName) jdk_29_method_65_code (2 : Nat) (Option.some Jvm.ClassFile.FieldType.int)).before args0 about1 = true := code_word (m := ⟨16, 1⟩) (meth := k16m1) (c := k16c1) (by decide +kernel) rfl rfl rfl (by decide +kernel)
set_option maxRecDepth 65536 in
theorem w_c19 : (Jvm.Cond.code ({ cls := "java/util/Arrays", name := "copyOf", desc := "([BI)[B" } : Jvm.MethodName) jdk_65_method_121_code (3 : Nat) (Option.some (Jvm.ClassFile.FieldType.array Jvm.ClassFile.FieldType.byte))).before args0 about1 = true := code_word (m := ⟨17, 1⟩) (meth := k17m1) (c := k17c1) (by decide +kernel) rfl rfl rfl (by decide +kernel)
set_option maxRecDepth 65536 in
theorem w_c20 : (Jvm.Cond.code ({ cls := "java/lang/Math", name := "min", desc := "(II)I" } : Jvm.MethodName) jdk_29_method_69_code (2 : Nat) (Option.some Jvm.ClassFile.FieldType.int)).before args0 about1 = true := code_word (m := ⟨16, 2⟩) (meth := k16m2) (c := k16c2) (by decide +kernel) rfl rfl rfl (by decide +kernel)
set_option maxRecDepth 65536 in
theorem w_c21 : (Jvm.Cond.code ({ cls := "java/lang/AbstractStringBuilder", name := "putStringAt", desc := "(ILjava/lang/String;)V" } : Jvm.MethodName) jdk_68_method_73_code (3 : Nat) (Option.none : Option Jvm.ClassFile.FieldType)).before args0 about1 = true := code_word (m := ⟨13, 9⟩) (meth := k13m9) (c := k13c9) (by decide +kernel) rfl rfl rfl (by decide +kernel)
set_option maxRecDepth 65536 in
theorem w_c22 : (Jvm.Cond.code ({ cls := "java/lang/AbstractStringBuilder", name := "inflateIfNeededFor", desc := "(Ljava/lang/String;)V" } : Jvm.MethodName) jdk_68_method_71_code (2 : Nat) (Option.none : Option Jvm.ClassFile.FieldType)).before args0 about1 = true := code_word (m := ⟨13, 8⟩) (meth := k13m8) (c := k13c8) (by decide +kernel) rfl rfl rfl (by decide +kernel)
set_option maxRecDepth 65536 in
theorem w_c23 : (Jvm.Cond.code ({ cls := "java/lang/String", name := "getBytes", desc := "([BIB)V" } : Jvm.MethodName) jdk_42_method_147_code (4 : Nat) (Option.none : Option Jvm.ClassFile.FieldType)).before args0 about1 = true := code_word (m := ⟨7, 5⟩) (meth := k7m5) (c := k7c5) (by decide +kernel) rfl rfl rfl (by decide +kernel)
set_option maxRecDepth 65536 in
theorem w_c24 : (Jvm.Cond.code ({ cls := "java/lang/StringBuilder", name := "toString", desc := "()Ljava/lang/String;" } : Jvm.MethodName) jdk_67_method_42_code (1 : Nat) (Option.some (Jvm.ClassFile.FieldType.object "java/lang/String"))).before args0 about1 = true := code_word (m := ⟨14, 2⟩) (meth := k14m2) (c := k14c2) (by decide +kernel) rfl rfl rfl (by decide +kernel)
set_option maxRecDepth 65536 in
theorem w_c25 : (Jvm.Cond.code ({ cls := "java/lang/String", name := "<init>", desc := "(Ljava/lang/StringBuilder;)V" } : Jvm.MethodName) jdk_42_method_53_code (2 : Nat) (Option.none : Option Jvm.ClassFile.FieldType)).before args0 about1 = true := code_word (m := ⟨7, 2⟩) (meth := k7m2) (c := k7c2) (by decide +kernel) rfl rfl rfl (by decide +kernel)
set_option maxRecDepth 65536 in
theorem w_c26 : (Jvm.Cond.code ({ cls := "java/lang/String", name := "<init>", desc := "(Ljava/lang/AbstractStringBuilder;Ljava/lang/Void;)V" } : Jvm.MethodName) jdk_42_method_150_code (5 : Nat) (Option.none : Option Jvm.ClassFile.FieldType)).before args0 about1 = true := code_word (m := ⟨7, 7⟩) (meth := k7m7) (c := k7c7) (by decide +kernel) rfl rfl rfl (by decide +kernel)
set_option maxRecDepth 65536 in
theorem w_c27 : (Jvm.Cond.code ({ cls := "java/lang/AbstractStringBuilder", name := "getValue", desc := "()[B" } : Jvm.MethodName) jdk_68_method_64_code (1 : Nat) (Option.some (Jvm.ClassFile.FieldType.array Jvm.ClassFile.FieldType.byte))).before args0 about1 = true := code_word (m := ⟨13, 6⟩) (meth := k13m6) (c := k13c6) (by decide +kernel) rfl rfl rfl (by decide +kernel)
set_option maxRecDepth 65536 in
theorem w_c28 : (Jvm.Cond.code ({ cls := "java/lang/StringBuilder", name := "length", desc := "()I" } : Jvm.MethodName) jdk_67_method_93_code (1 : Nat) (Option.some Jvm.ClassFile.FieldType.int)).before args0 about1 = true := code_word (m := ⟨14, 3⟩) (meth := k14m3) (c := k14c3) (by decide +kernel) rfl rfl rfl (by decide +kernel)
set_option maxRecDepth 65536 in
theorem w_c29 : (Jvm.Cond.code ({ cls := "java/lang/AbstractStringBuilder", name := "length", desc := "()I" } : Jvm.MethodName) jdk_68_method_6_code (1 : Nat) (Option.some Jvm.ClassFile.FieldType.int)).before args0 about1 = true := code_word (m := ⟨13, 2⟩) (meth := k13m2) (c := k13c2) (by decide +kernel) rfl rfl rfl (by decide +kernel)
set_option maxRecDepth 65536 in
theorem w_c30 : (Jvm.Cond.code ({ cls := "java/lang/AbstractStringBuilder", name := "isLatin1", desc := "()Z" } : Jvm.MethodName) jdk_68_method_68_code (1 : Nat) (Option.some Jvm.ClassFile.FieldType.boolean)).before args0 about1 = true := code_word (m := ⟨13, 7⟩) (meth := k13m7) (c := k13c7) (by decide +kernel) rfl rfl rfl (by decide +kernel)
set_option maxRecDepth 65536 in
theorem w_c31 : (Jvm.Cond.code ({ cls := "java/util/Arrays", name := "copyOfRange", desc := "([BII)[B" } : Jvm.MethodName) jdk_65_method_132_code (3 : Nat) (Option.some (Jvm.ClassFile.FieldType.array Jvm.ClassFile.FieldType.byte))).before args0 about1 = true := code_word (m := ⟨17, 3⟩) (meth := k17m3) (c := k17c3) (by decide +kernel) rfl rfl rfl (by decide +kernel)
set_option maxRecDepth 65536 in
theorem w_c32 : (Jvm.Cond.code ({ cls := "java/util/Arrays", name := "copyOfRangeByte", desc := "([BII)[B" } : Jvm.MethodName) jdk_65_method_133_code (5 : Nat) (Option.some (Jvm.ClassFile.FieldType.array Jvm.ClassFile.FieldType.byte))).before args0 about1 = true := code_word (m := ⟨17, 4⟩) (meth := k17m4) (c := k17c4) (by decide +kernel) rfl rfl rfl (by decide +kernel)
set_option maxRecDepth 65536 in
theorem w_c33 : (Jvm.Cond.code ({ cls := "java/util/Arrays", name := "checkLength", desc := "(II)V" } : Jvm.MethodName) jdk_65_method_131_code (2 : Nat) (Option.none : Option Jvm.ClassFile.FieldType)).before args0 about1 = true := code_word (m := ⟨17, 2⟩) (meth := k17m2) (c := k17c2) (by decide +kernel) rfl rfl rfl (by decide +kernel)
set_option maxRecDepth 65536 in
theorem w_c34 : (Jvm.Cond.code ({ cls := "com/example/slackline/slackline/UsageException", name := "<init>", desc := "(Ljava/lang/String;)V" } : Jvm.MethodName) prog_53_method_1_code (2 : Nat) (Option.none : Option Jvm.ClassFile.FieldType)).before args0 about1 = true := code_word (m := ⟨11, 0⟩) (meth := k11m0) (c := k11c0) (by decide +kernel) rfl rfl rfl (by decide +kernel)
set_option maxRecDepth 65536 in
theorem w_c35 : (Jvm.Cond.code ({ cls := "java/lang/Exception", name := "<init>", desc := "(Ljava/lang/String;)V" } : Jvm.MethodName) jdk_59_method_2_code (2 : Nat) (Option.none : Option Jvm.ClassFile.FieldType)).before args0 about1 = true := code_word (m := ⟨10, 1⟩) (meth := k10m1) (c := k10c1) (by decide +kernel) rfl rfl rfl (by decide +kernel)
set_option maxRecDepth 65536 in
theorem w_c36 : (Jvm.Cond.code ({ cls := "java/lang/Throwable", name := "<init>", desc := "(Ljava/lang/String;)V" } : Jvm.MethodName) jdk_78_method_2_code (2 : Nat) (Option.none : Option Jvm.ClassFile.FieldType)).before args0 about1 = true := code_word (m := ⟨9, 1⟩) (meth := k9m1) (c := k9c1) (by decide +kernel) rfl rfl rfl (by decide +kernel)
set_option maxRecDepth 65536 in
theorem w_c37 : (Jvm.Cond.code ({ cls := "java/lang/Throwable", name := "<init>", desc := "()V" } : Jvm.MethodName) jdk_78_method_1_code (1 : Nat) (Option.none : Option Jvm.ClassFile.FieldType)).before args0 about1 = true := code_word (m := ⟨9, 0⟩) (meth := k9m0) (c := k9c0) (by decide +kernel) rfl rfl rfl (by decide +kernel)
set_option maxRecDepth 65536 in
theorem w_c38 : (Jvm.Cond.code ({ cls := "java/lang/Throwable", name := "getMessage", desc := "()Ljava/lang/String;" } : Jvm.MethodName) jdk_78_method_6_code (1 : Nat) (Option.some (Jvm.ClassFile.FieldType.object "java/lang/String"))).before args0 about1 = true := code_word (m := ⟨9, 2⟩) (meth := k9m2) (c := k9c2) (by decide +kernel) rfl rfl rfl (by decide +kernel)
set_option maxRecDepth 65536 in
theorem w_c39 : (Jvm.Cond.code ({ cls := "com/example/slackline/slackline/UsageExceptionUnrecognizedOptionPinLaw", name := "expected", desc := "(CCCI)Ljava/lang/String;" } : Jvm.MethodName) method_4_code (4 : Nat) (Option.some (Jvm.ClassFile.FieldType.object "java/lang/String"))).before args0 about1 = true := code_word (m := ⟨1, 3⟩) (meth := k1m3) (c := k1c3) (by decide +kernel) rfl rfl rfl (by decide +kernel)
set_option maxRecDepth 65536 in
theorem w_c40 : (Jvm.Cond.code ({ cls := "java/lang/String", name := "equals", desc := "(Ljava/lang/Object;)Z" } : Jvm.MethodName) jdk_42_method_66_code (3 : Nat) (Option.some Jvm.ClassFile.FieldType.boolean)).before args0 about1 = true := code_word (m := ⟨7, 4⟩) (meth := k7m4) (c := k7c4) (by decide +kernel) rfl rfl rfl (by decide +kernel)
set_option maxRecDepth 65536 in
theorem w_c41 : (Jvm.Cond.code ({ cls := "java/lang/StringLatin1", name := "equals", desc := "([B[B)Z" } : Jvm.MethodName) jdk_43_method_13_code (3 : Nat) (Option.some Jvm.ClassFile.FieldType.boolean)).before args0 about1 = true := code_word (m := ⟨19, 1⟩) (meth := k19m1) (c := k19c1) (by decide +kernel) rfl rfl rfl (by decide +kernel)
def codes1 : List Jvm.Cond := [Jvm.Cond.code x code maxLocals ret, Jvm.Cond.code ({ cls := "com/example/slackline/slackline/UsageExceptionUnrecognizedOptionPinLaw", name := "opt", desc := "(CCCI)Ljava/lang/String;" } : Jvm.MethodName) method_3_code (4 : Nat) (Option.some (Jvm.ClassFile.FieldType.object "java/lang/String")), Jvm.Cond.code ({ cls := "java/lang/String", name := "<init>", desc := "([C)V" } : Jvm.MethodName) jdk_42_method_3_code (2 : Nat) (Option.none : Option Jvm.ClassFile.FieldType), Jvm.Cond.code ({ cls := "java/lang/String", name := "<init>", desc := "([CIILjava/lang/Void;)V" } : Jvm.MethodName) jdk_42_method_149_code (6 : Nat) (Option.none : Option Jvm.ClassFile.FieldType), Jvm.Cond.code ({ cls := "java/lang/Object", name := "<init>", desc := "()V" } : Jvm.MethodName) object_method_1_code (1 : Nat) (Option.none : Option Jvm.ClassFile.FieldType), Jvm.Cond.code ({ cls := "java/lang/StringUTF16", name := "compress", desc := "([CII)[B" } : Jvm.MethodName) jdk_52_method_16_code (6 : Nat) (Option.some (Jvm.ClassFile.FieldType.array Jvm.ClassFile.FieldType.byte)), Jvm.Cond.code ({ cls := "java/lang/StringUTF16", name := "compress", desc := "([CI[BII)I" } : Jvm.MethodName) jdk_52_method_21_code (7 : Nat) (Option.some Jvm.ClassFile.FieldType.int), Jvm.Cond.code ({ cls := "java/lang/StringUTF16", name := "coderFromArrayLen", desc := "([BI)B" } : Jvm.MethodName) jdk_52_method_15_code (2 : Nat) (Option.some Jvm.ClassFile.FieldType.byte), Jvm.Cond.code ({ cls := "com/example/slackline/slackline/UsageException", name := "unrecognizedOption", desc := "(Ljava/lang/String;)Lcom/example/slackline/slackline/UsageException;" } : Jvm.MethodName) prog_53_method_2_code (1 : Nat) (Option.some (Jvm.ClassFile.FieldType.object "com/example/slackline/slackline/UsageException")), Jvm.Cond.code ({ cls := "java/lang/StringBuilder", name := "<init>", desc := "()V" } : Jvm.MethodName) jdk_67_method_1_code (1 : Nat) (Option.none : Option Jvm.ClassFile.FieldType), Jvm.Cond.code ({ cls := "java/lang/AbstractStringBuilder", name := "<init>", desc := "(I)V" } : Jvm.MethodName) jdk_68_method_2_code (2 : Nat) (Option.none : Option Jvm.ClassFile.FieldType), Jvm.Cond.code ({ cls := "java/lang/StringBuilder", name := "append", desc := "(Ljava/lang/String;)Ljava/lang/StringBuilder;" } : Jvm.MethodName) jdk_67_method_7_code (2 : Nat) (Option.some (Jvm.ClassFile.FieldType.object "java/lang/StringBuilder")), Jvm.Cond.code ({ cls := "java/lang/AbstractStringBuilder", name := "append", desc := "(Ljava/lang/String;)Ljava/lang/AbstractStringBuilder;" } : Jvm.MethodName) jdk_68_method_22_code (3 : Nat) (Option.some (Jvm.ClassFile.FieldType.object "java/lang/AbstractStringBuilder")), Jvm.Cond.code ({ cls := "java/lang/String", name := "length", desc := "()I" } : Jvm.MethodName) jdk_42_method_54_code (1 : Nat) (Option.some Jvm.ClassFile.FieldType.int), Jvm.Cond.code ({ cls := "java/lang/String", name := "coder", desc := "()B" } : Jvm.MethodName) jdk_42_method_152_code (1 : Nat) (Option.some Jvm.ClassFile.FieldType.byte), Jvm.Cond.code ({ cls := "java/lang/AbstractStringBuilder", name := "ensureCapacityInternal", desc := "(I)V" } : Jvm.MethodName) jdk_68_method_9_code (3 : Nat) (Option.none : Option Jvm.ClassFile.FieldType), Jvm.Cond.code ({ cls := "java/lang/AbstractStringBuilder", name := "newCapacity", desc := "(I)I" } : Jvm.MethodName) jdk_68_method_10_code (6 : Nat) (Option.some Jvm.ClassFile.FieldType.int), Jvm.Cond.code ({ cls := "jdk/internal/util/ArraysSupport", name := "newLength", desc := "(III)I" } : Jvm.MethodName) jdk_48_method_27_code (4 : Nat) (Option.some Jvm.ClassFile.FieldType.int), Jvm.Cond.code ({ cls := "java/lang/Math", name := "max", desc := "(II)I" } : Jvm.MethodName) jdk_29_method_65_code (2 : Nat) (Option.some Jvm.ClassFile.FieldType.int), Jvm.Cond.code ({ cls := "java/util/Arrays", name := "copyOf", desc := "([BI)[B" } : Jvm.MethodName) jdk_65_method_121_code (3 : Nat) (Option.some (Jvm.ClassFile.FieldType.array Jvm.ClassFile.FieldType.byte)), Jvm.Cond.code ({ cls := "java/lang/Math", name := "min", desc := "(II)I" } : Jvm.MethodName) jdk_29_method_69_code (2 : Nat) (Option.some Jvm.ClassFile.FieldType.int), Jvm.Cond.code ({ cls := "java/lang/AbstractStringBuilder", name := "putStringAt", desc := "(ILjava/lang/String;)V" } : Jvm.MethodName) jdk_68_method_73_code (3 : Nat) (Option.none : Option Jvm.ClassFile.FieldType), Jvm.Cond.code ({ cls := "java/lang/AbstractStringBuilder", name := "inflateIfNeededFor", desc := "(Ljava/lang/String;)V" } : Jvm.MethodName) jdk_68_method_71_code (2 : Nat) (Option.none : Option Jvm.ClassFile.FieldType), Jvm.Cond.code ({ cls := "java/lang/String", name := "getBytes", desc := "([BIB)V" } : Jvm.MethodName) jdk_42_method_147_code (4 : Nat) (Option.none : Option Jvm.ClassFile.FieldType), Jvm.Cond.code ({ cls := "java/lang/StringBuilder", name := "toString", desc := "()Ljava/lang/String;" } : Jvm.MethodName) jdk_67_method_42_code (1 : Nat) (Option.some (Jvm.ClassFile.FieldType.object "java/lang/String")), Jvm.Cond.code ({ cls := "java/lang/String", name := "<init>", desc := "(Ljava/lang/StringBuilder;)V" } : Jvm.MethodName) jdk_42_method_53_code (2 : Nat) (Option.none : Option Jvm.ClassFile.FieldType), Jvm.Cond.code ({ cls := "java/lang/String", name := "<init>", desc := "(Ljava/lang/AbstractStringBuilder;Ljava/lang/Void;)V" } : Jvm.MethodName) jdk_42_method_150_code (5 : Nat) (Option.none : Option Jvm.ClassFile.FieldType), Jvm.Cond.code ({ cls := "java/lang/AbstractStringBuilder", name := "getValue", desc := "()[B" } : Jvm.MethodName) jdk_68_method_64_code (1 : Nat) (Option.some (Jvm.ClassFile.FieldType.array Jvm.ClassFile.FieldType.byte)), Jvm.Cond.code ({ cls := "java/lang/StringBuilder", name := "length", desc := "()I" } : Jvm.MethodName) jdk_67_method_93_code (1 : Nat) (Option.some Jvm.ClassFile.FieldType.int), Jvm.Cond.code ({ cls := "java/lang/AbstractStringBuilder", name := "length", desc := "()I" } : Jvm.MethodName) jdk_68_method_6_code (1 : Nat) (Option.some Jvm.ClassFile.FieldType.int), Jvm.Cond.code ({ cls := "java/lang/AbstractStringBuilder", name := "isLatin1", desc := "()Z" } : Jvm.MethodName) jdk_68_method_68_code (1 : Nat) (Option.some Jvm.ClassFile.FieldType.boolean), Jvm.Cond.code ({ cls := "java/util/Arrays", name := "copyOfRange", desc := "([BII)[B" } : Jvm.MethodName) jdk_65_method_132_code (3 : Nat) (Option.some (Jvm.ClassFile.FieldType.array Jvm.ClassFile.FieldType.byte)), Jvm.Cond.code ({ cls := "java/util/Arrays", name := "copyOfRangeByte", desc := "([BII)[B" } : Jvm.MethodName) jdk_65_method_133_code (5 : Nat) (Option.some (Jvm.ClassFile.FieldType.array Jvm.ClassFile.FieldType.byte)), Jvm.Cond.code ({ cls := "java/util/Arrays", name := "checkLength", desc := "(II)V" } : Jvm.MethodName) jdk_65_method_131_code (2 : Nat) (Option.none : Option Jvm.ClassFile.FieldType), Jvm.Cond.code ({ cls := "com/example/slackline/slackline/UsageException", name := "<init>", desc := "(Ljava/lang/String;)V" } : Jvm.MethodName) prog_53_method_1_code (2 : Nat) (Option.none : Option Jvm.ClassFile.FieldType), Jvm.Cond.code ({ cls := "java/lang/Exception", name := "<init>", desc := "(Ljava/lang/String;)V" } : Jvm.MethodName) jdk_59_method_2_code (2 : Nat) (Option.none : Option Jvm.ClassFile.FieldType), Jvm.Cond.code ({ cls := "java/lang/Throwable", name := "<init>", desc := "(Ljava/lang/String;)V" } : Jvm.MethodName) jdk_78_method_2_code (2 : Nat) (Option.none : Option Jvm.ClassFile.FieldType), Jvm.Cond.code ({ cls := "java/lang/Throwable", name := "<init>", desc := "()V" } : Jvm.MethodName) jdk_78_method_1_code (1 : Nat) (Option.none : Option Jvm.ClassFile.FieldType), Jvm.Cond.code ({ cls := "java/lang/Throwable", name := "getMessage", desc := "()Ljava/lang/String;" } : Jvm.MethodName) jdk_78_method_6_code (1 : Nat) (Option.some (Jvm.ClassFile.FieldType.object "java/lang/String")), Jvm.Cond.code ({ cls := "com/example/slackline/slackline/UsageExceptionUnrecognizedOptionPinLaw", name := "expected", desc := "(CCCI)Ljava/lang/String;" } : Jvm.MethodName) method_4_code (4 : Nat) (Option.some (Jvm.ClassFile.FieldType.object "java/lang/String")), Jvm.Cond.code ({ cls := "java/lang/String", name := "equals", desc := "(Ljava/lang/Object;)Z" } : Jvm.MethodName) jdk_42_method_66_code (3 : Nat) (Option.some Jvm.ClassFile.FieldType.boolean), Jvm.Cond.code ({ cls := "java/lang/StringLatin1", name := "equals", desc := "([B[B)Z" } : Jvm.MethodName) jdk_43_method_13_code (3 : Nat) (Option.some Jvm.ClassFile.FieldType.boolean)]
set_option maxRecDepth 65536 in
theorem codes_eq : words1.filter isCode = codes1 := rfl
theorem w_codes : ∀ c ∈ words1.filter isCode, c.before args0 about1 = true := by
  rw [codes_eq]
  intro c hc
  simp only [codes1, List.mem_cons, List.not_mem_nil, or_false] at hc
  rcases hc with rfl | rfl | rfl | rfl | rfl | rfl | rfl | rfl | rfl | rfl | rfl | rfl | rfl | rfl | rfl | rfl | rfl | rfl | rfl | rfl | rfl | rfl | rfl | rfl | rfl | rfl | rfl | rfl | rfl | rfl | rfl | rfl | rfl | rfl | rfl | rfl | rfl | rfl | rfl | rfl | rfl | rfl
  · exact w_c0
  · exact w_c1
  · exact w_c2
  · exact w_c3
  · exact w_c4
  · exact w_c5
  · exact w_c6
  · exact w_c7
  · exact w_c8
  · exact w_c9
  · exact w_c10
  · exact w_c11
  · exact w_c12
  · exact w_c13
  · exact w_c14
  · exact w_c15
  · exact w_c16
  · exact w_c17
  · exact w_c18
  · exact w_c19
  · exact w_c20
  · exact w_c21
  · exact w_c22
  · exact w_c23
  · exact w_c24
  · exact w_c25
  · exact w_c26
  · exact w_c27
  · exact w_c28
  · exact w_c29
  · exact w_c30
  · exact w_c31
  · exact w_c32
  · exact w_c33
  · exact w_c34
  · exact w_c35
  · exact w_c36
  · exact w_c37
  · exact w_c38
  · exact w_c39
  · exact w_c40
  · exact w_c41
set_option maxRecDepth 65536 in
theorem w_t1 : (words1.take 24).all (fun c => isCode c || c.before args0 about1) = true := by decide +kernel
set_option maxRecDepth 65536 in
theorem w_t2 : ((words1.drop 24).take 24).all (fun c => isCode c || c.before args0 about1) = true := by decide +kernel
set_option maxRecDepth 65536 in
theorem w_t3 : (((words1.drop 24).drop 24).take 24).all (fun c => isCode c || c.before args0 about1) = true := by decide +kernel
set_option maxRecDepth 65536 in
theorem w_t4 : ((((words1.drop 24).drop 24).drop 24).take 24).all (fun c => isCode c || c.before args0 about1) = true := by decide +kernel
set_option maxRecDepth 65536 in
theorem w_t5 : (((((words1.drop 24).drop 24).drop 24).drop 24).take 24).all (fun c => isCode c || c.before args0 about1) = true := by decide +kernel
set_option maxRecDepth 65536 in
theorem w_t6 : ((((((words1.drop 24).drop 24).drop 24).drop 24).drop 24).take 24).all (fun c => isCode c || c.before args0 about1) = true := by decide +kernel
set_option maxRecDepth 65536 in
theorem w_t7 : (((((((words1.drop 24).drop 24).drop 24).drop 24).drop 24).drop 24).take 24).all (fun c => isCode c || c.before args0 about1) = true := by decide +kernel
set_option maxRecDepth 65536 in
theorem w_t8 : ((((((((words1.drop 24).drop 24).drop 24).drop 24).drop 24).drop 24).drop 24).take 24).all (fun c => isCode c || c.before args0 about1) = true := by decide +kernel
set_option maxRecDepth 65536 in
theorem w_t9 : (((((((((words1.drop 24).drop 24).drop 24).drop 24).drop 24).drop 24).drop 24).drop 24).take 24).all (fun c => isCode c || c.before args0 about1) = true := by decide +kernel
set_option maxRecDepth 65536 in
theorem w_t10 : ((((((((((words1.drop 24).drop 24).drop 24).drop 24).drop 24).drop 24).drop 24).drop 24).drop 24).take 24).all (fun c => isCode c || c.before args0 about1) = true := by decide +kernel
set_option maxRecDepth 65536 in
theorem w_t11 : ((((((((((words1.drop 24).drop 24).drop 24).drop 24).drop 24).drop 24).drop 24).drop 24).drop 24).drop 24).all (fun c => isCode c || c.before args0 about1) = true := by decide +kernel
theorem w_tables : (allAtoms (Jvm.Cond.code x code maxLocals ret :: tables_1)).before args0 about1 = true := by
  rw [allAtoms_all]
  show words1.all (fun c => c.before args0 about1) = true
  refine all_split ?_ w_codes
  rw [← List.take_append_drop 24 words1, List.all_append, w_t1, ← List.take_append_drop 24 (words1.drop 24), List.all_append, w_t2, ← List.take_append_drop 24 ((words1.drop 24).drop 24), List.all_append, w_t3, ← List.take_append_drop 24 (((words1.drop 24).drop 24).drop 24), List.all_append, w_t4, ← List.take_append_drop 24 ((((words1.drop 24).drop 24).drop 24).drop 24), List.all_append, w_t5, ← List.take_append_drop 24 (((((words1.drop 24).drop 24).drop 24).drop 24).drop 24), List.all_append, w_t6, ← List.take_append_drop 24 ((((((words1.drop 24).drop 24).drop 24).drop 24).drop 24).drop 24), List.all_append, w_t7, ← List.take_append_drop 24 (((((((words1.drop 24).drop 24).drop 24).drop 24).drop 24).drop 24).drop 24), List.all_append, w_t8, ← List.take_append_drop 24 ((((((((words1.drop 24).drop 24).drop 24).drop 24).drop 24).drop 24).drop 24).drop 24), List.all_append, w_t9, ← List.take_append_drop 24 (((((((((words1.drop 24).drop 24).drop 24).drop 24).drop 24).drop 24).drop 24).drop 24).drop 24), List.all_append, w_t10, w_t11]
  rfl
set_option maxRecDepth 65536 in
theorem w_rest : rest_1_c.before args0 about1 = true := by decide +kernel
set_option maxRecDepth 65536 in
theorem w_case : (Jvm.Cond.and given_1 narrow_1).before args0 about1 = true := by decide +kernel
set_option maxRecDepth 65536 in
theorem w_consts : constsHeld consts_1 about1 := Jvm.Lit.constsHeldB_iff.mp (by decide +kernel)
theorem w_applies : (headSpec (Jvm.Cond.code x code maxLocals ret :: tables_1) room_1).applies x e0.platform about1 = true :=
  (Spec.applies_iff w_frames).mpr ⟨w_running, w_runnable, w_alone, w_named, w_hears, w_ripe, w_room, w_tables⟩
theorem atStart : AtStart classFile x code maxLocals ret World_1 tables_1 room_1 Calls_1 rest_1 Pre_1 launch0 p0 e0 about1 theMethod args0 below0 :=
  ⟨lists_1, trivial, launch0.admits_env _ _ _, launch0.least_env, fairChoices_fair.cas, fairChoices_fair.clock, w_frames, w_args, w_heap, w_applies, ⟨(by decide +kernel : framesKnown about1 = true), ⟨(by decide +kernel : tablesKnown about1 = true), ⟨w_consts, trivial⟩⟩⟩, w_rest, w_case⟩
end start1
theorem witness_1 : WitnessClaimed_1 := ⟨start1.p0, start1.e0, start1.about1, start1.theMethod, start1.args0, start1.below0, start1.atStart⟩
end Jvm.Pilot.@@N@@
