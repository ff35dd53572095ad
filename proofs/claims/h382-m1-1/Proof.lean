import JvmDerived
import JvmDerived.Pilot.@@N@@Statement
import JvmDerived.Pilot.@@N@@Code
set_option linter.unusedVariables false
set_option linter.unusedSimpArgs false
namespace Jvm.OwnK
open Jvm Sem ClassFile Op Lib Jvm.Free Jvm.Stand Jvm.LawKit Jvm.RoadKit Bundle
/-! OwnK: a body's walk as a judgement. 'Go .. SF h k n pc Ls st': from the place pc, with the locals Ls and the operands st, over the heap h (SF: what this walk may write; k cells and n slots made so far), the body ends, and Q holds of what it returns and of the heap. One rule a step; a callee by 'Met'. -/
def Own (Z : State) (EL : List (String × Nat)) (n0 : Nat) (h0 : Heap) (WS : List Addr) (vm : Vm) (h : Heap) (SF : List Addr) : Prop := ∀ x ∈ SF, (n0 ≤ x ∧ x < h.size ∧ (x ∈ WS ∨ h0.size ≤ x)) ∧ Safe Z EL vm h x
def Cor (Z : State) (EL : List (String × Nat)) (n0 : Nat) (nr : Bool) (h0 : Heap) (WS SF : List Addr) (h : Heap) (s : State) (vm0 : Vm) (k0 : Nat) (locs : List Loc) : Prop :=
  Z.Warmed39 vm0 ∧ (s.Since vm0 k0 ∧ k0 ≤ h.size) ∧ Fr n0 locs ∧ CHr Z EL s.vm h0 vm0 h ∧ Own Z EL n0 h0 WS vm0 h SF ∧ (nr = true → s.WarmedH vm0) ∧ (Z.heap.size = n0 ∧ Ext Z.heap h) ∧ Keep h0 h WS ∧ s.heap = h0 ∧ ∃ a0, EW Z a0 EL
def Pst (Z : State) (EL : List (String × Nat)) (n0 : Nat) (nr : Bool) (R : Room) (h0 : Heap) (WS : List Addr) (Q : Option Value → Heap → List Addr → Prop) (s : State) (o : Outcome) (t : State) : Prop :=
  ∃ v L SN, o = .returned v ∧ Q v t.heap SN ∧ Fr n0 L ∧ Keep h0 t.heap WS ∧ (∀ x ∈ SN, (h0.size ≤ x ∧ x < t.heap.size) ∧ Safe Z EL t.vm t.heap x) ∧ CHr Z EL s.vm h0 t.vm t.heap ∧ (nr = true → s.WarmedH t.vm) ∧ ReturnedEndW s o t L R.cells R.slots
def Run (l : Launch) (Z : State) (EL : List (String × Nat)) (n0 : Nat) (nr kn : Bool) (y : MethodName) (bytes : ByteArray) (mL : Nat) (ret : Option FieldType) (R : Room) (h0 : Heap) (WS SF : List Addr) (h : Heap) (k n : Nat)
    (p : Program) (e : Env) (s : State) (m : MethodId) (args : Array Value) (below : List Frame) (meth : Method) (c : Code) (T : State) : Prop :=
  (p.tables.exec = Jvm.exec ∧ c.code = bytes ∧ c.maxLocals = mL ∧ s.vm.findClass y.cls = some m.cls ∧ meth.name = y.name ∧ meth.sig.returnType = ret ∧ meth.locks = false ∧ (kn = true → s.vm.MethodsKnown ∧ s.vm.FramesKnown below)) ∧
  ∃ vm0 k0 locs, Stand p l e R (s.setVm vm0) m args below meth c T locs k n ∧ T.heap = h ∧ Cor Z EL n0 nr h0 WS SF h s vm0 k0 locs
def Go (l : Launch) (Z : State) (EL : List (String × Nat)) (n0 : Nat) (nr kn : Bool) (y : MethodName) (bytes : ByteArray) (mL : Nat) (ret : Option FieldType) (R : Room) (h0 : Heap) (WS : List Addr) (Q : Option Value → Heap → List Addr → Prop)
    (SF : List Addr) (h : Heap) (k n : Nat) (pc : Nat) (Ls : Array Slot) (st : List Value) : Prop :=
  ∀ (p : Program) (e : Env) (s : State) (m : MethodId) (args : Array Value) (below : List Frame) (meth : Method) (c : Code) (T : State), Run l Z EL n0 nr kn y bytes mL ret R h0 WS SF h k n p e s m args below meth c T →
    ∃ t o, Steps p.tables e below (T.setTop (mkF m pc Ls st)) t ∧ t.status = .running ∧ Ended t below o ∧ Pst Z EL n0 nr R h0 WS Q s o t
def Met (l : Launch) (Z : State) (EL : List (String × Nat)) (n0 : Nat) (nr kn : Bool) (y : MethodName) (bytes : ByteArray) (mL : Nat) (ret : Option FieldType) (R : Room) (WS : List Addr) (as' : Array Value) (h : Heap) (Q : Option Value → Heap → List Addr → Prop) : Prop :=
  ∀ ws : List Jvm.Cond, MetFree l y (head1 (Jvm.Cond.code y bytes mL ret :: ws) R)
    (fun a U => a = as' ∧ Z.Warmed39 U.vm ∧ U.heap = h ∧ CHv Z EL U.vm h ∧ (∀ x ∈ WS, (n0 ≤ x ∧ x < h.size) ∧ Safe Z EL U.vm h x) ∧ (Z.heap.size = n0 ∧ Ext Z.heap h) ∧ ∃ a0, EW Z a0 EL)
    (fun _ _ bl s _ => kn = true → s.vm.MethodsKnown ∧ s.vm.FramesKnown bl) (fun _ U o U' => Pst Z EL n0 nr R h WS Q U o U')
def Pays (l : Launch) (Z : State) (EL : List (String × Nat)) (n0 : Nat) (nr kn : Bool) (R : Room) (len : Nat) (z : MethodName) (W ck cn : Nat) (ws : List Addr) (as' : Array Value) (h : Heap) (Q : Option Value → Heap → List Addr → Prop) : Prop :=
  ∀ (p : Program) (e : Env) (below : List Frame) (s : State) (args : Array Value) (vm0 : Vm), p.tables.exec = Jvm.exec → Z.Warmed39 vm0 → CHv Z EL vm0 h → (∀ x ∈ ws, (n0 ≤ x ∧ x < h.size) ∧ Safe Z EL vm0 h x) → (Z.heap.size = n0 ∧ Ext Z.heap h) → (∃ a0, EW Z a0 EL) →
    (kn = true → vm0.MethodsKnown ∧ vm0.FramesKnown below) →
    BackS l R p e below (s.setVm vm0) args z len W (fun A a => a = as' ∧ A.U.heap = h ∧ A.cells + ck ≤ R.cells ∧ A.slots + cn ≤ R.slots)
      (fun A _ v B => ∃ L SN, Q v B.U.heap SN ∧ Fr n0 L ∧ Keep h B.U.heap ws ∧ (∀ x ∈ SN, (h.size ≤ x ∧ x < B.U.heap.size) ∧ Safe Z EL B.U.vm B.U.heap x) ∧ CHr Z EL vm0 h B.U.vm B.U.heap ∧ (nr = true → (s.setVm vm0).WarmedH B.U.vm) ∧ B.locs = A.locs ++ L ∧ B.cells = A.cells + ck ∧ B.slots = A.slots + cn)
def Mr (Z : State) (CC : String) (m : Addr) : Prop := ∃ (c : ClassId) (k : Class), Z.vm.findClass CC = some c ∧ Z.vm.classes[c]? = some k ∧ k.mirror = some m
section Rules
variable {l : Launch} {Z : State} {EL : List (String × Nat)} {n0 : Nat} {nr kn : Bool} {y : MethodName} {bytes : ByteArray} {mL : Nat} {ret : Option FieldType} {R : Room} {h0 : Heap} {WS : List Addr} {Q : Option Value → Heap → List Addr → Prop} {SF : List Addr} {h h' : Heap} {k n : Nat} {pc pc' : Nat} {Ls Ls' : Array Slot} {st rest : List Value} {a0 : Array Value} {s : State} {vm0 vm1 : Vm} {k0 : Nat} {locs : List Loc}
theorem Cor.ext (C : Cor Z EL n0 nr h0 WS SF h s vm0 k0 locs) (E : Ext h h') : Cor Z EL n0 nr h0 WS SF h' s vm0 k0 locs := by
  obtain ⟨c1, ⟨c2, c2'⟩, c3, c4, c5, c6, ⟨c7, c7'⟩, c8, c9, c10⟩ := C
  exact ⟨c1, ⟨c2, Nat.le_trans c2' E.1⟩, c3, c4.trans (CHr.ext E c4.1), fun x hx => ⟨⟨(c5 x hx).1.1, Nat.lt_of_lt_of_le (c5 x hx).1.2.1 E.1, (c5 x hx).1.2.2⟩, Safe.ext E c4.1 (c5 x hx).2⟩, c6, ⟨c7, Nat.le_trans c7'.1 E.1, fun a c q => E.2 a c (c7'.2 a c q)⟩, c8.ext E, c9, c10⟩
theorem Cor.push (C : Cor Z EL n0 nr h0 WS SF h s vm0 k0 locs) (E : Ext h h') (hlt : h.size < h'.size) : Cor Z EL n0 nr h0 WS (h.size :: SF) h' s vm0 k0 locs := by
  have D := C.ext E
  obtain ⟨c1, c2, c3, c4, c5, c6, ⟨c7, c7'⟩, c8, c9, c10⟩ := C
  obtain ⟨d1, d2, d3, d4, d5, d6, d7, d8, d9, d10⟩ := D
  refine ⟨d1, d2, d3, d4, fun x hx => ?_, d6, d7, d8, d9, d10⟩
  rcases List.mem_cons.mp hx with rfl | hx
  · exact ⟨⟨c7 ▸ c7'.1, hlt, Or.inr c8.1⟩, Safe.ext E c4.1 (Safe.new (Nat.le_refl _))⟩
  · exact d5 x hx
theorem Cor.wr {a : Addr} {sl : Nat} {v : Value} (C : Cor Z EL n0 nr h0 WS SF h s vm0 k0 locs) (W : Wr h h' a sl v) (ha : a ∈ SF) : Cor Z EL n0 nr h0 WS SF h' s vm0 k0 (locs ++ [⟨a, sl⟩]) := by
  obtain ⟨c1, ⟨c2, c2'⟩, c3, c4, c5, c6, ⟨c7, c7'⟩, c8, c9, c10⟩ := C
  have S := (c5 a ha).2
  have O : Old Z n0 h := ⟨c7, c7'⟩
  refine ⟨c1, ⟨c2, by rw [W.size]; exact c2'⟩, c3.app fun z hz => by cases List.mem_singleton.mp hz; exact (c5 a ha).1.1, c4.trans (CHr.wr W S c4.1), fun x hx => ⟨⟨(c5 x hx).1.1, by rw [W.size]; exact (c5 x hx).1.2.1, (c5 x hx).1.2.2⟩, Safe.wr W S c4.1 (c5 x hx).2⟩, c6, O.wr W (c5 a ha).1.1, c8.wr W (c5 a ha).1.2.2, c9, c10⟩
theorem Cor.keep {ws SN : List Addr} {L : List Loc} {k1 : Nat} (C : Cor Z EL n0 nr h0 WS SF h s vm0 k0 locs) (K : Keep h h' ws) (hws : ∀ x ∈ ws, x ∈ SF) (hL : Fr n0 L) (hC : CHr Z EL vm0 h vm1 h') (hZ : Z.Warmed39 vm1) (hS : s.Since vm1 k1) (hk : k1 ≤ h'.size) (hN : nr = true → s.WarmedH vm1)
    (hSN : ∀ x ∈ SN, (h.size ≤ x ∧ x < h'.size) ∧ Safe Z EL vm1 h' x) : Cor Z EL n0 nr h0 WS (SN ++ SF) h' s vm1 k1 (locs ++ L) := by
  obtain ⟨c1, ⟨c2, c2'⟩, c3, c4, c5, c6, ⟨c7, c7'⟩, c8, c9, c10⟩ := C
  have O : Old Z n0 h := ⟨c7, c7'⟩
  refine ⟨hZ, ⟨hS, hk⟩, c3.app hL, c4.trans hC, fun x hx => ?_, hN, O.keep K fun x hx => (c5 x (hws x hx)).1.1, c8.trans K fun x hx => (c5 x (hws x hx)).1.2.2, c9, c10⟩
  rcases List.mem_append.mp hx with hx | hx
  · obtain ⟨⟨q1, q2⟩, q3⟩ := hSN x hx
    exact ⟨⟨Nat.le_trans (c7 ▸ c7'.1) q1, q2, Or.inr (Nat.le_trans c8.1 q1)⟩, q3⟩
  · exact ⟨⟨(c5 x hx).1.1, Nat.lt_of_lt_of_le (c5 x hx).1.2.1 K.1, (c5 x hx).1.2.2⟩, hC.safe (c5 x hx).1.2.1 (c5 x hx).2⟩
theorem Go.inv (K : (Z.heap.size = n0 ∧ Ext Z.heap h) → Keep h0 h WS → (∀ x ∈ SF, n0 ≤ x ∧ x < h.size ∧ (x ∈ WS ∨ h0.size ≤ x)) → Go l Z EL n0 nr kn y bytes mL ret R h0 WS Q SF h k n pc Ls st) : Go l Z EL n0 nr kn y bytes mL ret R h0 WS Q SF h k n pc Ls st := by
  intro p e s m args below meth c T hR
  obtain ⟨hA, vm0, k0, locs, X, e0, C⟩ := hR
  exact K C.2.2.2.2.2.2.1 C.2.2.2.2.2.2.2.1 (fun x hx => (C.2.2.2.2.1 x hx).1) p e s m args below meth c T ⟨hA, vm0, k0, locs, X, e0, C⟩
theorem Go.more {k' n' : Nat} (hk : k ≤ k') (hn : n ≤ n') (K : Go l Z EL n0 nr kn y bytes mL ret R h0 WS Q SF h k' n' pc Ls st) : Go l Z EL n0 nr kn y bytes mL ret R h0 WS Q SF h k n pc Ls st := by
  intro p e s m args below meth c T hR
  obtain ⟨hA, vm0, k0, locs, X, e0, C⟩ := hR
  exact K p e s m args below meth c T ⟨hA, vm0, k0, locs, X.more hk hn, e0, C⟩
theorem Go.fewer {SF' : List Addr} (hs : ∀ x ∈ SF', x ∈ SF) (K : Go l Z EL n0 nr kn y bytes mL ret R h0 WS Q SF' h k n pc Ls st) : Go l Z EL n0 nr kn y bytes mL ret R h0 WS Q SF h k n pc Ls st := by
  intro p e s m args below meth c T hR
  obtain ⟨hA, vm0, k0, locs, X, e0, c1, c2, c3, c4, c5, r⟩ := hR
  exact K p e s m args below meth c T ⟨hA, vm0, k0, locs, X, e0, c1, c2, c3, c4, fun x hx => c5 x (hs x hx), r⟩
theorem Go.plain {st' : List Value} (H : ∀ (p : Program) (e : Env) (below : List Frame) (T : State) (m : MethodId) (c : Code) (target : State), At T m c below → p.tables.exec = Jvm.exec → c.code = bytes → Steps p.tables e below (T.setTop (mkF m pc' Ls' st')) target → Steps p.tables e below (T.setTop (mkF m pc Ls st)) target)
    (K : Go l Z EL n0 nr kn y bytes mL ret R h0 WS Q SF h k n pc' Ls' st') : Go l Z EL n0 nr kn y bytes mL ret R h0 WS Q SF h k n pc Ls st := by
  intro p e s m args below meth c T hR
  obtain ⟨t, o, hs, r⟩ := K p e s m args below meth c T hR
  obtain ⟨⟨hx, hb, -⟩, vm0, k0, locs, X, -⟩ := hR
  exact ⟨t, o, H p e below T m c t X.here hx hb hs, r⟩

theorem Go.aload_n {i : Fin 4} {v : Value} (hd : decode bytes pc = .ok (.aload_n i, 1)) (hq : pc + 1 = pc') (hl : Ls[i.val]? = some (.val v)) (hv : v.isRef = true) (K : Go l Z EL n0 nr kn y bytes mL ret R h0 WS Q SF h k n pc' Ls (v :: st)) : Go l Z EL n0 nr kn y bytes mL ret R h0 WS Q SF h k n pc Ls st :=
  Go.plain (fun p e below T m c target hA hx hb hk => XS.aloadN hA hx rfl (hb ▸ hd) hl hv (by subst hq; exact hk)) K
theorem Go.aload {i : Nat} {v : Value} (hd : decode bytes pc = .ok (.aload i, 2)) (hq : pc + 2 = pc') (hl : Ls[i]? = some (.val v)) (hv : v.isRef = true) (K : Go l Z EL n0 nr kn y bytes mL ret R h0 WS Q SF h k n pc' Ls (v :: st)) : Go l Z EL n0 nr kn y bytes mL ret R h0 WS Q SF h k n pc Ls st :=
  Go.plain (fun p e below T m c target hA hx hb hk => XS.aload hA hx rfl (hb ▸ hd) hl hv (by subst hq; exact hk)) K
theorem Go.iload_n {i : Fin 4} {v : Int32} (hd : decode bytes pc = .ok (.iload_n i, 1)) (hq : pc + 1 = pc') (hl : Ls[i.val]? = some (.val (.int v))) (K : Go l Z EL n0 nr kn y bytes mL ret R h0 WS Q SF h k n pc' Ls (.int v :: st)) : Go l Z EL n0 nr kn y bytes mL ret R h0 WS Q SF h k n pc Ls st :=
  Go.plain (fun p e below T m c target hA hx hb hk => XS.iloadN hA hx rfl (hb ▸ hd) hl (by subst hq; exact hk)) K
theorem Go.iload {i : Nat} {v : Int32} (hd : decode bytes pc = .ok (.iload i, 2)) (hq : pc + 2 = pc') (hl : Ls[i]? = some (.val (.int v))) (K : Go l Z EL n0 nr kn y bytes mL ret R h0 WS Q SF h k n pc' Ls (.int v :: st)) : Go l Z EL n0 nr kn y bytes mL ret R h0 WS Q SF h k n pc Ls st :=
  Go.plain (fun p e below T m c target hA hx hb hk => XS.iload hA hx rfl (hb ▸ hd) hl (by subst hq; exact hk)) K
theorem Go.lload_n {i : Fin 4} {v : Int64} (hd : decode bytes pc = .ok (.lload_n i, 1)) (hq : pc + 1 = pc') (hl : Ls[i.val]? = some (.val (.long v))) (K : Go l Z EL n0 nr kn y bytes mL ret R h0 WS Q SF h k n pc' Ls (.long v :: st)) : Go l Z EL n0 nr kn y bytes mL ret R h0 WS Q SF h k n pc Ls st :=
  Go.plain (fun p e below T m c target hA hx hb hk => XS.lloadN hA hx rfl (hb ▸ hd) hl (by subst hq; exact hk)) K
theorem Go.iconst {i : Int} {v : Int32} (hd : decode bytes pc = .ok (.iconst i, 1)) (hq : pc + 1 = pc') (hv : Int32.ofInt i = v) (K : Go l Z EL n0 nr kn y bytes mL ret R h0 WS Q SF h k n pc' Ls (.int v :: st)) : Go l Z EL n0 nr kn y bytes mL ret R h0 WS Q SF h k n pc Ls st :=
  Go.plain (fun p e below T m c target hA hx hb hk => XS.iconst hA hx rfl (hb ▸ hd) (by subst hq; subst hv; exact hk)) K
theorem Go.bipush {i : Int} {v : Int32} (hd : decode bytes pc = .ok (.bipush i, 2)) (hq : pc + 2 = pc') (hv : (Int8.ofInt i).toInt32 = v) (K : Go l Z EL n0 nr kn y bytes mL ret R h0 WS Q SF h k n pc' Ls (.int v :: st)) : Go l Z EL n0 nr kn y bytes mL ret R h0 WS Q SF h k n pc Ls st :=
  Go.plain (fun p e below T m c target hA hx hb hk => XS.bipush hA hx rfl (hb ▸ hd) (by subst hq; subst hv; exact hk)) K
theorem Go.sipush {i : Int} {v : Int32} (hd : decode bytes pc = .ok (.sipush i, 3)) (hq : pc + 3 = pc') (hv : (Int16.ofInt i).toInt32 = v) (K : Go l Z EL n0 nr kn y bytes mL ret R h0 WS Q SF h k n pc' Ls (.int v :: st)) : Go l Z EL n0 nr kn y bytes mL ret R h0 WS Q SF h k n pc Ls st :=
  Go.plain (fun p e below T m c target hA hx hb hk => XS.sipush hA hx rfl (hb ▸ hd) (by subst hq; subst hv; exact hk)) K
theorem Go.aconst_null (hd : decode bytes pc = .ok (.aconst_null, 1)) (hq : pc + 1 = pc') (K : Go l Z EL n0 nr kn y bytes mL ret R h0 WS Q SF h k n pc' Ls (.null :: st)) : Go l Z EL n0 nr kn y bytes mL ret R h0 WS Q SF h k n pc Ls st :=
  Go.plain (fun p e below T m c target hA hx hb hk => XS.aconstNull hA hx rfl (hb ▸ hd) (by subst hq; exact hk)) K
theorem Go.iadd {x z : Int32} (hd : decode bytes pc = .ok (.iadd, 1)) (hq : pc + 1 = pc') (K : Go l Z EL n0 nr kn y bytes mL ret R h0 WS Q SF h k n pc' Ls (.int (x + z) :: st)) : Go l Z EL n0 nr kn y bytes mL ret R h0 WS Q SF h k n pc Ls (.int z :: .int x :: st) :=
  Go.plain (fun p e below T m c target hA hx hb hk => XS.iadd hA hx rfl (hb ▸ hd) rfl (by subst hq; exact hk)) K
theorem Go.isub {x z : Int32} (hd : decode bytes pc = .ok (.isub, 1)) (hq : pc + 1 = pc') (K : Go l Z EL n0 nr kn y bytes mL ret R h0 WS Q SF h k n pc' Ls (.int (x - z) :: st)) : Go l Z EL n0 nr kn y bytes mL ret R h0 WS Q SF h k n pc Ls (.int z :: .int x :: st) :=
  Go.plain (fun p e below T m c target hA hx hb hk => XS.isub hA hx rfl (hb ▸ hd) rfl (by subst hq; exact hk)) K
theorem Go.iand {x z : Int32} (hd : decode bytes pc = .ok (.iand, 1)) (hq : pc + 1 = pc') (K : Go l Z EL n0 nr kn y bytes mL ret R h0 WS Q SF h k n pc' Ls (.int (x &&& z) :: st)) : Go l Z EL n0 nr kn y bytes mL ret R h0 WS Q SF h k n pc Ls (.int z :: .int x :: st) :=
  Go.plain (fun p e below T m c target hA hx hb hk => XS.iand hA hx rfl (hb ▸ hd) rfl (by subst hq; exact hk)) K
theorem Go.imul {x z : Int32} (hd : decode bytes pc = .ok (.imul, 1)) (hq : pc + 1 = pc') (K : Go l Z EL n0 nr kn y bytes mL ret R h0 WS Q SF h k n pc' Ls (.int (x * z) :: st)) : Go l Z EL n0 nr kn y bytes mL ret R h0 WS Q SF h k n pc Ls (.int z :: .int x :: st) :=
  Go.plain (fun p e below T m c target hA hx hb hk => XS.imul hA hx rfl (hb ▸ hd) rfl (by subst hq; exact hk)) K
theorem Go.ior {x z : Int32} (hd : decode bytes pc = .ok (.ior, 1)) (hq : pc + 1 = pc') (K : Go l Z EL n0 nr kn y bytes mL ret R h0 WS Q SF h k n pc' Ls (.int (x ||| z) :: st)) : Go l Z EL n0 nr kn y bytes mL ret R h0 WS Q SF h k n pc Ls (.int z :: .int x :: st) :=
  Go.plain (fun p e below T m c target hA hx hb hk => XS.ior hA hx rfl (hb ▸ hd) rfl (by subst hq; exact hk)) K
theorem Go.ixor {x z : Int32} (hd : decode bytes pc = .ok (.ixor, 1)) (hq : pc + 1 = pc') (K : Go l Z EL n0 nr kn y bytes mL ret R h0 WS Q SF h k n pc' Ls (.int (x ^^^ z) :: st)) : Go l Z EL n0 nr kn y bytes mL ret R h0 WS Q SF h k n pc Ls (.int z :: .int x :: st) :=
  Go.plain (fun p e below T m c target hA hx hb hk => XS.ixor hA hx rfl (hb ▸ hd) rfl (by subst hq; exact hk)) K
theorem Go.ishl {x z : Int32} (hd : decode bytes pc = .ok (.ishl, 1)) (hq : pc + 1 = pc') (K : Go l Z EL n0 nr kn y bytes mL ret R h0 WS Q SF h k n pc' Ls (.int (x <<< (z &&& 31)) :: st)) : Go l Z EL n0 nr kn y bytes mL ret R h0 WS Q SF h k n pc Ls (.int z :: .int x :: st) :=
  Go.plain (fun p e below T m c target hA hx hb hk => XS.ishl hA hx rfl (hb ▸ hd) rfl (by subst hq; exact hk)) K
theorem Go.ishr {x z : Int32} (hd : decode bytes pc = .ok (.ishr, 1)) (hq : pc + 1 = pc') (K : Go l Z EL n0 nr kn y bytes mL ret R h0 WS Q SF h k n pc' Ls (.int (x >>> (z &&& 31)) :: st)) : Go l Z EL n0 nr kn y bytes mL ret R h0 WS Q SF h k n pc Ls (.int z :: .int x :: st) :=
  Go.plain (fun p e below T m c target hA hx hb hk => XS.ishr hA hx rfl (hb ▸ hd) rfl (by subst hq; exact hk)) K
theorem Go.iushr {x z : Int32} (hd : decode bytes pc = .ok (.iushr, 1)) (hq : pc + 1 = pc') (K : Go l Z EL n0 nr kn y bytes mL ret R h0 WS Q SF h k n pc' Ls (.int ((x.toUInt32 >>> (z &&& 31).toUInt32).toInt32) :: st)) : Go l Z EL n0 nr kn y bytes mL ret R h0 WS Q SF h k n pc Ls (.int z :: .int x :: st) :=
  Go.plain (fun p e below T m c target hA hx hb hk => XS.iushr hA hx rfl (hb ▸ hd) rfl (by subst hq; exact hk)) K
theorem Go.ineg {x : Int32} (hd : decode bytes pc = .ok (.ineg, 1)) (hq : pc + 1 = pc') (K : Go l Z EL n0 nr kn y bytes mL ret R h0 WS Q SF h k n pc' Ls (.int (-x) :: st)) : Go l Z EL n0 nr kn y bytes mL ret R h0 WS Q SF h k n pc Ls (.int x :: st) :=
  Go.plain (fun p e below T m c target hA hx hb hk => XS.ineg hA hx rfl (hb ▸ hd) rfl (by subst hq; exact hk)) K
theorem Go.i2b {x : Int32} (hd : decode bytes pc = .ok (.i2b, 1)) (hq : pc + 1 = pc') (K : Go l Z EL n0 nr kn y bytes mL ret R h0 WS Q SF h k n pc' Ls (.int x.toInt8.toInt32 :: st)) : Go l Z EL n0 nr kn y bytes mL ret R h0 WS Q SF h k n pc Ls (.int x :: st) :=
  Go.plain (fun p e below T m c target hA hx hb hk => XS.i2b hA hx rfl (hb ▸ hd) rfl (by subst hq; exact hk)) K
theorem Go.i2c {x : Int32} (hd : decode bytes pc = .ok (.i2c, 1)) (hq : pc + 1 = pc') (K : Go l Z EL n0 nr kn y bytes mL ret R h0 WS Q SF h k n pc' Ls (.int x.toUInt32.toUInt16.toUInt32.toInt32 :: st)) : Go l Z EL n0 nr kn y bytes mL ret R h0 WS Q SF h k n pc Ls (.int x :: st) :=
  Go.plain (fun p e below T m c target hA hx hb hk => XS.i2c hA hx rfl (hb ▸ hd) rfl (by subst hq; exact hk)) K
theorem Go.i2l {x : Int32} (hd : decode bytes pc = .ok (.i2l, 1)) (hq : pc + 1 = pc') (K : Go l Z EL n0 nr kn y bytes mL ret R h0 WS Q SF h k n pc' Ls (.long x.toInt64 :: st)) : Go l Z EL n0 nr kn y bytes mL ret R h0 WS Q SF h k n pc Ls (.int x :: st) :=
  Go.plain (fun p e below T m c target hA hx hb hk => XS.i2l hA hx rfl (hb ▸ hd) rfl (by subst hq; exact hk)) K
theorem Go.l2i {x : Int64} (hd : decode bytes pc = .ok (.l2i, 1)) (hq : pc + 1 = pc') (K : Go l Z EL n0 nr kn y bytes mL ret R h0 WS Q SF h k n pc' Ls (.int x.toInt32 :: st)) : Go l Z EL n0 nr kn y bytes mL ret R h0 WS Q SF h k n pc Ls (.long x :: st) :=
  Go.plain (fun p e below T m c target hA hx hb hk => XS.l2i hA hx rfl (hb ▸ hd) rfl (by subst hq; exact hk)) K
theorem Go.ladd {x z : Int64} (hd : decode bytes pc = .ok (.ladd, 1)) (hq : pc + 1 = pc') (K : Go l Z EL n0 nr kn y bytes mL ret R h0 WS Q SF h k n pc' Ls (.long (x + z) :: st)) : Go l Z EL n0 nr kn y bytes mL ret R h0 WS Q SF h k n pc Ls (.long z :: .long x :: st) :=
  Go.plain (fun p e below T m c target hA hx hb hk => XS.ladd hA hx rfl (hb ▸ hd) rfl (by subst hq; exact hk)) K
theorem Go.lsub {x z : Int64} (hd : decode bytes pc = .ok (.lsub, 1)) (hq : pc + 1 = pc') (K : Go l Z EL n0 nr kn y bytes mL ret R h0 WS Q SF h k n pc' Ls (.long (x - z) :: st)) : Go l Z EL n0 nr kn y bytes mL ret R h0 WS Q SF h k n pc Ls (.long z :: .long x :: st) :=
  Go.plain (fun p e below T m c target hA hx hb hk => XS.lsub hA hx rfl (hb ▸ hd) rfl (by subst hq; exact hk)) K
theorem Go.lmul {x z : Int64} (hd : decode bytes pc = .ok (.lmul, 1)) (hq : pc + 1 = pc') (K : Go l Z EL n0 nr kn y bytes mL ret R h0 WS Q SF h k n pc' Ls (.long (x * z) :: st)) : Go l Z EL n0 nr kn y bytes mL ret R h0 WS Q SF h k n pc Ls (.long z :: .long x :: st) :=
  Go.plain (fun p e below T m c target hA hx hb hk => XS.lmul hA hx rfl (hb ▸ hd) rfl (by subst hq; exact hk)) K
theorem Go.lcmp {x z : Int64} (hd : decode bytes pc = .ok (.lcmp, 1)) (hq : pc + 1 = pc') (K : Go l Z EL n0 nr kn y bytes mL ret R h0 WS Q SF h k n pc' Ls (.int (lcmpW x z) :: st)) : Go l Z EL n0 nr kn y bytes mL ret R h0 WS Q SF h k n pc Ls (.long z :: .long x :: st) :=
  Go.plain (fun p e below T m c target hA hx hb hk => XS.lcmp hA hx rfl (hb ▸ hd) rfl (by subst hq; exact hk)) K
theorem Go.dup {v : Value} (hd : decode bytes pc = .ok (.dup, 1)) (hq : pc + 1 = pc') (hc : v.category = 1) (K : Go l Z EL n0 nr kn y bytes mL ret R h0 WS Q SF h k n pc' Ls (v :: v :: st)) : Go l Z EL n0 nr kn y bytes mL ret R h0 WS Q SF h k n pc Ls (v :: st) :=
  Go.plain (fun p e below T m c target hA hx hb hk => XS.dup hA hx rfl (hb ▸ hd) rfl hc (by subst hq; exact hk)) K
theorem Go.pop {v : Value} (hd : decode bytes pc = .ok (.pop, 1)) (hq : pc + 1 = pc') (hc : v.category = 1) (K : Go l Z EL n0 nr kn y bytes mL ret R h0 WS Q SF h k n pc' Ls st) : Go l Z EL n0 nr kn y bytes mL ret R h0 WS Q SF h k n pc Ls (v :: st) :=
  Go.plain (fun p e below T m c target hA hx hb hk => XS.pop hA hx rfl (hb ▸ hd) rfl hc (by subst hq; exact hk)) K
theorem Go.dup_x1 {v u : Value} (hd : decode bytes pc = .ok (.dup_x1, 1)) (hq : pc + 1 = pc') (hc : v.category = 1) (hc' : u.category = 1) (K : Go l Z EL n0 nr kn y bytes mL ret R h0 WS Q SF h k n pc' Ls (v :: u :: v :: st)) : Go l Z EL n0 nr kn y bytes mL ret R h0 WS Q SF h k n pc Ls (v :: u :: st) :=
  Go.plain (fun p e below T m c target hA hx hb hk => XS.dupX1 hA hx rfl (hb ▸ hd) rfl hc hc' (by subst hq; exact hk)) K
theorem Go.istore_n {i : Fin 4} {x : Int32} (hd : decode bytes pc = .ok (.istore_n i, 1)) (hq : pc + 1 = pc') (hl : storeLocals Ls i.val (.int x) = some Ls') (K : Go l Z EL n0 nr kn y bytes mL ret R h0 WS Q SF h k n pc' Ls' st) : Go l Z EL n0 nr kn y bytes mL ret R h0 WS Q SF h k n pc Ls (.int x :: st) :=
  Go.plain (fun p e below T m c target hA hx hb hk => XS.istoreN hA hx rfl (hb ▸ hd) rfl hl (by subst hq; exact hk)) K
theorem Go.istore {i : Nat} {x : Int32} (hd : decode bytes pc = .ok (.istore i, 2)) (hq : pc + 2 = pc') (hl : storeLocals Ls i (.int x) = some Ls') (K : Go l Z EL n0 nr kn y bytes mL ret R h0 WS Q SF h k n pc' Ls' st) : Go l Z EL n0 nr kn y bytes mL ret R h0 WS Q SF h k n pc Ls (.int x :: st) :=
  Go.plain (fun p e below T m c target hA hx hb hk => XS.istore hA hx rfl (hb ▸ hd) rfl hl (by subst hq; exact hk)) K
theorem Go.istoreS {i : Nat} {x : Int32} {o : Slot} (hd : decode bytes pc = .ok (.istore i, 2)) (hq : pc + 2 = pc') (hold : Ls[i]? = some o) (ho : One o) (hl : Ls.setIfInBounds i (.val (.int x)) = Ls') (K : Go l Z EL n0 nr kn y bytes mL ret R h0 WS Q SF h k n pc' Ls' st) : Go l Z EL n0 nr kn y bytes mL ret R h0 WS Q SF h k n pc Ls (.int x :: st) :=
  Go.plain (fun p e below T m c target hA hx hb hk => XS.istoreS hA hx rfl (hb ▸ hd) rfl hold ho (by subst hq; subst hl; exact hk)) K
theorem Go.lstore_n {i : Fin 4} {x : Int64} (hd : decode bytes pc = .ok (.lstore_n i, 1)) (hq : pc + 1 = pc') (hl : storeLocals Ls i.val (.long x) = some Ls') (K : Go l Z EL n0 nr kn y bytes mL ret R h0 WS Q SF h k n pc' Ls' st) : Go l Z EL n0 nr kn y bytes mL ret R h0 WS Q SF h k n pc Ls (.long x :: st) :=
  Go.plain (fun p e below T m c target hA hx hb hk => XS.lstoreN hA hx rfl (hb ▸ hd) rfl hl (by subst hq; exact hk)) K
theorem Go.astore_n {i : Fin 4} {v : Value} (hd : decode bytes pc = .ok (.astore_n i, 1)) (hq : pc + 1 = pc') (hv : v.isRef = true) (hl : storeLocals Ls i.val v = some Ls') (K : Go l Z EL n0 nr kn y bytes mL ret R h0 WS Q SF h k n pc' Ls' st) : Go l Z EL n0 nr kn y bytes mL ret R h0 WS Q SF h k n pc Ls (v :: st) :=
  Go.plain (fun p e below T m c target hA hx hb hk => XS.astoreN hA hx rfl (hb ▸ hd) rfl hv hl (by subst hq; exact hk)) K
theorem Go.astore {i : Nat} {v : Value} (hd : decode bytes pc = .ok (.astore i, 2)) (hq : pc + 2 = pc') (hv : v.isRef = true) (hl : storeLocals Ls i v = some Ls') (K : Go l Z EL n0 nr kn y bytes mL ret R h0 WS Q SF h k n pc' Ls' st) : Go l Z EL n0 nr kn y bytes mL ret R h0 WS Q SF h k n pc Ls (v :: st) :=
  Go.plain (fun p e below T m c target hA hx hb hk => XS.astore hA hx rfl (hb ▸ hd) rfl hv hl (by subst hq; exact hk)) K
theorem Go.iinc {i : Nat} {cst : Int} {x cv : Int32} (hd : decode bytes pc = .ok (.iinc i cst, 3)) (hq : pc + 3 = pc') (hv : Int32.ofInt cst = cv) (hl : Ls[i]? = some (.val (.int x))) (hl' : storeLocals Ls i (.int (x + cv)) = some Ls') (K : Go l Z EL n0 nr kn y bytes mL ret R h0 WS Q SF h k n pc' Ls' st) : Go l Z EL n0 nr kn y bytes mL ret R h0 WS Q SF h k n pc Ls st :=
  Go.plain (fun p e below T m c target hA hx hb hk => XS.iinc hA hx rfl (hb ▸ hd) hl (by subst hv; exact hl') (by subst hq; exact hk)) K
theorem Go.irem {x z : Int32} (hd : decode bytes pc = .ok (.irem, 1)) (hq : pc + 1 = pc') (hz : z ≠ 0) (K : Go l Z EL n0 nr kn y bytes mL ret R h0 WS Q SF h k n pc' Ls (.int (x % z) :: st)) : Go l Z EL n0 nr kn y bytes mL ret R h0 WS Q SF h k n pc Ls (.int z :: .int x :: st) :=
  Go.plain (fun p e below T m c target hA hx hb hk => XS.irem hA hx rfl (hb ▸ hd) rfl hz (by rw [show x - x / z * z = x % z from irem_eq_mod x z]; subst hq; exact hk)) K
theorem Go.idiv {x z : Int32} (hd : decode bytes pc = .ok (.idiv, 1)) (hq : pc + 1 = pc') (hz : z ≠ 0) (K : Go l Z EL n0 nr kn y bytes mL ret R h0 WS Q SF h k n pc' Ls (.int (x / z) :: st)) : Go l Z EL n0 nr kn y bytes mL ret R h0 WS Q SF h k n pc Ls (.int z :: .int x :: st) :=
  Go.plain (fun p e below T m c target hA hx hb hk => XS.idiv hA hx rfl (hb ▸ hd) rfl hz (by subst hq; exact hk)) K
theorem Go.goto {o : Int} (hd : decode bytes pc = .ok (.goto o, 3)) (ho : 0 ≤ (pc : Int) + o) (hq : ((pc : Int) + o).toNat = pc') (K : Go l Z EL n0 nr kn y bytes mL ret R h0 WS Q SF h k n pc' Ls st) : Go l Z EL n0 nr kn y bytes mL ret R h0 WS Q SF h k n pc Ls st :=
  Go.plain (fun p e below T m c target hA hx hb hk => XS.goto hA hx rfl (pc0 := pc) (pc' := pc') rfl (hb ▸ hd) ho hq hk) K
theorem Go.ifY {cd : ClassFile.Cond} {x : Int32} {o : Int} (hd : decode bytes pc = .ok (.ifCond cd o, 3)) (ho : 0 ≤ (pc : Int) + o) (hq : ((pc : Int) + o).toNat = pc') (hc : ifCond.holds cd x = true) (K : Go l Z EL n0 nr kn y bytes mL ret R h0 WS Q SF h k n pc' Ls st) : Go l Z EL n0 nr kn y bytes mL ret R h0 WS Q SF h k n pc Ls (.int x :: st) :=
  Go.plain (fun p e below T m c target hA hx hb hk => XS.ifYes hA hx rfl (pc0 := pc) (pc' := pc') rfl (hb ▸ hd) rfl hc ho hq hk) K
theorem Go.icmpY {cd : ClassFile.Cond} {x z : Int32} {o : Int} (hd : decode bytes pc = .ok (.if_icmp cd o, 3)) (ho : 0 ≤ (pc : Int) + o) (hq : ((pc : Int) + o).toNat = pc') (hc : if_icmp.holds cd x z = true) (K : Go l Z EL n0 nr kn y bytes mL ret R h0 WS Q SF h k n pc' Ls st) : Go l Z EL n0 nr kn y bytes mL ret R h0 WS Q SF h k n pc Ls (.int z :: .int x :: st) :=
  Go.plain (fun p e below T m c target hA hx hb hk => XS.icmpYes hA hx rfl (pc0 := pc) (pc' := pc') rfl (hb ▸ hd) rfl hc ho hq hk) K
theorem Go.ifnullY {o : Int} (hd : decode bytes pc = .ok (.ifnull o, 3)) (ho : 0 ≤ (pc : Int) + o) (hq : ((pc : Int) + o).toNat = pc') (K : Go l Z EL n0 nr kn y bytes mL ret R h0 WS Q SF h k n pc' Ls st) : Go l Z EL n0 nr kn y bytes mL ret R h0 WS Q SF h k n pc Ls (.null :: st) :=
  Go.plain (fun p e below T m c target hA hx hb hk => XS.ifnullYes hA hx rfl (pc0 := pc) (pc' := pc') rfl (hb ▸ hd) rfl ho hq hk) K
theorem Go.ifnonnullY {b : Addr} {o : Int} (hd : decode bytes pc = .ok (.ifnonnull o, 3)) (ho : 0 ≤ (pc : Int) + o) (hq : ((pc : Int) + o).toNat = pc') (K : Go l Z EL n0 nr kn y bytes mL ret R h0 WS Q SF h k n pc' Ls st) : Go l Z EL n0 nr kn y bytes mL ret R h0 WS Q SF h k n pc Ls (.ref b :: st) :=
  Go.plain (fun p e below T m c target hA hx hb hk => XS.ifnonnullYes hA hx rfl (pc0 := pc) (pc' := pc') rfl (hb ▸ hd) rfl ho hq hk) K
theorem Go.ifN {cd : ClassFile.Cond} {o : Int} {x : Int32} (hd : decode bytes pc = .ok (.ifCond cd o, 3)) (hq : pc + 3 = pc') (hc : ifCond.holds cd x = false) (K : Go l Z EL n0 nr kn y bytes mL ret R h0 WS Q SF h k n pc' Ls st) : Go l Z EL n0 nr kn y bytes mL ret R h0 WS Q SF h k n pc Ls (.int x :: st) :=
  Go.plain (fun p e below T m c target hA hx hb hk => XS.ifNo hA hx rfl (hb ▸ hd) rfl hc (by subst hq; exact hk)) K
theorem Go.icmpN {cd : ClassFile.Cond} {o : Int} {x z : Int32} (hd : decode bytes pc = .ok (.if_icmp cd o, 3)) (hq : pc + 3 = pc') (hc : if_icmp.holds cd x z = false) (K : Go l Z EL n0 nr kn y bytes mL ret R h0 WS Q SF h k n pc' Ls st) : Go l Z EL n0 nr kn y bytes mL ret R h0 WS Q SF h k n pc Ls (.int z :: .int x :: st) :=
  Go.plain (fun p e below T m c target hA hx hb hk => XS.icmpNo hA hx rfl (hb ▸ hd) rfl hc (by subst hq; exact hk)) K
theorem Go.ifnullN {o : Int} {b : Addr} (hd : decode bytes pc = .ok (.ifnull o, 3)) (hq : pc + 3 = pc') (K : Go l Z EL n0 nr kn y bytes mL ret R h0 WS Q SF h k n pc' Ls st) : Go l Z EL n0 nr kn y bytes mL ret R h0 WS Q SF h k n pc Ls (.ref b :: st) :=
  Go.plain (fun p e below T m c target hA hx hb hk => XS.ifnullNo hA hx rfl (hb ▸ hd) rfl (by subst hq; exact hk)) K
theorem Go.ifnonnullN {o : Int} (hd : decode bytes pc = .ok (.ifnonnull o, 3)) (hq : pc + 3 = pc') (K : Go l Z EL n0 nr kn y bytes mL ret R h0 WS Q SF h k n pc' Ls st) : Go l Z EL n0 nr kn y bytes mL ret R h0 WS Q SF h k n pc Ls (.null :: st) :=
  Go.plain (fun p e below T m c target hA hx hb hk => XS.ifnonnullNo hA hx rfl (hb ▸ hd) rfl (by subst hq; exact hk)) K
theorem Go.acmp {cd : ACond} {v u : Value} {o : Int} {same : Bool} (hd : decode bytes pc = .ok (.if_acmp cd o, 3)) (hv : v.isRef = true) (hu : u.isRef = true) (hs : decide (v = u) = same) (ho : 0 ≤ (pc : Int) + o) (hq : pc' = if acV cd same = true then ((pc : Int) + o).toNat else pc + 3) (K : Go l Z EL n0 nr kn y bytes mL ret R h0 WS Q SF h k n pc' Ls st) : Go l Z EL n0 nr kn y bytes mL ret R h0 WS Q SF h k n pc Ls (u :: v :: st) := by
  intro p e s m args below meth c T hR
  obtain ⟨t, o, hs', r⟩ := K p e s m args below meth c T hR
  obtain ⟨⟨hx, hb, -⟩, vm0, k0, locs, X, -⟩ := hR
  exact ⟨t, o, Jvm.RoadKit.acmp (g := mkF m pc Ls (u :: v :: st)) X hx rfl hv hu (pc0 := pc) (pc' := pc') (same := same) rfl (hb ▸ hd) rfl hs ho hq hs', r⟩
theorem Go.getF {R0 O nf d host : String} {index : Nat} {a : Addr} {v : Value} (hd : decode bytes pc = .ok (.getfield index, 3)) (hq : pc + 3 = pc') (w : (Jvm.Cond.fieldLink y.cls index R0 nf d).before a0 Z = true ∨ (Jvm.Cond.fieldLinkNest y.cls index R0 nf d host).before a0 Z = true) (via : Via Z R0 O nf d) (F : Fld Z h a O nf d v) (K : Go l Z EL n0 nr kn y bytes mL ret R h0 WS Q SF h k n pc' Ls (v :: st)) : Go l Z EL n0 nr kn y bytes mL ret R h0 WS Q SF h k n pc Ls (.ref a :: st) := by
  intro p e s m args below meth c T hR
  obtain ⟨⟨hx, hby, hml, hown, hnm, hret, hlk, hkn⟩, vm0, k0, locs, X, e0, C⟩ := hR
  have hZ : Z.Warmed39 (s.setVm vm0).vm := C.1
  have hown' : (s.setVm vm0).vm.findClass y.cls = some m.cls := by rw [show (s.setVm vm0).vm = vm0 from rfl, C.2.1.1.1.alike.findClass]; exact hown
  obtain ⟨T', X', e', st'⟩ := Jvm.RoadKit.getF X hx hZ hown' w via e0 F (g := mkF m pc Ls (.ref a :: st)) rfl rfl (hb hby hd)
  obtain ⟨t, o, hs, r⟩ := K p e s m args below meth c T' ⟨⟨hx, hby, hml, hown, hnm, hret, hlk, hkn⟩, vm0, k0, locs, X', e', C⟩
  exact ⟨t, o, st' _ (by subst hq; exact hs), r⟩
theorem Go.getS {R0 O nf d host : String} {index : Nat} {v : Value} (hd : decode bytes pc = .ok (.getstatic index, 3)) (hq : pc + 3 = pc') (w : (Jvm.Cond.fieldLink y.cls index R0 nf d).before a0 Z = true ∨ (Jvm.Cond.fieldLinkNest y.cls index R0 nf d host).before a0 Z = true) (via : Via Z R0 O nf d) (F : Sta Z Z.heap O nf d v) (K : Go l Z EL n0 nr kn y bytes mL ret R h0 WS Q SF h k n pc' Ls (v :: st)) : Go l Z EL n0 nr kn y bytes mL ret R h0 WS Q SF h k n pc Ls st := by
  intro p e s m args below meth c T hR
  obtain ⟨⟨hx, hby, hml, hown, hnm, hret, hlk, hkn⟩, vm0, k0, locs, X, e0, C⟩ := hR
  have hZ : Z.Warmed39 (s.setVm vm0).vm := C.1
  have hown' : (s.setVm vm0).vm.findClass y.cls = some m.cls := by rw [show (s.setVm vm0).vm = vm0 from rfl, C.2.1.1.1.alike.findClass]; exact hown
  obtain ⟨T', X', e', st'⟩ := Jvm.RoadKit.getS2 X hx hZ hown' w via e0 (F.ext C.2.2.2.2.2.2.1.2) (g := mkF m pc Ls st) rfl (hb hby hd)
  obtain ⟨t, o, hs, r⟩ := K p e s m args below meth c T' ⟨⟨hx, hby, hml, hown, hnm, hret, hlk, hkn⟩, vm0, k0, locs, X', e', C⟩
  exact ⟨t, o, st' _ (by subst hq; exact hs), r⟩
theorem Go.castY {D : String} {index : Nat} {a : Addr} (hd : decode bytes pc = .ok (.checkcast index, 3)) (hq : pc + 3 = pc') (w : (Jvm.Cond.classLink y.cls index D).before a0 Z = true) (F : Ins Z h a D true) (K : Go l Z EL n0 nr kn y bytes mL ret R h0 WS Q SF h k n pc' Ls (.ref a :: st)) : Go l Z EL n0 nr kn y bytes mL ret R h0 WS Q SF h k n pc Ls (.ref a :: st) := by
  intro p e s m args below meth c T hR
  obtain ⟨⟨hx, hby, hml, hown, hnm, hret, hlk, hkn⟩, vm0, k0, locs, X, e0, C⟩ := hR
  have hZ : Z.Warmed39 (s.setVm vm0).vm := C.1
  have hown' : (s.setVm vm0).vm.findClass y.cls = some m.cls := by rw [show (s.setVm vm0).vm = vm0 from rfl, C.2.1.1.1.alike.findClass]; exact hown
  obtain ⟨T', X', e', st'⟩ := Jvm.RoadKit.castY X hx hZ hown' w e0 F (g := mkF m pc Ls (.ref a :: st)) rfl rfl (hb hby hd)
  obtain ⟨t, o, hs, r⟩ := K p e s m args below meth c T' ⟨⟨hx, hby, hml, hown, hnm, hret, hlk, hkn⟩, vm0, k0, locs, X', e', C⟩
  exact ⟨t, o, st' _ (by subst hq; exact hs), r⟩
theorem Go.instY {D : String} {index : Nat} {a : Addr} (hd : decode bytes pc = .ok (.instanceof index, 3)) (hq : pc + 3 = pc') (w : (Jvm.Cond.classLink y.cls index D).before a0 Z = true) (F : Ins Z h a D true) (K : Go l Z EL n0 nr kn y bytes mL ret R h0 WS Q SF h k n pc' Ls (.int 1 :: st)) : Go l Z EL n0 nr kn y bytes mL ret R h0 WS Q SF h k n pc Ls (.ref a :: st) := by
  intro p e s m args below meth c T hR
  obtain ⟨⟨hx, hby, hml, hown, hnm, hret, hlk, hkn⟩, vm0, k0, locs, X, e0, C⟩ := hR
  have hZ : Z.Warmed39 (s.setVm vm0).vm := C.1
  have hown' : (s.setVm vm0).vm.findClass y.cls = some m.cls := by rw [show (s.setVm vm0).vm = vm0 from rfl, C.2.1.1.1.alike.findClass]; exact hown
  obtain ⟨T', X', e', st'⟩ := Jvm.RoadKit.instY X hx hZ hown' w e0 F (g := mkF m pc Ls (.ref a :: st)) rfl rfl (hb hby hd)
  obtain ⟨t, o, hs, r⟩ := K p e s m args below meth c T' ⟨⟨hx, hby, hml, hown, hnm, hret, hlk, hkn⟩, vm0, k0, locs, X', e', C⟩
  exact ⟨t, o, st' _ (by subst hq; exact hs), r⟩
theorem Go.instNo {D CC : String} {index : Nat} {a : Addr} (hd : decode bytes pc = .ok (.instanceof index, 3)) (hq : pc + 3 = pc') (w : (Jvm.Cond.classLink y.cls index D).before a0 Z = true) (E : Exa Z h a CC) (F : ∃ c t, Z.vm.findClass CC = some c ∧ Z.vm.findClass D = some t ∧ Z.vm.assignable c t = false) (K : Go l Z EL n0 nr kn y bytes mL ret R h0 WS Q SF h k n pc' Ls (.int 0 :: st)) : Go l Z EL n0 nr kn y bytes mL ret R h0 WS Q SF h k n pc Ls (.ref a :: st) := by
  intro p e s m args below meth c T hR
  obtain ⟨⟨hx, hby, hml, hown, hnm, hret, hlk, hkn⟩, vm0, k0, locs, X, e0, C⟩ := hR
  have hZ : Z.Warmed39 (s.setVm vm0).vm := C.1
  have hown' : (s.setVm vm0).vm.findClass y.cls = some m.cls := by rw [show (s.setVm vm0).vm = vm0 from rfl, C.2.1.1.1.alike.findClass]; exact hown
  obtain ⟨T', X', e', st'⟩ := Jvm.RoadKit.instNo X hx hZ hown' w e0 E F (g := mkF m pc Ls (.ref a :: st)) rfl rfl (hb hby hd)
  obtain ⟨t, o, hs, r⟩ := K p e s m args below meth c T' ⟨⟨hx, hby, hml, hown, hnm, hret, hlk, hkn⟩, vm0, k0, locs, X', e', C⟩
  exact ⟨t, o, st' _ (by subst hq; exact hs), r⟩
theorem Go.initO {index W : Nat} {a : Addr} (hd : decode bytes pc = .ok (.invokespecial index, 3)) (hq : pc + 3 = pc') (w1 : (Jvm.Cond.methodLink y.cls index Lib.objectInit).before a0 Z = true) (w2 : (Jvm.Cond.instanceMethod Lib.objectInit).before a0 Z = true) (w3 : (Jvm.Cond.code Lib.objectInit ⟨#[0xb1]⟩ 1 none).before a0 Z = true) (hsz : Ls.size = mL) (hf : 1 ≤ R.frames) (hW : (st.map fun v => v.category).sum ≤ W) (hl : W + 12 ≤ R.locals) (K : Go l Z EL n0 nr kn y bytes mL ret R h0 WS Q SF h k n pc' Ls st) : Go l Z EL n0 nr kn y bytes mL ret R h0 WS Q SF h k n pc Ls (.ref a :: st) := by
  intro p e s m args below meth c T hR
  obtain ⟨⟨hx, hby, hml, hown, hnm, hret, hlk, hkn⟩, vm0, k0, locs, X, e0, C⟩ := hR
  have hZ : Z.Warmed39 (s.setVm vm0).vm := C.1
  have hown' : (s.setVm vm0).vm.findClass y.cls = some m.cls := by rw [show (s.setVm vm0).vm = vm0 from rfl, C.2.1.1.1.alike.findClass]; exact hown
  obtain ⟨T', X', e', st'⟩ := Jvm.RoadKit.initO X hx hZ hown' w1 w2 w3 e0 (g := mkF m pc Ls (.ref a :: st)) rfl (by rw [hml]; exact hsz) rfl (hb hby hd) hf (W := W) (by show 2 * 0 + _ ≤ _; rw [Nat.mul_zero, Nat.zero_add]; exact hW) hl
  obtain ⟨t, o, hs, r⟩ := K p e s m args below meth c T' ⟨⟨hx, hby, hml, hown, hnm, hret, hlk, hkn⟩, vm0, k0, locs, X', e', C⟩
  exact ⟨t, o, st' _ (by subst hq; exact hs), r⟩
theorem Go.gcls {index W : Nat} {CC : String} {a mr : Addr} (hd : decode bytes pc = .ok (.invokevirtual index, 3)) (hq : pc + 3 = pc') (w1 : (Jvm.Cond.methodLink y.cls index ⟨"java/lang/Object", "getClass", "()Ljava/lang/Class;"⟩).before a0 Z = true) (w2 : (Jvm.Cond.declares ⟨"java/lang/Object", "getClass", "()Ljava/lang/Class;"⟩).before a0 Z = true) (w3 : (Jvm.Cond.noSuperclass "java/lang/Object").before a0 Z = true) (w4 : (Jvm.Cond.selects CC ⟨"java/lang/Object", "getClass", "()Ljava/lang/Class;"⟩ ⟨"java/lang/Object", "getClass", "()Ljava/lang/Class;"⟩).before a0 Z = true)
    (w5 : (Jvm.Cond.instanceMethod ⟨"java/lang/Object", "getClass", "()Ljava/lang/Class;"⟩).before a0 Z = true) (w6 : (Jvm.Cond.native ⟨"java/lang/Object", "getClass", "()Ljava/lang/Class;"⟩).before a0 Z = true) (E : Exa Z h a CC) (M : Mr Z CC mr) (hsz : Ls.size = mL) (hf : 1 ≤ R.frames) (hW : (st.map fun v => v.category).sum ≤ W) (hl : W + (nativeFrameWords "java/lang/Object" "getClass" 1 + 11) ≤ R.locals) (K : Go l Z EL n0 nr kn y bytes mL ret R h0 WS Q SF h k n pc' Ls (.ref mr :: st)) : Go l Z EL n0 nr kn y bytes mL ret R h0 WS Q SF h k n pc Ls (.ref a :: st) := by
  intro p e s m args below meth c T hR
  obtain ⟨⟨hx, hby, hml, hown, hnm, hret, hlk, hkn⟩, vm0, k0, locs, X, e0, C⟩ := hR
  have hZ : Z.Warmed39 (s.setVm vm0).vm := C.1
  have hown' : (s.setVm vm0).vm.findClass y.cls = some m.cls := by rw [show (s.setVm vm0).vm = vm0 from rfl, C.2.1.1.1.alike.findClass]; exact hown
  obtain ⟨cB, kB, i1, i2, i3⟩ := isOf hZ e0 E
  obtain ⟨cc, kc, m1, m2, m3⟩ := M
  rw [hZ.alike.findClass] at i1
  cases i1.symm.trans m1
  obtain ⟨k', q, ek⟩ := hZ.alike.2.2 _ _ m2
  obtain ⟨vm', X', st'⟩ := X.getClassOf hx hown' (mvT hZ w1) (mvT hZ w2) (nf_top (args := #[]) (mvT hZ w3)) (mvT hZ w4) (mvT hZ w5) (mvT hZ w6) (by rw [hZ.alike.findClass]; exact m1) i3 q (by rw [ek]; exact m3) (g := mkF m pc Ls (.ref a :: st)) rfl (by rw [hml]; exact hsz) rfl (hb hby hd) hf (by show 2 * 0 + _ + _ ≤ _; omega)
  obtain ⟨t, o, hs, r⟩ := K p e s m args below meth c _ ⟨⟨hx, hby, hml, hown, hnm, hret, hlk, hkn⟩, vm0, k0, locs, X', e0, C⟩
  exact ⟨t, o, st' _ (by subst hq; exact hs), r⟩
theorem Go.ldcM {index : Nat} {CC : String} {mr : Addr} (hd : decode bytes pc = .ok (.ldc index, 2)) (hq : pc + 2 = pc') (w : (Jvm.Cond.classLink y.cls index CC).before a0 Z = true) (M : Mr Z CC mr) (K : Go l Z EL n0 nr kn y bytes mL ret R h0 WS Q SF h k n pc' Ls (.ref mr :: st)) : Go l Z EL n0 nr kn y bytes mL ret R h0 WS Q SF h k n pc Ls st := by
  intro p e s m args below meth c T hR
  obtain ⟨⟨hx, hby, hml, hown, hnm, hret, hlk, hkn⟩, vm0, k0, locs, X, e0, C⟩ := hR
  have hZ : Z.Warmed39 (s.setVm vm0).vm := C.1
  have hown' : (s.setVm vm0).vm.findClass y.cls = some m.cls := by rw [show (s.setVm vm0).vm = vm0 from rfl, C.2.1.1.1.alike.findClass]; exact hown
  obtain ⟨cc, kc, m1, m2, m3⟩ := M
  obtain ⟨k', q, ek⟩ := hZ.alike.2.2 _ _ m2
  have hev : (Term.mirror CC).eval args (s.setVm vm0) none [] (s.setVm vm0) = some (.ref mr) := by
    have q1 : (s.setVm vm0).vm.findClass CC = some cc := by rw [hZ.alike.findClass]; exact m1
    have q2 : k'.mirror = some mr := by rw [ek]; exact m3
    simp only [Term.eval, q1, q, q2, Option.bind_eq_bind, Option.bind_some, Option.pure_def]
  obtain ⟨vm', X', st'⟩ := X.ldcMirror hx hown' (mvT hZ w) hev (g := mkF m pc Ls st) rfl (hb hby hd)
  obtain ⟨t, o, hs, r⟩ := K p e s m args below meth c _ ⟨⟨hx, hby, hml, hown, hnm, hret, hlk, hkn⟩, vm0, k0, locs, X', e0, C⟩
  exact ⟨t, o, st' _ (by subst hq; exact hs), r⟩
theorem Go.ldcInt {index : Nat} {v : Int32} (hd : decode bytes pc = .ok (.ldc index, 2)) (hq : pc + 2 = pc') (w : (Jvm.Cond.constant y.cls index v).before a0 Z = true) (K : Go l Z EL n0 nr kn y bytes mL ret R h0 WS Q SF h k n pc' Ls (.int v :: st)) : Go l Z EL n0 nr kn y bytes mL ret R h0 WS Q SF h k n pc Ls st := by
  intro p e s m args below meth c T hR
  obtain ⟨⟨hx, hby, hml, hown, hnm, hret, hlk, hkn⟩, vm0, k0, locs, X, e0, C⟩ := hR
  have hZ : Z.Warmed39 (s.setVm vm0).vm := C.1
  have hown' : (s.setVm vm0).vm.findClass y.cls = some m.cls := by rw [show (s.setVm vm0).vm = vm0 from rfl, C.2.1.1.1.alike.findClass]; exact hown
  obtain ⟨t, o, hs, r⟩ := K p e s m args below meth c T ⟨⟨hx, hby, hml, hown, hnm, hret, hlk, hkn⟩, vm0, k0, locs, X, e0, C⟩
  exact ⟨t, o, X.ldcInt hx hown' (mvT hZ w) (g := mkF m pc Ls st) rfl (hb hby hd) _ (by subst hq; exact hs), r⟩
theorem Go.ldc2Long {index : Nat} {v : Int64} (hd : decode bytes pc = .ok (.ldc2_w index, 3)) (hq : pc + 3 = pc') (w : (Jvm.Cond.constantLong y.cls index v).before a0 Z = true) (K : Go l Z EL n0 nr kn y bytes mL ret R h0 WS Q SF h k n pc' Ls (.long v :: st)) : Go l Z EL n0 nr kn y bytes mL ret R h0 WS Q SF h k n pc Ls st := by
  intro p e s m args below meth c T hR
  obtain ⟨⟨hx, hby, hml, hown, hnm, hret, hlk, hkn⟩, vm0, k0, locs, X, e0, C⟩ := hR
  have hZ : Z.Warmed39 (s.setVm vm0).vm := C.1
  have hown' : (s.setVm vm0).vm.findClass y.cls = some m.cls := by rw [show (s.setVm vm0).vm = vm0 from rfl, C.2.1.1.1.alike.findClass]; exact hown
  obtain ⟨t, o, hs, r⟩ := K p e s m args below meth c T ⟨⟨hx, hby, hml, hown, hnm, hret, hlk, hkn⟩, vm0, k0, locs, X, e0, C⟩
  exact ⟨t, o, X.ldc2Long hx hown' (mvT hZ w) (g := mkF m pc Ls st) rfl (hb hby hd) _ (by subst hq; exact hs), r⟩
theorem Go.arraylength {a : Addr} {cl : Cell} {ty : FieldType} {z : Int32} (hd : decode bytes pc = .ok (.arraylength, 1)) (hq : pc + 1 = pc') (F : Arr Z h a cl ty) (hz : cl.slots.size.toInt32 = z) (K : Go l Z EL n0 nr kn y bytes mL ret R h0 WS Q SF h k n pc' Ls (.int z :: st)) : Go l Z EL n0 nr kn y bytes mL ret R h0 WS Q SF h k n pc Ls (.ref a :: st) := by
  intro p e s m args below meth c T hR
  obtain ⟨⟨hx, hby, hml, hown, hnm, hret, hlk, hkn⟩, vm0, k0, locs, X, e0, C⟩ := hR
  have hZ : Z.Warmed39 (s.setVm vm0).vm := C.1
  have hown' : (s.setVm vm0).vm.findClass y.cls = some m.cls := by rw [show (s.setVm vm0).vm = vm0 from rfl, C.2.1.1.1.alike.findClass]; exact hown
  obtain ⟨t, o, hs, r⟩ := K p e s m args below meth c T ⟨⟨hx, hby, hml, hown, hnm, hret, hlk, hkn⟩, vm0, k0, locs, X, e0, C⟩
  exact ⟨t, o, X.arraylength hx (by rw [e0]; exact F.1) (State.isArrayOf_alike hZ.alike F.2.1) (g := mkF m pc Ls (.ref a :: st)) rfl rfl (hb hby hd) _ (by subst hq; rw [hz]; exact hs), r⟩
theorem Go.lenV {a : Addr} {kk : ClassId} {ty : FieldType} {z : Int32} {vs : List Value} {dv : Value} (hd : decode bytes pc = .ok (.arraylength, 1)) (hq : pc + 1 = pc') (F : Arv Z h a kk ty z vs dv) (K : Go l Z EL n0 nr kn y bytes mL ret R h0 WS Q SF h k n pc' Ls (.int z :: st)) : Go l Z EL n0 nr kn y bytes mL ret R h0 WS Q SF h k n pc Ls (.ref a :: st) := by
  intro p e s m args below meth c T hR
  obtain ⟨⟨hx, hby, hml, hown, hnm, hret, hlk, hkn⟩, vm0, k0, locs, X, e0, C⟩ := hR
  have hZ : Z.Warmed39 (s.setVm vm0).vm := C.1
  have hown' : (s.setVm vm0).vm.findClass y.cls = some m.cls := by rw [show (s.setVm vm0).vm = vm0 from rfl, C.2.1.1.1.alike.findClass]; exact hown
  obtain ⟨cl, F, -, S, N, -, -⟩ := F
  obtain ⟨t, o, hs, r⟩ := K p e s m args below meth c T ⟨⟨hx, hby, hml, hown, hnm, hret, hlk, hkn⟩, vm0, k0, locs, X, e0, C⟩
  exact ⟨t, o, X.arraylength hx (by rw [e0]; exact F.1) (State.isArrayOf_alike hZ.alike F.2.1) (g := mkF m pc Ls (.ref a :: st)) rfl rfl (hb hby hd) _ (by subst hq; rw [len_of S N]; exact hs), r⟩
theorem Go.caload {a : Addr} {cl : Cell} {j : Int32} {v : Value} (hd : decode bytes pc = .ok (.caload, 1)) (hq : pc + 1 = pc') (F : Arr Z h a cl .char) (hin : ¬ (j < 0 ∨ cl.slots.size ≤ j.toNatClampNeg)) (hv : cl.slots[j.toNatClampNeg]? = some v) (K : Go l Z EL n0 nr kn y bytes mL ret R h0 WS Q SF h k n pc' Ls (v :: st)) : Go l Z EL n0 nr kn y bytes mL ret R h0 WS Q SF h k n pc Ls (.int j :: .ref a :: st) := by
  intro p e s m args below meth c T hR
  obtain ⟨⟨hx, hby, hml, hown, hnm, hret, hlk, hkn⟩, vm0, k0, locs, X, e0, C⟩ := hR
  have hZ : Z.Warmed39 (s.setVm vm0).vm := C.1
  have hown' : (s.setVm vm0).vm.findClass y.cls = some m.cls := by rw [show (s.setVm vm0).vm = vm0 from rfl, C.2.1.1.1.alike.findClass]; exact hown
  obtain ⟨t, o, hs, r⟩ := K p e s m args below meth c T ⟨⟨hx, hby, hml, hown, hnm, hret, hlk, hkn⟩, vm0, k0, locs, X, e0, C⟩
  exact ⟨t, o, X.caload hx (by rw [e0]; exact F.1) (State.isArrayOf_alike hZ.alike F.2.1) F.2.2 hin hv (g := mkF m pc Ls (.int j :: .ref a :: st)) rfl rfl (hb hby hd) _ (by subst hq; exact hs), r⟩
theorem Go.caloadV {a : Addr} {kk : ClassId} {z j : Int32} {vs : List Value} {v dv : Value} (hd : decode bytes pc = .ok (.caload, 1)) (hq : pc + 1 = pc') (F : Arv Z h a kk .char z vs dv) (hj : ¬ j < 0 ∧ j < z) (hv : vs.getD j.toNatClampNeg dv = v) (K : Go l Z EL n0 nr kn y bytes mL ret R h0 WS Q SF h k n pc' Ls (v :: st)) : Go l Z EL n0 nr kn y bytes mL ret R h0 WS Q SF h k n pc Ls (.int j :: .ref a :: st) := by
  intro p e s m args below meth c T hR
  obtain ⟨⟨hx, hby, hml, hown, hnm, hret, hlk, hkn⟩, vm0, k0, locs, X, e0, C⟩ := hR
  have hZ : Z.Warmed39 (s.setVm vm0).vm := C.1
  have hown' : (s.setVm vm0).vm.findClass y.cls = some m.cls := by rw [show (s.setVm vm0).vm = vm0 from rfl, C.2.1.1.1.alike.findClass]; exact hown
  obtain ⟨cl, F, -, S, N, H, -⟩ := F
  have hin := inb_of S hj
  have hv := Has.at H hin hv
  obtain ⟨t, o, hs, r⟩ := K p e s m args below meth c T ⟨⟨hx, hby, hml, hown, hnm, hret, hlk, hkn⟩, vm0, k0, locs, X, e0, C⟩
  exact ⟨t, o, X.caload hx (by rw [e0]; exact F.1) (State.isArrayOf_alike hZ.alike F.2.1) F.2.2 hin hv (g := mkF m pc Ls (.int j :: .ref a :: st)) rfl rfl (hb hby hd) _ (by subst hq; exact hs), r⟩
theorem Go.baload {a : Addr} {cl : Cell} {j : Int32} {v : Value} (hd : decode bytes pc = .ok (.baload, 1)) (hq : pc + 1 = pc') (F : Arr Z h a cl .byte) (hin : ¬ (j < 0 ∨ cl.slots.size ≤ j.toNatClampNeg)) (hv : cl.slots[j.toNatClampNeg]? = some v) (K : Go l Z EL n0 nr kn y bytes mL ret R h0 WS Q SF h k n pc' Ls (v :: st)) : Go l Z EL n0 nr kn y bytes mL ret R h0 WS Q SF h k n pc Ls (.int j :: .ref a :: st) := by
  intro p e s m args below meth c T hR
  obtain ⟨⟨hx, hby, hml, hown, hnm, hret, hlk, hkn⟩, vm0, k0, locs, X, e0, C⟩ := hR
  have hZ : Z.Warmed39 (s.setVm vm0).vm := C.1
  have hown' : (s.setVm vm0).vm.findClass y.cls = some m.cls := by rw [show (s.setVm vm0).vm = vm0 from rfl, C.2.1.1.1.alike.findClass]; exact hown
  obtain ⟨t, o, hs, r⟩ := K p e s m args below meth c T ⟨⟨hx, hby, hml, hown, hnm, hret, hlk, hkn⟩, vm0, k0, locs, X, e0, C⟩
  exact ⟨t, o, X.baloadBytes hx (by rw [e0]; exact F.1) (State.isArrayOf_alike hZ.alike F.2.1) F.2.2 hin hv (g := mkF m pc Ls (.int j :: .ref a :: st)) rfl rfl (hb hby hd) _ (by subst hq; exact hs), r⟩
theorem Go.baloadV {a : Addr} {kk : ClassId} {z j : Int32} {vs : List Value} {v dv : Value} (hd : decode bytes pc = .ok (.baload, 1)) (hq : pc + 1 = pc') (F : Arv Z h a kk .byte z vs dv) (hj : ¬ j < 0 ∧ j < z) (hv : vs.getD j.toNatClampNeg dv = v) (K : Go l Z EL n0 nr kn y bytes mL ret R h0 WS Q SF h k n pc' Ls (v :: st)) : Go l Z EL n0 nr kn y bytes mL ret R h0 WS Q SF h k n pc Ls (.int j :: .ref a :: st) := by
  intro p e s m args below meth c T hR
  obtain ⟨⟨hx, hby, hml, hown, hnm, hret, hlk, hkn⟩, vm0, k0, locs, X, e0, C⟩ := hR
  have hZ : Z.Warmed39 (s.setVm vm0).vm := C.1
  have hown' : (s.setVm vm0).vm.findClass y.cls = some m.cls := by rw [show (s.setVm vm0).vm = vm0 from rfl, C.2.1.1.1.alike.findClass]; exact hown
  obtain ⟨cl, F, -, S, N, H, -⟩ := F
  have hin := inb_of S hj
  have hv := Has.at H hin hv
  obtain ⟨t, o, hs, r⟩ := K p e s m args below meth c T ⟨⟨hx, hby, hml, hown, hnm, hret, hlk, hkn⟩, vm0, k0, locs, X, e0, C⟩
  exact ⟨t, o, X.baloadBytes hx (by rw [e0]; exact F.1) (State.isArrayOf_alike hZ.alike F.2.1) F.2.2 hin hv (g := mkF m pc Ls (.int j :: .ref a :: st)) rfl rfl (hb hby hd) _ (by subst hq; exact hs), r⟩
theorem Go.iaload {a : Addr} {cl : Cell} {j : Int32} {v : Value} (hd : decode bytes pc = .ok (.iaload, 1)) (hq : pc + 1 = pc') (F : Arr Z h a cl .int) (hin : ¬ (j < 0 ∨ cl.slots.size ≤ j.toNatClampNeg)) (hv : cl.slots[j.toNatClampNeg]? = some v) (K : Go l Z EL n0 nr kn y bytes mL ret R h0 WS Q SF h k n pc' Ls (v :: st)) : Go l Z EL n0 nr kn y bytes mL ret R h0 WS Q SF h k n pc Ls (.int j :: .ref a :: st) := by
  intro p e s m args below meth c T hR
  obtain ⟨⟨hx, hby, hml, hown, hnm, hret, hlk, hkn⟩, vm0, k0, locs, X, e0, C⟩ := hR
  have hZ : Z.Warmed39 (s.setVm vm0).vm := C.1
  have hown' : (s.setVm vm0).vm.findClass y.cls = some m.cls := by rw [show (s.setVm vm0).vm = vm0 from rfl, C.2.1.1.1.alike.findClass]; exact hown
  obtain ⟨t, o, hs, r⟩ := K p e s m args below meth c T ⟨⟨hx, hby, hml, hown, hnm, hret, hlk, hkn⟩, vm0, k0, locs, X, e0, C⟩
  exact ⟨t, o, X.iaload hx (by rw [e0]; exact F.1) (State.isArrayOf_alike hZ.alike F.2.1) F.2.2 hin hv (g := mkF m pc Ls (.int j :: .ref a :: st)) rfl rfl (hb hby hd) _ (by subst hq; exact hs), r⟩
theorem Go.ialoadV {a : Addr} {kk : ClassId} {z j : Int32} {vs : List Value} {v dv : Value} (hd : decode bytes pc = .ok (.iaload, 1)) (hq : pc + 1 = pc') (F : Arv Z h a kk .int z vs dv) (hj : ¬ j < 0 ∧ j < z) (hv : vs.getD j.toNatClampNeg dv = v) (K : Go l Z EL n0 nr kn y bytes mL ret R h0 WS Q SF h k n pc' Ls (v :: st)) : Go l Z EL n0 nr kn y bytes mL ret R h0 WS Q SF h k n pc Ls (.int j :: .ref a :: st) := by
  intro p e s m args below meth c T hR
  obtain ⟨⟨hx, hby, hml, hown, hnm, hret, hlk, hkn⟩, vm0, k0, locs, X, e0, C⟩ := hR
  have hZ : Z.Warmed39 (s.setVm vm0).vm := C.1
  have hown' : (s.setVm vm0).vm.findClass y.cls = some m.cls := by rw [show (s.setVm vm0).vm = vm0 from rfl, C.2.1.1.1.alike.findClass]; exact hown
  obtain ⟨cl, F, -, S, N, H, -⟩ := F
  have hin := inb_of S hj
  have hv := Has.at H hin hv
  obtain ⟨t, o, hs, r⟩ := K p e s m args below meth c T ⟨⟨hx, hby, hml, hown, hnm, hret, hlk, hkn⟩, vm0, k0, locs, X, e0, C⟩
  exact ⟨t, o, X.iaload hx (by rw [e0]; exact F.1) (State.isArrayOf_alike hZ.alike F.2.1) F.2.2 hin hv (g := mkF m pc Ls (.int j :: .ref a :: st)) rfl rfl (hb hby hd) _ (by subst hq; exact hs), r⟩
theorem Go.aaload {ty : FieldType} {a : Addr} {cl : Cell} {j : Int32} {v : Value} (hd : decode bytes pc = .ok (.aaload, 1)) (hq : pc + 1 = pc') (F : Arr Z h a cl ty) (hty : ty.isReference = true) (hin : ¬ (j < 0 ∨ cl.slots.size ≤ j.toNatClampNeg)) (hv : cl.slots[j.toNatClampNeg]? = some v) (K : Go l Z EL n0 nr kn y bytes mL ret R h0 WS Q SF h k n pc' Ls (v :: st)) : Go l Z EL n0 nr kn y bytes mL ret R h0 WS Q SF h k n pc Ls (.int j :: .ref a :: st) := by
  intro p e s m args below meth c T hR
  obtain ⟨⟨hx, hby, hml, hown, hnm, hret, hlk, hkn⟩, vm0, k0, locs, X, e0, C⟩ := hR
  have hZ : Z.Warmed39 (s.setVm vm0).vm := C.1
  have hown' : (s.setVm vm0).vm.findClass y.cls = some m.cls := by rw [show (s.setVm vm0).vm = vm0 from rfl, C.2.1.1.1.alike.findClass]; exact hown
  obtain ⟨t, o, hs, r⟩ := K p e s m args below meth c T ⟨⟨hx, hby, hml, hown, hnm, hret, hlk, hkn⟩, vm0, k0, locs, X, e0, C⟩
  exact ⟨t, o, X.aaload hx (by rw [e0]; exact F.1) (State.isArrayOf_alike hZ.alike F.2.1) hty F.2.2 hin hv (g := mkF m pc Ls (.int j :: .ref a :: st)) rfl rfl (hb hby hd) _ (by subst hq; exact hs), r⟩
theorem Go.aaloadV {ty : FieldType} {a : Addr} {kk : ClassId} {z j : Int32} {vs : List Value} {v dv : Value} (hd : decode bytes pc = .ok (.aaload, 1)) (hq : pc + 1 = pc') (F : Arv Z h a kk ty z vs dv) (hty : ty.isReference = true) (hj : ¬ j < 0 ∧ j < z) (hv : vs.getD j.toNatClampNeg dv = v) (K : Go l Z EL n0 nr kn y bytes mL ret R h0 WS Q SF h k n pc' Ls (v :: st)) : Go l Z EL n0 nr kn y bytes mL ret R h0 WS Q SF h k n pc Ls (.int j :: .ref a :: st) := by
  intro p e s m args below meth c T hR
  obtain ⟨⟨hx, hby, hml, hown, hnm, hret, hlk, hkn⟩, vm0, k0, locs, X, e0, C⟩ := hR
  have hZ : Z.Warmed39 (s.setVm vm0).vm := C.1
  have hown' : (s.setVm vm0).vm.findClass y.cls = some m.cls := by rw [show (s.setVm vm0).vm = vm0 from rfl, C.2.1.1.1.alike.findClass]; exact hown
  obtain ⟨cl, F, -, S, N, H, -⟩ := F
  have hin := inb_of S hj
  have hv := Has.at H hin hv
  obtain ⟨t, o, hs, r⟩ := K p e s m args below meth c T ⟨⟨hx, hby, hml, hown, hnm, hret, hlk, hkn⟩, vm0, k0, locs, X, e0, C⟩
  exact ⟨t, o, X.aaload hx (by rw [e0]; exact F.1) (State.isArrayOf_alike hZ.alike F.2.1) hty F.2.2 hin hv (g := mkF m pc Ls (.int j :: .ref a :: st)) rfl rfl (hb hby hd) _ (by subst hq; exact hs), r⟩
theorem Go.newO {CC : String} {index nn : Nat} (hd : decode bytes pc = .ok (.new index, 3)) (hq : pc + 3 = pc') (w : (Jvm.Cond.classLink y.cls index CC).before a0 Z = true) (wi : (Jvm.Cond.instantiable CC nn).before a0 Z = true) (wz : (Jvm.Cond.initialized CC).before a0 Z = true) (hc : k + 1 ≤ R.cells) (hl : n + nn ≤ R.slots)
    (K : ∀ h' a, h.size = a → h0.size ≤ a → Ext h h' → Exa Z h' a CC → (∀ {O nm d : String} {ty : FieldType}, Laid Z a0 CC O nm d → parseFieldDescriptor d = some ty → Fld Z h' a O nm d (defaultValue ty)) → Unt h' a → Go l Z EL n0 nr kn y bytes mL ret R h0 WS Q (a :: SF) h' (k + 1) (n + nn) pc' Ls (.ref a :: st)) : Go l Z EL n0 nr kn y bytes mL ret R h0 WS Q SF h k n pc Ls st := by
  intro p e s m args below meth c T hR
  obtain ⟨⟨hx, hby, hml, hown, hnm, hret, hlk, hkn⟩, vm0, k0, locs, X, e0, C⟩ := hR
  have hZ : Z.Warmed39 (s.setVm vm0).vm := C.1
  have hown' : (s.setVm vm0).vm.findClass y.cls = some m.cls := by rw [show (s.setVm vm0).vm = vm0 from rfl, C.2.1.1.1.alike.findClass]; exact hown
  obtain ⟨T', h', X', e', E, AA, D, U, st'⟩ := Jvm.RoadKit.newO X hx hZ hown' w wi wz e0 (g := mkF m pc Ls st) rfl (hb hby hd) hc hl
  have hlt : h.size < h'.size := AA.lt
  obtain ⟨t, o, hs, r⟩ := K h' h.size rfl C.2.2.2.2.2.2.2.1.1 E AA D U p e s m args below meth c T' ⟨⟨hx, hby, hml, hown, hnm, hret, hlk, hkn⟩, vm0, k0, locs, X', e', C.push E hlt⟩
  exact ⟨t, o, st' _ (by subst hq; exact hs), r⟩
theorem Go.newP {aty : ArrayType} {z : Int32} {cap : Nat} {ad : String} (hd : decode bytes pc = .ok (.newarray aty, 2)) (hq : pc + 2 = pc') (w : (Jvm.Cond.arrayClass (newarray.typeOf aty)).before a0 Z = true) (had : "[" ++ (newarray.typeOf aty).toString = ad) (hz : ¬ z < 0) (hcap : z.toNatClampNeg ≤ cap) (hbig : cap * 8 ≤ 536870912) (hc : k + 1 ≤ R.cells) (hl : n + cap ≤ R.slots)
    (K : ∀ h' a, h.size = a → h0.size ≤ a → ∀ cA, Ext h h' → Arv Z h' a cA (newarray.typeOf aty) z [] (defaultValue (newarray.typeOf aty)) → Exa Z h' a ad → Go l Z EL n0 nr kn y bytes mL ret R h0 WS Q (a :: SF) h' (k + 1) (n + cap) pc' Ls (.ref a :: st)) : Go l Z EL n0 nr kn y bytes mL ret R h0 WS Q SF h k n pc Ls (.int z :: st) := by
  intro p e s m args below meth c T hR
  obtain ⟨⟨hx, hby, hml, hown, hnm, hret, hlk, hkn⟩, vm0, k0, locs, X, e0, C⟩ := hR
  have hZ : Z.Warmed39 (s.setVm vm0).vm := C.1
  have hown' : (s.setVm vm0).vm.findClass y.cls = some m.cls := by rw [show (s.setVm vm0).vm = vm0 from rfl, C.2.1.1.1.alike.findClass]; exact hown
  obtain ⟨T', h', cA, X', e', E, AA, EE, st'⟩ := Jvm.RoadKit.newPE X hx hZ w e0 (g := mkF m pc Ls (.int z :: st)) rfl (hb hby hd) rfl hz hcap hbig hc hl had
  have hlt : h.size < h'.size := AA.lt
  obtain ⟨t, o, hs, r⟩ := K h' h.size rfl C.2.2.2.2.2.2.2.1.1 cA E (Arv.new AA hz) EE p e s m args below meth c T' ⟨⟨hx, hby, hml, hown, hnm, hret, hlk, hkn⟩, vm0, k0, locs, X', e', C.push E hlt⟩
  exact ⟨t, o, st' _ (by subst hq; exact hs), r⟩
theorem Go.newR {CC : String} {index : Nat} {z : Int32} {cap : Nat} {ad : String} (hd : decode bytes pc = .ok (.anewarray index, 3)) (hq : pc + 3 = pc') (w1 : (Jvm.Cond.classLink y.cls index CC).before a0 Z = true) (w2 : (Jvm.Cond.arrayOver (.object CC)).before a0 Z = true) (had : "[" ++ (FieldType.object CC).toString = ad) (hz : ¬ z < 0) (hcap : z.toNatClampNeg ≤ cap) (hbig : cap * 8 ≤ 536870912) (hc : k + 1 ≤ R.cells) (hl : n + cap ≤ R.slots)
    (K : ∀ h' a, h.size = a → h0.size ≤ a → ∀ cA, Ext h h' → Arv Z h' a cA (.object CC) z [] .null → Exa Z h' a ad → Ovr Z cA CC → Go l Z EL n0 nr kn y bytes mL ret R h0 WS Q (a :: SF) h' (k + 1) (n + cap) pc' Ls (.ref a :: st)) : Go l Z EL n0 nr kn y bytes mL ret R h0 WS Q SF h k n pc Ls (.int z :: st) := by
  intro p e s m args below meth c T hR
  obtain ⟨⟨hx, hby, hml, hown, hnm, hret, hlk, hkn⟩, vm0, k0, locs, X, e0, C⟩ := hR
  have hZ : Z.Warmed39 (s.setVm vm0).vm := C.1
  have hown' : (s.setVm vm0).vm.findClass y.cls = some m.cls := by rw [show (s.setVm vm0).vm = vm0 from rfl, C.2.1.1.1.alike.findClass]; exact hown
  obtain ⟨T', h', cA, X', e', E, AA, EE, OO, st'⟩ := Jvm.RoadKit.newRE X hx hZ hown' w1 w2 e0 (g := mkF m pc Ls (.int z :: st)) rfl (hb hby hd) rfl hz hcap hbig hc hl had
  have hlt : h.size < h'.size := AA.lt
  obtain ⟨t, o, hs, r⟩ := K h' h.size rfl C.2.2.2.2.2.2.2.1.1 cA E (Arv.new AA hz) EE OO p e s m args below meth c T' ⟨⟨hx, hby, hml, hown, hnm, hret, hlk, hkn⟩, vm0, k0, locs, X', e', C.push E hlt⟩
  exact ⟨t, o, st' _ (by subst hq; exact hs), r⟩
theorem Go.clone {index W : Nat} {ad : String} {a : Addr} {ty : FieldType} {kk : ClassId} {z : Int32} {hs0 : List (Int32 × Value)} {vs : List Value} {dv : Value} {cap : Nat} (hd : decode bytes pc = .ok (.invokevirtual index, 3)) (hq : pc + 3 = pc') (w1 : (Jvm.Cond.methodLink y.cls index ⟨ad, "clone", "()Ljava/lang/Object;"⟩).before a0 Z = true) (w2 : (Jvm.Cond.sameMethod ad "java/lang/Object" "clone" "()Ljava/lang/Object;").before a0 Z = true) (w3 : (Jvm.Cond.native ⟨"java/lang/Object", "clone", "()Ljava/lang/Object;"⟩).before a0 Z = true)
    (w4 : (Jvm.Cond.instanceMethod ⟨"java/lang/Object", "clone", "()Ljava/lang/Object;"⟩).before a0 Z = true) (w5 : (Jvm.Cond.selects ad ⟨ad, "clone", "()Ljava/lang/Object;"⟩ ⟨"java/lang/Object", "clone", "()Ljava/lang/Object;"⟩).before a0 Z = true) (w6 : (Jvm.Cond.castable ad "java/lang/Cloneable").before a0 Z = true) (F : Arh Z h a kk ty z hs0 vs dv) (E0 : Exa Z h a ad) (hsz : Ls.size = mL) (hf : 1 ≤ R.frames) (hW : (st.map fun v => v.category).sum ≤ W) (hl : W + 14 ≤ R.locals) (hcap : z.toNatClampNeg ≤ cap) (hc : k + 1 ≤ R.cells) (hsl : n + cap ≤ R.slots)
    (K : ∀ h' a, h.size = a → h0.size ≤ a → Ext h h' → Arh Z h' a kk ty z hs0 vs dv → Exa Z h' a ad → Go l Z EL n0 nr kn y bytes mL ret R h0 WS Q (a :: SF) h' (k + 1) (n + cap) pc' Ls (.ref a :: st)) : Go l Z EL n0 nr kn y bytes mL ret R h0 WS Q SF h k n pc Ls (.ref a :: st) := by
  intro p e s m args below meth c T hR
  obtain ⟨⟨hx, hby, hml, hown, hnm, hret, hlk, hkn⟩, vm0, k0, locs, X, e0, C⟩ := hR
  have hZ : Z.Warmed39 (s.setVm vm0).vm := C.1
  have hown' : (s.setVm vm0).vm.findClass y.cls = some m.cls := by rw [show (s.setVm vm0).vm = vm0 from rfl, C.2.1.1.1.alike.findClass]; exact hown
  obtain ⟨T', h', X', e', E, AA, EE, st'⟩ := Jvm.RoadKit.cloneH X hx hZ hown' w1 w2 w3 w4 w5 w6 e0 F E0 (g := mkF m pc Ls (.ref a :: st)) rfl (by rw [hml]; exact hsz) rfl (hb hby hd) hf (W := W) (cap := cap) (by show 2 * 0 + _ ≤ _; rw [Nat.mul_zero, Nat.zero_add]; exact hW) hl hcap hc hsl
  have hlt : h.size < h'.size := EE.lt
  obtain ⟨t, o, hs, r⟩ := K h' h.size rfl C.2.2.2.2.2.2.2.1.1 E AA EE p e s m args below meth c T' ⟨⟨hx, hby, hml, hown, hnm, hret, hlk, hkn⟩, vm0, k0, locs, X', e', C.push E hlt⟩
  exact ⟨t, o, st' _ (by subst hq; exact hs), r⟩
theorem Go.putF {R0 O nf d host CC : String} {index kk : Nat} {ty : FieldType} {a : Addr} {v old : Value} (hd : decode bytes pc = .ok (.putfield index, 3)) (hq : pc + 3 = pc') (ha : a ∈ SF) (w : (Jvm.Cond.fieldLink y.cls index R0 nf d).before a0 Z = true ∨ (Jvm.Cond.fieldLinkNest y.cls index R0 nf d host).before a0 Z = true) (via : Via Z R0 O nf d) (F : Fld Z h a O nf d old) (E : Exa Z h a CC) (L : (Jvm.Cond.lays CC O nf d).before a0 Z = true ∨ ((Jvm.Cond.laysFinal CC O nf d).before a0 Z = true ∧ y.cls = O ∧ y.name = "<init>")) (wi : (Jvm.Cond.instantiable CC kk).before a0 Z = true) (hty : parseFieldDescriptor d = some ty) (hn : narrow ty v = v) (hf : fits ty v = true)
    (K : ∀ h', Wr h h' a (Jvm.RoadKit.slotOf Z O nf d) v → Go l Z EL n0 nr kn y bytes mL ret R h0 WS Q SF h' k n pc' Ls st) : Go l Z EL n0 nr kn y bytes mL ret R h0 WS Q SF h k n pc Ls (v :: .ref a :: st) := by
  intro p e s m args below meth c T hR
  obtain ⟨⟨hx, hby, hml, hown, hnm, hret, hlk, hkn⟩, vm0, k0, locs, X, e0, C⟩ := hR
  have hZ : Z.Warmed39 (s.setVm vm0).vm := C.1
  have hown' : (s.setVm vm0).vm.findClass y.cls = some m.cls := by rw [show (s.setVm vm0).vm = vm0 from rfl, C.2.1.1.1.alike.findClass]; exact hown
  have L' := L.imp id (fun q => (⟨q.1, q.2.1, hnm.trans q.2.2⟩ : _ ∧ _ ∧ meth.name = "<init>"))
  obtain ⟨T', h', X', e', W', st'⟩ := Jvm.RoadKit.putF X hx hZ hown' w via e0 F E L' wi hty hn hf (g := mkF m pc Ls (v :: .ref a :: st)) rfl rfl (hb hby hd)
  obtain ⟨t, o, hs, r⟩ := K h' W' p e s m args below meth c T' ⟨⟨hx, hby, hml, hown, hnm, hret, hlk, hkn⟩, vm0, k0, _, X', e', C.wr W' ha⟩
  exact ⟨t, o, st' _ (by subst hq; exact hs), r⟩
theorem Go.putFN {R0 O nf d CC : String} {index kk : Nat} {ty : FieldType} {a : Addr} {v v' old : Value} (hd : decode bytes pc = .ok (.putfield index, 3)) (hq : pc + 3 = pc') (ha : a ∈ SF) (w : (Jvm.Cond.fieldLink y.cls index R0 nf d).before a0 Z = true) (via : Via Z R0 O nf d) (F : Fld Z h a O nf d old) (E : Exa Z h a CC) (L : (Jvm.Cond.lays CC O nf d).before a0 Z = true ∨ ((Jvm.Cond.laysFinal CC O nf d).before a0 Z = true ∧ y.cls = O ∧ y.name = "<init>")) (wi : (Jvm.Cond.instantiable CC kk).before a0 Z = true) (hty : parseFieldDescriptor d = some ty) (hn : narrow ty v = v') (hf : fits ty v' = true)
    (K : ∀ h', Wr h h' a (Jvm.RoadKit.slotOf Z O nf d) v' → Go l Z EL n0 nr kn y bytes mL ret R h0 WS Q SF h' k n pc' Ls st) : Go l Z EL n0 nr kn y bytes mL ret R h0 WS Q SF h k n pc Ls (v :: .ref a :: st) := by
  intro p e s m args below meth c T hR
  obtain ⟨⟨hx, hby, hml, hown, hnm, hret, hlk, hkn⟩, vm0, k0, locs, X, e0, C⟩ := hR
  have hZ : Z.Warmed39 (s.setVm vm0).vm := C.1
  have hown' : (s.setVm vm0).vm.findClass y.cls = some m.cls := by rw [show (s.setVm vm0).vm = vm0 from rfl, C.2.1.1.1.alike.findClass]; exact hown
  have L' := L.imp id (fun q => (⟨q.1, q.2.1, hnm.trans q.2.2⟩ : _ ∧ _ ∧ meth.name = "<init>"))
  obtain ⟨T', h', X', e', W', st'⟩ := Jvm.RoadKit.putFN X hx hZ hown' w via e0 F E L' wi hty hn hf (g := mkF m pc Ls (v :: .ref a :: st)) rfl rfl (hb hby hd)
  obtain ⟨t, o, hs, r⟩ := K h' W' p e s m args below meth c T' ⟨⟨hx, hby, hml, hown, hnm, hret, hlk, hkn⟩, vm0, k0, _, X', e', C.wr W' ha⟩
  exact ⟨t, o, st' _ (by subst hq; exact hs), r⟩
theorem Go.castore {a : Addr} {cl : Cell} {j x : Int32} (hd : decode bytes pc = .ok (.castore, 1)) (hq : pc + 1 = pc') (ha : a ∈ SF) (F : Arr Z h a cl .char) (hj : ¬ (j < 0 ∨ cl.slots.size ≤ j.toNatClampNeg))
    (K : ∀ h', Wr h h' a j.toNatClampNeg (.int (nar .char x)) → Go l Z EL n0 nr kn y bytes mL ret R h0 WS Q SF h' k n pc' Ls st) : Go l Z EL n0 nr kn y bytes mL ret R h0 WS Q SF h k n pc Ls (.int x :: .int j :: .ref a :: st) := by
  intro p e s m args below meth c T hR
  obtain ⟨⟨hx, hby, hml, hown, hnm, hret, hlk, hkn⟩, vm0, k0, locs, X, e0, C⟩ := hR
  have hZ : Z.Warmed39 (s.setVm vm0).vm := C.1
  have hown' : (s.setVm vm0).vm.findClass y.cls = some m.cls := by rw [show (s.setVm vm0).vm = vm0 from rfl, C.2.1.1.1.alike.findClass]; exact hown
  obtain ⟨T', h', X', e', W', st'⟩ := Jvm.RoadKit.stC X hx hZ e0 F hj (g := mkF m pc Ls (.int x :: .int j :: .ref a :: st)) rfl rfl (hb hby hd)
  obtain ⟨t, o, hs, r⟩ := K h' W' p e s m args below meth c T' ⟨⟨hx, hby, hml, hown, hnm, hret, hlk, hkn⟩, vm0, k0, _, X', e', C.wr W' ha⟩
  exact ⟨t, o, st' _ (by subst hq; exact hs), r⟩
theorem Go.castoreV {a : Addr} {cA : ClassId} {z j x : Int32} {vs : List Value} {dv : Value} {i : Nat} (hd : decode bytes pc = .ok (.castore, 1)) (hq : pc + 1 = pc') (ha : a ∈ SF) (F : Arv Z h a cA .char z vs dv) (hj : ¬ j < 0 ∧ j < z) (hji : j.toNatClampNeg = i) (hi : i < vs.length)
    (K : ∀ h', Wr h h' a j.toNatClampNeg (.int (nar .char x)) → Arv Z h' a cA .char z (vs.set i (.int (nar .char x))) dv → Go l Z EL n0 nr kn y bytes mL ret R h0 WS Q SF h' k n pc' Ls st) : Go l Z EL n0 nr kn y bytes mL ret R h0 WS Q SF h k n pc Ls (.int x :: .int j :: .ref a :: st) := by
  intro p e s m args below meth c T hR
  obtain ⟨⟨hx, hby, hml, hown, hnm, hret, hlk, hkn⟩, vm0, k0, locs, X, e0, C⟩ := hR
  have hZ : Z.Warmed39 (s.setVm vm0).vm := C.1
  have hown' : (s.setVm vm0).vm.findClass y.cls = some m.cls := by rw [show (s.setVm vm0).vm = vm0 from rfl, C.2.1.1.1.alike.findClass]; exact hown
  obtain ⟨cl, F, q1, S, q3, H, G⟩ := F
  obtain ⟨T', h', X', e', W', st'⟩ := Jvm.RoadKit.stC X hx hZ e0 F (inb_of S hj) (g := mkF m pc Ls (.int x :: .int j :: .ref a :: st)) rfl rfl (hb hby hd)
  obtain ⟨t, o, hs, r⟩ := K h' W' (Arv.set F q1 S q3 H G (fits_nar_char x) W' i hji hi) p e s m args below meth c T' ⟨⟨hx, hby, hml, hown, hnm, hret, hlk, hkn⟩, vm0, k0, _, X', e', C.wr W' ha⟩
  exact ⟨t, o, st' _ (by subst hq; exact hs), r⟩
theorem Go.bastore {a : Addr} {cl : Cell} {j x : Int32} (hd : decode bytes pc = .ok (.bastore, 1)) (hq : pc + 1 = pc') (ha : a ∈ SF) (F : Arr Z h a cl .byte) (hj : ¬ (j < 0 ∨ cl.slots.size ≤ j.toNatClampNeg))
    (K : ∀ h', Wr h h' a j.toNatClampNeg (.int (nar .byte x)) → Go l Z EL n0 nr kn y bytes mL ret R h0 WS Q SF h' k n pc' Ls st) : Go l Z EL n0 nr kn y bytes mL ret R h0 WS Q SF h k n pc Ls (.int x :: .int j :: .ref a :: st) := by
  intro p e s m args below meth c T hR
  obtain ⟨⟨hx, hby, hml, hown, hnm, hret, hlk, hkn⟩, vm0, k0, locs, X, e0, C⟩ := hR
  have hZ : Z.Warmed39 (s.setVm vm0).vm := C.1
  have hown' : (s.setVm vm0).vm.findClass y.cls = some m.cls := by rw [show (s.setVm vm0).vm = vm0 from rfl, C.2.1.1.1.alike.findClass]; exact hown
  obtain ⟨T', h', X', e', W', st'⟩ := Jvm.RoadKit.stB X hx hZ e0 F hj (g := mkF m pc Ls (.int x :: .int j :: .ref a :: st)) rfl rfl (hb hby hd)
  obtain ⟨t, o, hs, r⟩ := K h' W' p e s m args below meth c T' ⟨⟨hx, hby, hml, hown, hnm, hret, hlk, hkn⟩, vm0, k0, _, X', e', C.wr W' ha⟩
  exact ⟨t, o, st' _ (by subst hq; exact hs), r⟩
theorem Go.bastoreV {a : Addr} {cA : ClassId} {z j x : Int32} {vs : List Value} {dv : Value} {i : Nat} (hd : decode bytes pc = .ok (.bastore, 1)) (hq : pc + 1 = pc') (ha : a ∈ SF) (F : Arv Z h a cA .byte z vs dv) (hj : ¬ j < 0 ∧ j < z) (hji : j.toNatClampNeg = i) (hi : i < vs.length)
    (K : ∀ h', Wr h h' a j.toNatClampNeg (.int (nar .byte x)) → Arv Z h' a cA .byte z (vs.set i (.int (nar .byte x))) dv → Go l Z EL n0 nr kn y bytes mL ret R h0 WS Q SF h' k n pc' Ls st) : Go l Z EL n0 nr kn y bytes mL ret R h0 WS Q SF h k n pc Ls (.int x :: .int j :: .ref a :: st) := by
  intro p e s m args below meth c T hR
  obtain ⟨⟨hx, hby, hml, hown, hnm, hret, hlk, hkn⟩, vm0, k0, locs, X, e0, C⟩ := hR
  have hZ : Z.Warmed39 (s.setVm vm0).vm := C.1
  have hown' : (s.setVm vm0).vm.findClass y.cls = some m.cls := by rw [show (s.setVm vm0).vm = vm0 from rfl, C.2.1.1.1.alike.findClass]; exact hown
  obtain ⟨cl, F, q1, S, q3, H, G⟩ := F
  obtain ⟨T', h', X', e', W', st'⟩ := Jvm.RoadKit.stB X hx hZ e0 F (inb_of S hj) (g := mkF m pc Ls (.int x :: .int j :: .ref a :: st)) rfl rfl (hb hby hd)
  obtain ⟨t, o, hs, r⟩ := K h' W' (Arv.set F q1 S q3 H G (fits_nar_byte x) W' i hji hi) p e s m args below meth c T' ⟨⟨hx, hby, hml, hown, hnm, hret, hlk, hkn⟩, vm0, k0, _, X', e', C.wr W' ha⟩
  exact ⟨t, o, st' _ (by subst hq; exact hs), r⟩
theorem Go.aastore {a : Addr} {cl : Cell} {ty : FieldType} {j : Int32} {v : Value} (hd : decode bytes pc = .ok (.aastore, 1)) (hq : pc + 1 = pc') (ha : a ∈ SF) (F : Arr Z h a cl ty) (hj : ¬ (j < 0 ∨ cl.slots.size ≤ j.toNatClampNeg)) (hty : ty.isReference = true) (S : Sto Z h a v)
    (K : ∀ h', Wr h h' a j.toNatClampNeg v → Go l Z EL n0 nr kn y bytes mL ret R h0 WS Q SF h' k n pc' Ls st) : Go l Z EL n0 nr kn y bytes mL ret R h0 WS Q SF h k n pc Ls (v :: .int j :: .ref a :: st) := by
  intro p e s m args below meth c T hR
  obtain ⟨⟨hx, hby, hml, hown, hnm, hret, hlk, hkn⟩, vm0, k0, locs, X, e0, C⟩ := hR
  have hZ : Z.Warmed39 (s.setVm vm0).vm := C.1
  have hown' : (s.setVm vm0).vm.findClass y.cls = some m.cls := by rw [show (s.setVm vm0).vm = vm0 from rfl, C.2.1.1.1.alike.findClass]; exact hown
  obtain ⟨T', h', X', e', W', st'⟩ := Jvm.RoadKit.stR X hx hZ e0 F hj hty S (g := mkF m pc Ls (v :: .int j :: .ref a :: st)) rfl rfl (hb hby hd)
  obtain ⟨t, o, hs, r⟩ := K h' W' p e s m args below meth c T' ⟨⟨hx, hby, hml, hown, hnm, hret, hlk, hkn⟩, vm0, k0, _, X', e', C.wr W' ha⟩
  exact ⟨t, o, st' _ (by subst hq; exact hs), r⟩
theorem Go.aastoreV {a : Addr} {cA : ClassId} {ty : FieldType} {z j : Int32} {v : Value} {vs : List Value} {dv : Value} {i : Nat} (hd : decode bytes pc = .ok (.aastore, 1)) (hq : pc + 1 = pc') (ha : a ∈ SF) (F : Arv Z h a cA ty z vs dv) (hty : ty.isReference = true) (hft : fits ty v = true) (S : ∀ cl, Arr Z h a cl ty → cl.cls = cA → Sto Z h a v) (hj : ¬ j < 0 ∧ j < z) (hji : j.toNatClampNeg = i) (hi : i < vs.length)
    (K : ∀ h', Wr h h' a j.toNatClampNeg v → Arv Z h' a cA ty z (vs.set i v) dv → Go l Z EL n0 nr kn y bytes mL ret R h0 WS Q SF h' k n pc' Ls st) : Go l Z EL n0 nr kn y bytes mL ret R h0 WS Q SF h k n pc Ls (v :: .int j :: .ref a :: st) := by
  intro p e s m args below meth c T hR
  obtain ⟨⟨hx, hby, hml, hown, hnm, hret, hlk, hkn⟩, vm0, k0, locs, X, e0, C⟩ := hR
  have hZ : Z.Warmed39 (s.setVm vm0).vm := C.1
  have hown' : (s.setVm vm0).vm.findClass y.cls = some m.cls := by rw [show (s.setVm vm0).vm = vm0 from rfl, C.2.1.1.1.alike.findClass]; exact hown
  obtain ⟨cl, F, q1, S0, q3, H, G⟩ := F
  obtain ⟨T', h', X', e', W', st'⟩ := Jvm.RoadKit.stR X hx hZ e0 F (inb_of S0 hj) hty (S cl F q1) (g := mkF m pc Ls (v :: .int j :: .ref a :: st)) rfl rfl (hb hby hd)
  obtain ⟨t, o, hs, r⟩ := K h' W' (Arv.set F q1 S0 q3 H G hft W' i hji hi) p e s m args below meth c T' ⟨⟨hx, hby, hml, hown, hnm, hret, hlk, hkn⟩, vm0, k0, _, X', e', C.wr W' ha⟩
  exact ⟨t, o, st' _ (by subst hq; exact hs), r⟩
theorem Go.cpA {index W : Nat} {a b : Addr} {kk k' : ClassId} {ty ty' : FieldType} {z z' sp dp nn : Int32} {vs vd us : List Value} {dv dd : Value} (hd : decode bytes pc = .ok (.invokestatic index, 3)) (hq : pc + 3 = pc') (hb' : b ∈ SF) (w1 : (Jvm.Cond.methodLink y.cls index Jvm.Stand.acN).before a0 Z = true) (w2 : (Jvm.Cond.native Jvm.Stand.acN).before a0 Z = true) (w3 : (Jvm.Cond.static Jvm.Stand.acN).before a0 Z = true) (w4 : (Jvm.Cond.initialized "java/lang/System").before a0 Z = true)
    (AA : Arv Z h a kk ty z vs dv) (BB : Arv Z h b k' ty' z' vd dd) (hty : (ty = ty' ∧ refKind ty = false) ∨ (refKind ty = true ∧ refKind ty' = true ∧ StoL Z h b us)) (h1 : ¬ sp < 0) (h2 : ¬ dp < 0) (h3 : ¬ nn < 0) (h4 : sp.toNatClampNeg + nn.toNatClampNeg ≤ z.toNatClampNeg) (h5 : dp.toNatClampNeg + nn.toNatClampNeg ≤ z'.toNatClampNeg)
    (hus : us = (List.range nn.toNatClampNeg).map fun i => vs.getD (sp.toNatClampNeg + i) dv) (hvl : dp.toNatClampNeg + nn.toNatClampNeg ≤ vd.length) (hsz : Ls.size = mL) (hf : 1 ≤ R.frames) (hW : (st.map fun v => v.category).sum ≤ W) (hl : W + (nativeFrameWords "java/lang/System" "arraycopy" 5 + 11) ≤ R.locals)
    (K : ∀ h', Keep h h' [b] → Arv Z h' b k' ty' z' (vd.take dp.toNatClampNeg ++ us ++ vd.drop (dp.toNatClampNeg + nn.toNatClampNeg)) dd → Go l Z EL n0 nr kn y bytes mL ret R h0 WS Q SF h' k n pc' Ls st) : Go l Z EL n0 nr kn y bytes mL ret R h0 WS Q SF h k n pc Ls (.int nn :: .int dp :: .ref b :: .int sp :: .ref a :: st) := by
  intro p e s m args below meth c T hR
  obtain ⟨⟨hx, hby, hml, hown, hnm, hret, hlk, hkn⟩, vm0, k0, locs, X, e0, C⟩ := hR
  have hZ : Z.Warmed39 (s.setVm vm0).vm := C.1
  have hown' : (s.setVm vm0).vm.findClass y.cls = some m.cls := by rw [show (s.setVm vm0).vm = vm0 from rfl, C.2.1.1.1.alike.findClass]; exact hown
  have N := C.2.2.1
  have ge := (C.2.2.2.2.1 b hb').1.1
  obtain ⟨T', h', L, X', e', FL, KK, BB', st'⟩ := Jvm.RoadKit.cpA X hx hZ hown' w1 w2 w3 w4 e0 AA BB hty h1 h2 h3 h4 h5 hus hvl N ge (g := mkF m pc Ls (.int nn :: .int dp :: .ref b :: .int sp :: .ref a :: st)) rfl (by rw [hml]; exact hsz) rfl (hb hby hd) hf (W := W) (by show 2 * 0 + _ ≤ _; rw [Nat.mul_zero, Nat.zero_add]; exact hW) hl
  have hSb := (C.2.2.2.2.1 b hb').2
  have C' : Cor Z EL n0 nr h0 WS SF h' s vm0 k0 L := by
    have q := C.keep (SN := []) (L := []) KK (fun x hx => by cases List.mem_singleton.mp hx; exact hb') (Fr.nil n0) (CHr.keep KK (fun x hx => by cases List.mem_singleton.mp hx; exact hSb) C.2.2.2.1.1) C.1 C.2.1.1 (Nat.le_trans C.2.1.2 KK.1) C.2.2.2.2.2.1 (fun x hx => nomatch hx)
    exact ⟨q.1, q.2.1, FL, q.2.2.2⟩
  obtain ⟨t, o, hs, r⟩ := K h' KK BB' p e s m args below meth c T' ⟨⟨hx, hby, hml, hown, hnm, hret, hlk, hkn⟩, vm0, k0, L, X', e', C'⟩
  exact ⟨t, o, st' _ (by subst hq; exact hs), r⟩
theorem Go.ldcS {text : String} {index nn : Nat} {vs : List Value} {z : Int32} (hnr : nr = false) (hd : decode bytes pc = .ok (.ldc index, 2)) (hq : pc + 2 = pc') (w : (Jvm.Cond.stringLink y.cls index text).before a0 Z = true) (wS : ∀ a ∈ Bundle.stringAtoms, a.before a0 Z = true) (hmem : (y.cls, index) ∈ EL) (ht : (∀ c ∈ text.toList, c.toNat < 256) ∧ text.toList.map (fun c => Value.int (Jvm.Lit.byteI c.toNat.toUInt16)) = vs) (hz : ¬ z < 0) (hzl : z.toNatClampNeg = vs.length) (hn : 4 * text.toList.length ≤ nn) (hbig : nn ≤ 536870912) (hc : k + 2 ≤ R.cells) (hl : n + (nn + 4) ≤ R.slots)
    (K : ∀ h' a b kb, Ext h h' → Exa Z h' a "java/lang/String" → Fld Z h' a "java/lang/String" "coder" "B" (.int 0) → Fld Z h' a "java/lang/String" "value" "[B" (.ref b) → Arv Z h' b kb .byte z vs (.int 0) → (∀ x ∈ SF, x ≠ a ∧ x ≠ b) → Go l Z EL n0 nr kn y bytes mL ret R h0 WS Q SF h' (k + 2) (n + (nn + 4)) pc' Ls (.ref a :: st)) : Go l Z EL n0 nr kn y bytes mL ret R h0 WS Q SF h k n pc Ls st := by
  intro p e s m args below meth c T hR
  obtain ⟨⟨hx, hby, hml, hown, hnm, hret, hlk, hkn⟩, vm0, k0, locs, X, e0, C⟩ := hR
  have hZ : Z.Warmed39 (s.setVm vm0).vm := C.1
  have hown' : (s.setVm vm0).vm.findClass y.cls = some m.cls := by rw [show (s.setVm vm0).vm = vm0 from rfl, C.2.1.1.1.alike.findClass]; exact hown
  obtain ⟨c1, ⟨c2, c2'⟩, c3, c4, c5, c6, c7, c8, c9, a1, hEL⟩ := C
  have hEL' : EW Z a0 EL := fun q hq => by
    obtain ⟨tx, hx1, hx2⟩ := hEL q hq
    exact ⟨tx, (by simpa [Jvm.Cond.before, Jvm.Cond.holds, Jvm.Cond.value] using hx1), hx2⟩
  obtain ⟨a, T', h', k1, b, kb, X', e', E, hS, hk, hW, hf, E1, E2, E3, E4, -, -, hC, -, hne, st'⟩ := Jvm.RoadKit.ldcCH X hx c1 hown' w wS e0 c2 c2' hEL' hmem c4.1 ht hz hzl (g := mkF m pc Ls st) rfl (hb hby hd) hn hbig hc hl
  have C' : Cor Z EL n0 nr h0 WS SF h' s T'.vm k1 locs := by
    refine ⟨hW, ⟨hS, hk⟩, c3, c4.trans hC, fun x hx => ⟨⟨(c5 x hx).1.1, Nat.lt_of_lt_of_le (c5 x hx).1.2.1 E.1, (c5 x hx).1.2.2⟩, hC.safe (c5 x hx).1.2.1 (c5 x hx).2⟩, (fun q => by rw [hnr] at q; cases q), ⟨c7.1, Nat.le_trans c7.2.1 E.1, fun a c q => E.2 a c (c7.2.2 a c q)⟩, c8.ext E, c9, a1, hEL⟩
  obtain ⟨t, o, hs, r⟩ := K h' a b kb E E1 E2 E3 E4 (fun x hx => hne x (C'.2.2.2.2.1 x hx).2) p e s m args below meth c T' ⟨⟨hx, hby, hml, hown, hnm, hret, hlk, hkn⟩, T'.vm, k1, locs, X', e', C'⟩
  exact ⟨t, o, st' _ (by subst hq; exact hs), r⟩
theorem Go.ldcO {text : String} {index nn : Nat} (hnr : nr = false) (hd : decode bytes pc = .ok (.ldc index, 2)) (hq : pc + 2 = pc') (w : (Jvm.Cond.stringLink y.cls index text).before a0 Z = true) (wS : ∀ a ∈ Bundle.stringAtoms, a.before a0 Z = true) (hn : 4 * text.toList.length ≤ nn) (hbig : nn ≤ 536870912) (hc : k + 2 ≤ R.cells) (hl : n + (nn + 4) ≤ R.slots)
    (K : ∀ h' a, Ext h h' → Go l Z EL n0 nr kn y bytes mL ret R h0 WS Q SF h' (k + 2) (n + (nn + 4)) pc' Ls (.ref a :: st)) : Go l Z EL n0 nr kn y bytes mL ret R h0 WS Q SF h k n pc Ls st := by
  intro p e s m args below meth c T hR
  obtain ⟨⟨hx, hby, hml, hown, hnm, hret, hlk, hkn⟩, vm0, k0, locs, X, e0, C⟩ := hR
  have hZ : Z.Warmed39 (s.setVm vm0).vm := C.1
  have hown' : (s.setVm vm0).vm.findClass y.cls = some m.cls := by rw [show (s.setVm vm0).vm = vm0 from rfl, C.2.1.1.1.alike.findClass]; exact hown
  obtain ⟨c1, ⟨c2, c2'⟩, c3, c4, c5, c6, c7, c8, c9, a1, hEL⟩ := C
  have hEL' : EW Z a0 EL := fun q hq => by
    obtain ⟨tx, hx1, hx2⟩ := hEL q hq
    exact ⟨tx, (by simpa [Jvm.Cond.before, Jvm.Cond.holds, Jvm.Cond.value] using hx1), hx2⟩
  obtain ⟨a, T', h', k1, X', e', E, hS, hk, hW, hf, hC, -, st'⟩ := Jvm.RoadKit.ldcOH X hx c1 hown' w wS e0 c2 c2' hEL' c4.1 (g := mkF m pc Ls st) rfl (hb hby hd) hn hbig hc hl
  have C' : Cor Z EL n0 nr h0 WS SF h' s T'.vm k1 locs := by
    refine ⟨hW, ⟨hS, hk⟩, c3, c4.trans hC, fun x hx => ⟨⟨(c5 x hx).1.1, Nat.lt_of_lt_of_le (c5 x hx).1.2.1 E.1, (c5 x hx).1.2.2⟩, hC.safe (c5 x hx).1.2.1 (c5 x hx).2⟩, (fun q => by rw [hnr] at q; cases q), ⟨c7.1, Nat.le_trans c7.2.1 E.1, fun a c q => E.2 a c (c7.2.2 a c q)⟩, c8.ext E, c9, a1, hEL⟩
  obtain ⟨t, o, hs, r⟩ := K h' a E p e s m args below meth c T' ⟨⟨hx, hby, hml, hown, hnm, hret, hlk, hkn⟩, T'.vm, k1, locs, X', e', C'⟩
  exact ⟨t, o, st' _ (by subst hq; exact hs), r⟩
theorem Go.tsw {i : Int32} {dflt low high : Int} {offs : Array Int} {len : Nat} {o : Int} (hd : decode bytes pc = .ok (.tableswitch dflt low high offs, len)) (hin : ¬ (i.toInt < low ∨ i.toInt > high)) (hoff : offs[(i.toInt - low).toNat]? = some o) (ho : 0 ≤ (pc : Int) + o) (hq : ((pc : Int) + o).toNat = pc') (K : Go l Z EL n0 nr kn y bytes mL ret R h0 WS Q SF h k n pc' Ls st) : Go l Z EL n0 nr kn y bytes mL ret R h0 WS Q SF h k n pc Ls (.int i :: st) :=
  Go.plain (fun p e below T m c target hA hx hb hk => XS.tswIn hA hx rfl (pc0 := pc) (pc' := pc') rfl (hb ▸ hd) rfl hin hoff ho hq hk) K
theorem Go.retV (hd : decode bytes pc = .ok (.return_, 1)) (hr0 : ret = none) (hk : k ≤ R.cells) (hn : n ≤ R.slots) (SN : List Addr) (hSN : ∀ x ∈ SN, x ∈ SF ∧ h0.size ≤ x) (hQ : Q none h SN) : Go l Z EL n0 nr kn y bytes mL ret R h0 WS Q SF h k n pc Ls [] := by
  intro p e s m args below meth c T hR
  obtain ⟨⟨hx, hby, hml, hown, hnm, hret, hlk, hkn⟩, vm0, k0, locs, X, e0, C⟩ := hR
  have hZ : Z.Warmed39 (s.setVm vm0).vm := C.1
  have hown' : (s.setVm vm0).vm.findClass y.cls = some m.cls := by rw [show (s.setVm vm0).vm = vm0 from rfl, C.2.1.1.1.alike.findClass]; exact hown
  obtain ⟨c1, ⟨c2, c2'⟩, c3, c4, c5, c6, c7, c8, c9, a1, hEL⟩ := C
  obtain ⟨fs, hr, hrun, hended, hE⟩ := X.leaveW c2 (by rw [e0]; exact c2') (v := none) (fun _ => rfl) hlk
  have A1 := CHv.at X c1 hEL c4.1
  refine ⟨_, _, X.returnOut hx (hret.trans hr0) (hb hby hd) hr, hrun, hended, _, locs, SN, rfl, by show Q _ T.heap SN; rw [e0]; exact hQ, c3, by show Keep h0 T.heap WS; rw [e0]; exact c8, fun x hx => ?_, ?_, fun q => State.WarmedH.trans (t := s.setVm vm0) (c6 q) X.warmed, ⟨hE.1, hE.2.1, hE.2.2.1, hE.2.2.2.mono hk hn⟩⟩
  · show (h0.size ≤ x ∧ x < T.heap.size) ∧ Safe Z EL T.vm T.heap x
    rw [e0]
    exact ⟨⟨(hSN x hx).2, (c5 x (hSN x hx).1).1.2.1⟩, A1.safe (c5 x (hSN x hx).1).1.2.1 (c5 x (hSN x hx).1).2⟩
  · show CHr Z EL s.vm h0 T.vm T.heap
    rw [e0]
    exact c4.trans A1
theorem Go.retW {v : Value} {ty : FieldType} {i : Instr} (hd : decode bytes pc = .ok (i, 1)) (hr0 : ret = some ty) (hnw : narrow ty v = v) (hi : (i = .ireturn ∧ (ty = .int ∨ ty = .boolean ∨ ty = .byte ∨ ty = .char ∨ ty = .short) ∧ ∃ z, v = .int z) ∨ (i = .lreturn ∧ ty = .long ∧ ∃ z, v = .long z) ∨ (i = .dreturn ∧ ty = .double ∧ ∃ z, v = .double z) ∨ (i = .freturn ∧ ty = .float ∧ ∃ z, v = .float z) ∨ (i = .areturn ∧ ty.isReference = true ∧ v.isRef = true)) (hk : k ≤ R.cells) (hn : n ≤ R.slots) (SN : List Addr) (hSN : ∀ x ∈ SN, x ∈ SF ∧ h0.size ≤ x) (hQ : Q (some v) h SN) : Go l Z EL n0 nr kn y bytes mL ret R h0 WS Q SF h k n pc Ls (v :: st) := by
  intro p e s m args below meth c T hR
  obtain ⟨⟨hx, hby, hml, hown, hnm, hret, hlk, hkn⟩, vm0, k0, locs, X, e0, C⟩ := hR
  have hZ : Z.Warmed39 (s.setVm vm0).vm := C.1
  have hown' : (s.setVm vm0).vm.findClass y.cls = some m.cls := by rw [show (s.setVm vm0).vm = vm0 from rfl, C.2.1.1.1.alike.findClass]; exact hown
  obtain ⟨c1, ⟨c2, c2'⟩, c3, c4, c5, c6, c7, c8, c9, a1, hEL⟩ := C
  obtain ⟨fs, hr, hrun, hended, hE⟩ := X.leaveW c2 (by rw [e0]; exact c2') (v := some v) (fun q => by rw [hret, hr0] at q; cases q) hlk
  have A1 := CHv.at X c1 hEL c4.1
  refine ⟨_, _, Jvm.RoadKit.retOut X hx (hret.trans hr0) hnw hi (hb hby hd) hr, hrun, hended, _, locs, SN, rfl, by show Q _ T.heap SN; rw [e0]; exact hQ, c3, by show Keep h0 T.heap WS; rw [e0]; exact c8, fun x hx => ?_, ?_, fun q => State.WarmedH.trans (t := s.setVm vm0) (c6 q) X.warmed, ⟨hE.1, hE.2.1, hE.2.2.1, hE.2.2.2.mono hk hn⟩⟩
  · show (h0.size ≤ x ∧ x < T.heap.size) ∧ Safe Z EL T.vm T.heap x
    rw [e0]
    exact ⟨⟨(hSN x hx).2, (c5 x (hSN x hx).1).1.2.1⟩, A1.safe (c5 x (hSN x hx).1).1.2.1 (c5 x (hSN x hx).1).2⟩
  · show CHr Z EL s.vm h0 T.vm T.heap
    rw [e0]
    exact c4.trans A1
theorem Go.retI {z : Int32} (hd : decode bytes pc = .ok (.ireturn, 1)) (hr0 : ret = some .int) (hk : k ≤ R.cells) (hn : n ≤ R.slots) (SN : List Addr) (hSN : ∀ x ∈ SN, x ∈ SF ∧ h0.size ≤ x) (hQ : Q (some (.int z)) h SN) : Go l Z EL n0 nr kn y bytes mL ret R h0 WS Q SF h k n pc Ls (.int z :: st) :=
  Go.retW hd hr0 rfl (Or.inl ⟨rfl, Or.inl rfl, z, rfl⟩) hk hn SN hSN hQ
theorem Go.retA {v : Value} {ty : FieldType} (hd : decode bytes pc = .ok (.areturn, 1)) (hr0 : ret = some ty) (hty : ty.isReference = true) (hv : v.isRef = true) (hk : k ≤ R.cells) (hn : n ≤ R.slots) (SN : List Addr) (hSN : ∀ x ∈ SN, x ∈ SF ∧ h0.size ≤ x) (hQ : Q (some v) h SN) : Go l Z EL n0 nr kn y bytes mL ret R h0 WS Q SF h k n pc Ls (v :: st) :=
  Go.retW hd hr0 (by cases ty <;> first | (cases hty; done) | (rcases ref_cases hv with rfl | ⟨a, rfl⟩ <;> rfl)) (Or.inr (Or.inr (Or.inr (Or.inr ⟨rfl, hty, hv⟩)))) hk hn SN hSN hQ
theorem Go.retS {z : Int32} {ty : FieldType} (hd : decode bytes pc = .ok (.ireturn, 1)) (hr0 : ret = some ty) (hty : ty = .boolean ∨ ty = .byte ∨ ty = .char ∨ ty = .short) (hnw : narrow ty (.int z) = .int z) (hk : k ≤ R.cells) (hn : n ≤ R.slots) (SN : List Addr) (hSN : ∀ x ∈ SN, x ∈ SF ∧ h0.size ≤ x) (hQ : Q (some (.int z)) h SN) : Go l Z EL n0 nr kn y bytes mL ret R h0 WS Q SF h k n pc Ls (.int z :: st) :=
  Go.retW hd hr0 hnw (Or.inl ⟨rfl, Or.inr hty, z, rfl⟩) hk hn SN hSN hQ
theorem Met.of_go {as' : Array Value} (hpl : plainFor y = true) (hef : ∀ m, entryFrame m as' mL = mkF m 0 Ls []) (G : (Z.heap.size = n0 ∧ Ext Z.heap h0) → (∀ x ∈ WS, n0 ≤ x ∧ x < h0.size) → Go l Z EL n0 nr kn y bytes mL ret R h0 WS Q WS h0 0 0 0 Ls []) : Met l Z EL n0 nr kn y bytes mL ret R WS as' h0 Q := by
  intro ws
  refine MetFree.of_bodySF hpl hisR ?_
  intro p e s m args below meth c s₁ Bd hml0 hP hK
  obtain ⟨rfl, hZ, hh, hC, hS, hO, hEL⟩ := hP
  have X0 : Stand p l e R s m args below meth c s₁ [] 0 0 := Stand.of_body Bd
  have e0 : s₁.heap = h0 := by rw [← hh, Bd.state]; rfl
  have hnm := (name_of_methodNamed Bd.named Bd.method).1
  rw [hef m]
  exact G hO (fun x hx => (hS x hx).1) p e s m args below meth c s₁ ⟨⟨Bd.exec, Bd.bytes, hml0, findClass_of_methodNamed Bd.named, hnm, Bd.returns, BodyLoose.notSynchronized Bd, hK⟩, s.vm, 0, [], X0, e0,
    hZ, ⟨(State.WarmedH.refl s).since 0, Nat.zero_le _⟩, Fr.nil n0, CHr.refl hC, fun x hx => ⟨⟨(hS x hx).1.1, (hS x hx).1.2, Or.inl hx⟩, (hS x hx).2⟩, fun _ => State.WarmedH.refl s, hO, Keep.refl _ _, hh, hEL⟩
theorem Pays.of_met {z : MethodName} {zb : ByteArray} {zL : Nat} {zr : Option FieldType} {rm : Room} {len W : Nat} {ws : List Addr} {as' : Array Value} {Q' : Option Value → Heap → List Addr → Prop} (M : Met l Z EL n0 nr kn z zb zL zr rm ws as' h Q') (wc : (Jvm.Cond.code z zb zL zr).before a0 Z = true) (wz : (Jvm.Cond.initialized z.cls).before a0 Z = true) (hf : rm.frames + 1 ≤ R.frames) (hl : W + (zL + 11) + rm.locals ≤ R.locals) :
    Pays l Z EL n0 nr kn R len z W rm.cells rm.slots ws as' h Q' := by
  intro p e below s args vm0 hx hZ hC hS hO hEL hkn
  obtain ⟨a1, hE1⟩ := hEL
  refine BackS.of_freeWG (bytes := zb) (maxL := zL) (ret := zr) (E := fun _ first o t L kk nn => kk = rm.cells ∧ nn = rm.slots ∧ ∃ v SN, o = .returned v ∧ Q' v t.heap SN ∧ Fr n0 L ∧ Keep h t.heap ws ∧ (∀ x ∈ SN, (h.size ≤ x ∧ x < t.heap.size) ∧ Safe Z EL t.vm t.heap x) ∧ CHr Z EL first.vm h t.vm t.heap ∧ (nr = true → first.WarmedH t.vm)) (M []) hf hl ?_ ?_ ?_ ?_ ?_
  · intro m meth c A a Y hp
    have hU : Z.Warmed39 A.U.vm := wtrans (s := s.setVm vm0) hZ Y.warmed
    exact ⟨by show (Jvm.Cond.and _ .tt).before a A.U = true; rw [Cond.before_and, mv hU wc]; rfl, mv hU wc, mv hU wz, hp.2.2.1, hp.2.2.2⟩
  · intro m meth c A a g mk Y hp
    have A1 := CHv.at Y hZ hE1 hC
    exact ⟨hp.1, wtrans (s := s.setVm vm0) hZ Y.warmed, hp.2.1, A1.1, fun x hx => ⟨(hS x hx).1, A1.safe (hS x hx).1.2 (hS x hx).2⟩, hO, a1, hE1⟩
  · intro m meth c A a g mk Y hp hg q
    exact known_frames Y hg (hkn q).1 (hkn q).2
  · rintro a first o t ⟨v, L, SN, h1, h2, h3, h4, h5, h6, h7, h8⟩
    exact ⟨L, _, _, h8, rfl, rfl, v, SN, h1, h2, h3, h4, h5, h6, h7⟩
  · rintro m meth c A a g mk v t L kk nn Y hp - - ⟨e1, e2, v', SN, e3, e4, e5, e6, e7, e8, e9⟩
    cases e3
    subst e1 e2
    exact ⟨L, SN, e4, e5, e6, e7, (CHv.at Y hZ hE1 hC).trans e8, fun q => State.WarmedH.trans (t := A.U) Y.warmed (e9 q), rfl, rfl, rfl⟩
theorem Pays.of_back {z : MethodName} {len W ck cn : Nat} {ws : List Addr} {as' : Array Value} {Q' : Option Value → Heap → List Addr → Prop}
    (B : ∀ (p : Program) (e : Env) (below : List Frame) (s : State) (args : Array Value), p.tables.exec = Jvm.exec → Z.Warmed39 s.vm → (Z.heap.size = n0 ∧ Ext Z.heap h) → (∀ x ∈ ws, n0 ≤ x ∧ x < h.size) → Back l R p e below s args z len W (fun A a => a = as' ∧ A.U.heap = h ∧ A.cells + ck ≤ R.cells ∧ A.slots + cn ≤ R.slots) (fun A _ v B => ∃ L, Q' v B.U.heap [] ∧ Fr n0 L ∧ Keep h B.U.heap ws ∧ B.locs = A.locs ++ L ∧ B.cells = A.cells + ck ∧ B.slots = A.slots + cn)) :
    Pays l Z EL n0 nr kn R len z W ck cn ws as' h Q' := by
  intro p e below s args vm0 hx hZ hC hS hO hEL hkn
  obtain ⟨a1, hE1⟩ := hEL
  intro m meth c A g ig mk a X hg hsize hdg hW hn hp
  obtain ⟨v, B', X', ⟨L, q1, q2, q3, q4, q5, q6⟩, hst⟩ := B p e below (s.setVm vm0) args hx hZ hO (fun x hx => (hS x hx).1) m meth c A g ig mk a X hg hsize hdg hW hn hp
  have A1 : CHr Z EL vm0 h vm0 B'.U.heap := CHr.keep q3 (fun x hx => (hS x hx).2) hC
  have A2 := CHv.at X' hZ hE1 A1.1
  exact ⟨v, B', X'.retabled X'.warmed.wide, X'.warmed.since _, by rw [hp.2.1]; exact q3.1, ⟨L, [], q1, q2, q3, fun x hx => (nomatch hx), A1.trans A2, fun _ => X'.warmed, q4, q5, q6⟩, hst⟩
theorem Go.after {p : Program} {e : Env} {m : MethodId} {args : Array Value} {below : List Frame} {meth : Method} {c : Code} {T : State} {len ck cn : Nat} {ws : List Addr} {as' : Array Value} {Q' : Option Value → Heap → List Addr → Prop} {s₀ : State}
    (hA : p.tables.exec = Jvm.exec ∧ c.code = bytes ∧ c.maxLocals = mL ∧ s.vm.findClass y.cls = some m.cls ∧ meth.name = y.name ∧ meth.sig.returnType = ret ∧ meth.locks = false ∧ (kn = true → s.vm.MethodsKnown ∧ s.vm.FramesKnown below)) (e0 : T.heap = h) (C : Cor Z EL n0 nr h0 WS SF h s vm0 k0 locs) (hws : ∀ x ∈ ws, x ∈ SF)
    (H : ∃ (v : Option Value) (vm₁ : Vm) (B : Pt), (s.setVm vm0).WarmedH vm₁ ∧ Stand p l e R ((s.setVm vm0).setVm B.U.vm) m args below meth c B.U B.locs B.cells B.slots ∧ (s.setVm vm0).Since B.U.vm B.U.heap.size ∧ T.heap.size ≤ B.U.heap.size ∧ (∃ L SN, Q' v B.U.heap SN ∧ Fr n0 L ∧ Keep h B.U.heap ws ∧ (∀ x ∈ SN, (h.size ≤ x ∧ x < B.U.heap.size) ∧ Safe Z EL B.U.vm B.U.heap x) ∧ CHr Z EL vm0 h B.U.vm B.U.heap ∧ (nr = true → (s.setVm vm0).WarmedH B.U.vm) ∧ B.locs = locs ++ L ∧ B.cells = k + ck ∧ B.slots = n + cn) ∧
      Steps p.tables e below s₀ (B.U.setTop { mkF m pc Ls st with pc := pc + len, stack := v.toList ++ rest }))
    (hq : pc + len = pc') (K : ∀ v h' SN, Keep h h' ws → h0.size ≤ h.size → Q' v h' SN → Go l Z EL n0 nr kn y bytes mL ret R h0 WS Q (SN ++ SF) h' (k + ck) (n + cn) pc' Ls (v.toList ++ rest)) : ∃ t o, Steps p.tables e below s₀ t ∧ t.status = .running ∧ Ended t below o ∧ Pst Z EL n0 nr R h0 WS Q s o t := by
  obtain ⟨v, vm₁, ⟨T', L', kk, nn⟩, -, X', hS, hle, ⟨L, SN, h1, h2, h3, h4, h5, h6, h7, h8, h9⟩, hst⟩ := H
  dsimp only [Pt.U, Pt.locs, Pt.cells, Pt.slots] at X' hS hle h1 h3 h4 h5 h6 h7 h8 h9 hst
  subst h7 h8 h9 hq
  obtain ⟨t, o, hs, r⟩ := K v T'.heap SN h3 C.2.2.2.2.2.2.2.1.1 h1 p e s m args below meth c T' ⟨hA, T'.vm, T'.heap.size, _, X', rfl, C.keep h3 hws h2 h5 (State.Warmed39.trans (t := s.setVm vm0) C.1 hS.1) (C.2.1.1.trans hS (Nat.le_trans C.2.1.2 h3.1)) (Nat.le_refl _) (fun q => State.WarmedH.trans (t := s.setVm vm0) (C.2.2.2.2.2.1 q) (h6 q)) h4⟩
  exact ⟨t, o, hst.trans hs, r⟩
theorem Go.callS {ck cn W : Nat} {ws : List Addr} {as' : Array Value} {Q' : Option Value → Heap → List Addr → Prop} {index : Nat} {z : MethodName} {zb : ByteArray} {zL : Nat} {zr : Option FieldType} {argsL : List Value} (hd : decode bytes pc = .ok (.invokestatic index, 3)) (hq : pc + 3 = pc') (w1 : (Jvm.Cond.methodLink y.cls index z).before a0 Z = true) (w2 : (Jvm.Cond.static z).before a0 Z = true) (w3 : (Jvm.Cond.initialized z.cls).before a0 Z = true) (w4 : (Jvm.Cond.code z zb zL zr).before a0 Z = true) (hy : z.cls ≠ "java/lang/invoke/MethodHandle" ∧ z.cls ≠ "java/lang/invoke/VarHandle") (PP : Pays l Z EL n0 nr kn R 3 z W ck cn ws as' h Q') (hsz : Ls.size = mL) (hst : st = argsL.reverse ++ rest) (hlen : ∀ sig, parseMethodDescriptor z.desc = some sig → argsL.length = sig.parameters.length) (has : argsL.toArray = as') (hW : (rest.map fun v => v.category).sum ≤ W) (hws : ∀ x ∈ ws, x ∈ SF) (hc : k + ck ≤ R.cells) (hl : n + cn ≤ R.slots)
    (K : ∀ v h' SN, Keep h h' ws → h0.size ≤ h.size → Q' v h' SN → Go l Z EL n0 nr kn y bytes mL ret R h0 WS Q (SN ++ SF) h' (k + ck) (n + cn) pc' Ls (v.toList ++ rest)) : Go l Z EL n0 nr kn y bytes mL ret R h0 WS Q SF h k n pc Ls st := by
  intro p e s m args below meth c T hR
  obtain ⟨⟨hx, hby, hml, hown, hnm, hret, hlk, hkn⟩, vm0, k0, locs, X, e0, C⟩ := hR
  have hZ : Z.Warmed39 (s.setVm vm0).vm := C.1
  have hown' : (s.setVm vm0).vm.findClass y.cls = some m.cls := by rw [show (s.setVm vm0).vm = vm0 from rfl, C.2.1.1.1.alike.findClass]; exact hown
  have hBK := PP p e below s args vm0 hx C.1 C.2.2.2.1.1 (fun x hx => ⟨⟨(C.2.2.2.2.1 x (hws x hx)).1.1, (C.2.2.2.2.1 x (hws x hx)).1.2.1⟩, (C.2.2.2.2.1 x (hws x hx)).2⟩) C.2.2.2.2.2.2.1 C.2.2.2.2.2.2.2.2.2 (fun q => ⟨Vm.MethodsKnown.alikeC C.2.1.1.1.alike (hkn q).1, Vm.FramesKnown.alikeC C.2.1.1.1.alike (hkn q).2⟩)
  refine Go.after (st := st) (args := args) (ck := ck) (cn := cn) (ws := ws) (as' := as') (Q' := Q') (rest := rest) ⟨hx, hby, hml, hown, hnm, hret, hlk, hkn⟩ e0 C hws ?_ hq K
  exact callSS X hx (y := z) hown' (mvT hZ w1) (mvT hZ w2) (mvT hZ w3) (mvT hZ w4) hy hBK (g := mkF m pc Ls st) rfl (by rw [hml]; exact hsz) (argsL := argsL) (rest := rest) hlen hst (by show 2 * 0 + _ ≤ _; rw [Nat.mul_zero, Nat.zero_add]; exact hW) (hb hby hd) (fun _ _ => ⟨has, e0, hc, hl⟩)
theorem Go.callI {ck cn W : Nat} {ws : List Addr} {as' : Array Value} {Q' : Option Value → Heap → List Addr → Prop} {index : Nat} {z : MethodName} {zb : ByteArray} {zL : Nat} {a : Addr} {argsL : List Value} (hd : decode bytes pc = .ok (.invokespecial index, 3)) (hq : pc + 3 = pc') (hi : z.name = "<init>") (w1 : (Jvm.Cond.methodLink y.cls index z).before a0 Z = true) (w2 : (Jvm.Cond.instanceMethod z).before a0 Z = true) (w4 : (Jvm.Cond.code z zb zL none).before a0 Z = true) (hy : z.cls ≠ "java/lang/invoke/MethodHandle" ∧ z.cls ≠ "java/lang/invoke/VarHandle") (PP : Pays l Z EL n0 nr kn R 3 z W ck cn ws as' h Q') (hsz : Ls.size = mL) (hst : st = argsL.reverse ++ .ref a :: rest) (hlen : ∀ sig, parseMethodDescriptor z.desc = some sig → argsL.length = sig.parameters.length) (has : (.ref a :: argsL).toArray = as') (hW : (rest.map fun v => v.category).sum ≤ W) (hws : ∀ x ∈ ws, x ∈ SF) (hc : k + ck ≤ R.cells) (hl : n + cn ≤ R.slots)
    (K : ∀ v h' SN, Keep h h' ws → h0.size ≤ h.size → Q' v h' SN → Go l Z EL n0 nr kn y bytes mL ret R h0 WS Q (SN ++ SF) h' (k + ck) (n + cn) pc' Ls (v.toList ++ rest)) : Go l Z EL n0 nr kn y bytes mL ret R h0 WS Q SF h k n pc Ls st := by
  intro p e s m args below meth c T hR
  obtain ⟨⟨hx, hby, hml, hown, hnm, hret, hlk, hkn⟩, vm0, k0, locs, X, e0, C⟩ := hR
  have hZ : Z.Warmed39 (s.setVm vm0).vm := C.1
  have hown' : (s.setVm vm0).vm.findClass y.cls = some m.cls := by rw [show (s.setVm vm0).vm = vm0 from rfl, C.2.1.1.1.alike.findClass]; exact hown
  have hBK := PP p e below s args vm0 hx C.1 C.2.2.2.1.1 (fun x hx => ⟨⟨(C.2.2.2.2.1 x (hws x hx)).1.1, (C.2.2.2.2.1 x (hws x hx)).1.2.1⟩, (C.2.2.2.2.1 x (hws x hx)).2⟩) C.2.2.2.2.2.2.1 C.2.2.2.2.2.2.2.2.2 (fun q => ⟨Vm.MethodsKnown.alikeC C.2.1.1.1.alike (hkn q).1, Vm.FramesKnown.alikeC C.2.1.1.1.alike (hkn q).2⟩)
  refine Go.after (st := st) (args := args) (ck := ck) (cn := cn) (ws := ws) (as' := as') (Q' := Q') (rest := rest) ⟨hx, hby, hml, hown, hnm, hret, hlk, hkn⟩ e0 C hws ?_ hq K
  exact X.specialBackS hx (y := z) hi hown' (mvT hZ w1) (mvT hZ w2) (mvT hZ w4) hy hBK (g := mkF m pc Ls st) rfl (by rw [hml]; exact hsz) (Steps.refl _) (a := a) (argsL := argsL) (rest := rest) hlen hst (by show 2 * 0 + _ ≤ _; rw [Nat.mul_zero, Nat.zero_add]; exact hW) (hb hby hd) (fun _ _ => ⟨has, e0, hc, hl⟩)
theorem Go.callV {ck cn W : Nat} {ws : List Addr} {as' : Array Value} {Q' : Option Value → Heap → List Addr → Prop} {index : Nat} {u z : MethodName} {CC : String} {a : Addr} {argsL : List Value} (hd : decode bytes pc = .ok (.invokevirtual index, 3)) (hq : pc + 3 = pc') (w1 : (Jvm.Cond.methodLink y.cls index u).before a0 Z = true) (w2 : (Jvm.Cond.declares u).before a0 Z = true) (hnf : ∀ (s : State), Z.Warmed39 s.vm → NotFace s u) (w3 : (Jvm.Cond.selects CC u z).before a0 Z = true) (w4 : (Jvm.Cond.instanceMethod z).before a0 Z = true) (hy : u.cls ≠ "java/lang/invoke/MethodHandle" ∧ u.cls ≠ "java/lang/invoke/VarHandle") (E : Exa Z h a CC) (PP : Pays l Z EL n0 nr kn R 3 z W ck cn ws as' h Q') (hsz : Ls.size = mL) (hst : st = argsL.reverse ++ .ref a :: rest) (hlen : ∀ sig, parseMethodDescriptor u.desc = some sig → argsL.length = sig.parameters.length) (has : (.ref a :: argsL).toArray = as') (hW : (rest.map fun v => v.category).sum ≤ W) (hws : ∀ x ∈ ws, x ∈ SF) (hc : k + ck ≤ R.cells) (hl : n + cn ≤ R.slots)
    (K : ∀ v h' SN, Keep h h' ws → h0.size ≤ h.size → Q' v h' SN → Go l Z EL n0 nr kn y bytes mL ret R h0 WS Q (SN ++ SF) h' (k + ck) (n + cn) pc' Ls (v.toList ++ rest)) : Go l Z EL n0 nr kn y bytes mL ret R h0 WS Q SF h k n pc Ls st := by
  intro p e s m args below meth c T hR
  obtain ⟨⟨hx, hby, hml, hown, hnm, hret, hlk, hkn⟩, vm0, k0, locs, X, e0, C⟩ := hR
  have hZ : Z.Warmed39 (s.setVm vm0).vm := C.1
  have hown' : (s.setVm vm0).vm.findClass y.cls = some m.cls := by rw [show (s.setVm vm0).vm = vm0 from rfl, C.2.1.1.1.alike.findClass]; exact hown
  have hBK := PP p e below s args vm0 hx C.1 C.2.2.2.1.1 (fun x hx => ⟨⟨(C.2.2.2.2.1 x (hws x hx)).1.1, (C.2.2.2.2.1 x (hws x hx)).1.2.1⟩, (C.2.2.2.2.1 x (hws x hx)).2⟩) C.2.2.2.2.2.2.1 C.2.2.2.2.2.2.2.2.2 (fun q => ⟨Vm.MethodsKnown.alikeC C.2.1.1.1.alike (hkn q).1, Vm.FramesKnown.alikeC C.2.1.1.1.alike (hkn q).2⟩)
  obtain ⟨cB, kB, qa, qb, qc⟩ := isOf hZ e0 E
  refine Go.after (st := st) (args := args) (ck := ck) (cn := cn) (ws := ws) (as' := as') (Q' := Q') (rest := rest) ⟨hx, hby, hml, hown, hnm, hret, hlk, hkn⟩ e0 C hws ?_ hq K
  exact X.virtualBackS hx (y := u) (z := z) hown' (mvT hZ w1) (mvT hZ w2) (hnf _ hZ) (mvT hZ w3) (mvT hZ w4) hy hBK qa qc (g := mkF m pc Ls st) rfl (by rw [hml]; exact hsz) (Steps.refl _) (argsL := argsL) (rest := rest) hlen hst (by show 2 * 0 + _ ≤ _; rw [Nat.mul_zero, Nat.zero_add]; exact hW) (hb hby hd) (fun _ _ => ⟨has, e0, hc, hl⟩)
theorem Go.callU {ck cn W : Nat} {ws : List Addr} {as' : Array Value} {Q' : Option Value → Heap → List Addr → Prop} {index : Nat} {u z : MethodName} {CC owner : String} {a : Addr} {argsL : List Value} (hd : decode bytes pc = .ok (.invokevirtual index, 3)) (hq : pc + 3 = pc') (w1 : (Jvm.Cond.methodLink y.cls index u).before a0 Z = true) (w5 : (Jvm.Cond.sameMethod u.cls owner u.name u.desc).before a0 Z = true) (w2 : (Jvm.Cond.declares ⟨owner, u.name, u.desc⟩).before a0 Z = true) (ho : owner ≠ "java/lang/invoke/MethodHandle" ∧ owner ≠ "java/lang/invoke/VarHandle") (w3 : (Jvm.Cond.selects CC u z).before a0 Z = true) (w4 : (Jvm.Cond.instanceMethod z).before a0 Z = true) (E : Exa Z h a CC) (PP : Pays l Z EL n0 nr kn R 3 z W ck cn ws as' h Q') (hsz : Ls.size = mL) (hst : st = argsL.reverse ++ .ref a :: rest) (hlen : ∀ sig, parseMethodDescriptor u.desc = some sig → argsL.length = sig.parameters.length) (has : (.ref a :: argsL).toArray = as') (hW : (rest.map fun v => v.category).sum ≤ W) (hws : ∀ x ∈ ws, x ∈ SF) (hc : k + ck ≤ R.cells) (hl : n + cn ≤ R.slots)
    (K : ∀ v h' SN, Keep h h' ws → h0.size ≤ h.size → Q' v h' SN → Go l Z EL n0 nr kn y bytes mL ret R h0 WS Q (SN ++ SF) h' (k + ck) (n + cn) pc' Ls (v.toList ++ rest)) : Go l Z EL n0 nr kn y bytes mL ret R h0 WS Q SF h k n pc Ls st := by
  intro p e s m args below meth c T hR
  obtain ⟨⟨hx, hby, hml, hown, hnm, hret, hlk, hkn⟩, vm0, k0, locs, X, e0, C⟩ := hR
  have hZ : Z.Warmed39 (s.setVm vm0).vm := C.1
  have hown' : (s.setVm vm0).vm.findClass y.cls = some m.cls := by rw [show (s.setVm vm0).vm = vm0 from rfl, C.2.1.1.1.alike.findClass]; exact hown
  have hBK := PP p e below s args vm0 hx C.1 C.2.2.2.1.1 (fun x hx => ⟨⟨(C.2.2.2.2.1 x (hws x hx)).1.1, (C.2.2.2.2.1 x (hws x hx)).1.2.1⟩, (C.2.2.2.2.1 x (hws x hx)).2⟩) C.2.2.2.2.2.2.1 C.2.2.2.2.2.2.2.2.2 (fun q => ⟨Vm.MethodsKnown.alikeC C.2.1.1.1.alike (hkn q).1, Vm.FramesKnown.alikeC C.2.1.1.1.alike (hkn q).2⟩)
  obtain ⟨cB, kB, qa, qb, qc⟩ := isOf hZ e0 E
  refine Go.after (st := st) (args := args) (ck := ck) (cn := cn) (ws := ws) (as' := as') (Q' := Q') (rest := rest) ⟨hx, hby, hml, hown, hnm, hret, hlk, hkn⟩ e0 C hws ?_ hq K
  exact X.virtualBackUpS hx (x := u) (y := z) (owner := owner) hown' (mvT hZ w1) (mvT hZ w5) (mvT hZ w2) ho (mvT hZ w3) (mvT hZ w4) hBK qa qc (g := mkF m pc Ls st) rfl (by rw [hml]; exact hsz) (Steps.refl _) (argsL := argsL) (rest := rest) hlen hst (by show 2 * 0 + _ ≤ _; rw [Nat.mul_zero, Nat.zero_add]; exact hW) (hb hby hd) (fun _ _ => ⟨has, e0, hc, hl⟩)
theorem Go.callF {ck cn W : Nat} {ws : List Addr} {as' : Array Value} {Q' : Option Value → Heap → List Addr → Prop} {index count : Nat} {u z : MethodName} {CC : String} {a : Addr} {argsL : List Value} (hd : decode bytes pc = .ok (.invokeinterface index count, 5)) (hq : pc + 5 = pc') (w1 : (Jvm.Cond.methodLink y.cls index u).before a0 Z = true) (w2 : (Jvm.Cond.declares u).before a0 Z = true) (w5 : (Jvm.Cond.interfaceMethod u.cls u.cls u.name u.desc).before a0 Z = true) (w3 : (Jvm.Cond.selects CC u z).before a0 Z = true) (w4 : (Jvm.Cond.instanceMethod z).before a0 Z = true) (w6 : (Jvm.Cond.publicMethod z).before a0 Z = true) (w7 : (Jvm.Cond.unhidden CC u.name u.desc).before a0 Z = true) (w8 : (Jvm.Cond.castable CC u.cls).before a0 Z = true) (hy : u.cls ≠ "java/lang/invoke/MethodHandle" ∧ u.cls ≠ "java/lang/invoke/VarHandle") (E : Exa Z h a CC) (PP : Pays l Z EL n0 nr kn R 5 z W ck cn ws as' h Q') (hsz : Ls.size = mL) (hst : st = argsL.reverse ++ .ref a :: rest) (hlen : ∀ sig, parseMethodDescriptor u.desc = some sig → argsL.length = sig.parameters.length) (has : (.ref a :: argsL).toArray = as') (hW : (rest.map fun v => v.category).sum ≤ W) (hws : ∀ x ∈ ws, x ∈ SF) (hc : k + ck ≤ R.cells) (hl : n + cn ≤ R.slots)
    (K : ∀ v h' SN, Keep h h' ws → h0.size ≤ h.size → Q' v h' SN → Go l Z EL n0 nr kn y bytes mL ret R h0 WS Q (SN ++ SF) h' (k + ck) (n + cn) pc' Ls (v.toList ++ rest)) : Go l Z EL n0 nr kn y bytes mL ret R h0 WS Q SF h k n pc Ls st := by
  intro p e s m args below meth c T hR
  obtain ⟨⟨hx, hby, hml, hown, hnm, hret, hlk, hkn⟩, vm0, k0, locs, X, e0, C⟩ := hR
  have hZ : Z.Warmed39 (s.setVm vm0).vm := C.1
  have hown' : (s.setVm vm0).vm.findClass y.cls = some m.cls := by rw [show (s.setVm vm0).vm = vm0 from rfl, C.2.1.1.1.alike.findClass]; exact hown
  have hBK := PP p e below s args vm0 hx C.1 C.2.2.2.1.1 (fun x hx => ⟨⟨(C.2.2.2.2.1 x (hws x hx)).1.1, (C.2.2.2.2.1 x (hws x hx)).1.2.1⟩, (C.2.2.2.2.1 x (hws x hx)).2⟩) C.2.2.2.2.2.2.1 C.2.2.2.2.2.2.2.2.2 (fun q => ⟨Vm.MethodsKnown.alikeC C.2.1.1.1.alike (hkn q).1, Vm.FramesKnown.alikeC C.2.1.1.1.alike (hkn q).2⟩)
  obtain ⟨cB, kB, qa, qb, qc⟩ := isOf hZ e0 E
  refine Go.after (st := st) (args := args) (ck := ck) (cn := cn) (ws := ws) (as' := as') (Q' := Q') (rest := rest) ⟨hx, hby, hml, hown, hnm, hret, hlk, hkn⟩ e0 C hws ?_ hq K
  exact X.interfaceBackS hx (xi := u) (y := z) hown' (mvT hZ w1) (mvT hZ w2) (mvT hZ w5 (by simp [Cond.onTables, Cond.keepsFace, Cond.keeps, Cond.steady, Cond.faceAtom]; exact hy)) (mvT hZ w3) (mvT hZ w4) (mvT hZ w6) (mvT hZ w7) (mvT hZ w8) hy hBK qa qb qc (g := mkF m pc Ls st) rfl (by rw [hml]; exact hsz) (Steps.refl _) (argsL := argsL) (rest := rest) hlen hst (by show 2 * 0 + _ ≤ _; rw [Nat.mul_zero, Nat.zero_add]; exact hW) (hb hby hd) (fun _ _ => ⟨has, e0, hc, hl⟩)
theorem Go.callP {ck cn W : Nat} {ws : List Addr} {as' : Array Value} {Q' : Option Value → Heap → List Addr → Prop} {index : Nat} {z : MethodName} {zb : ByteArray} {zL : Nat} {zr : Option FieldType} {CC : String} {a : Addr} {argsL : List Value} (hd : decode bytes pc = .ok (.invokevirtual index, 3)) (hq : pc + 3 = pc') (w1 : (Jvm.Cond.methodLink y.cls index z).before a0 Z = true) (w2 : (Jvm.Cond.instanceMethod z).before a0 Z = true) (w3 : (Jvm.Cond.selects z.cls z z).before a0 Z = true) (w5 : (Jvm.Cond.privateMethod z).before a0 Z = true) (w4 : (Jvm.Cond.code z zb zL zr).before a0 Z = true) (hy : z.cls ≠ "java/lang/invoke/MethodHandle" ∧ z.cls ≠ "java/lang/invoke/VarHandle") (E : Exa Z h a CC) (PP : Pays l Z EL n0 nr kn R 3 z W ck cn ws as' h Q') (hsz : Ls.size = mL) (hst : st = argsL.reverse ++ .ref a :: rest) (hlen : ∀ sig, parseMethodDescriptor z.desc = some sig → argsL.length = sig.parameters.length) (has : (.ref a :: argsL).toArray = as') (hW : (rest.map fun v => v.category).sum ≤ W) (hws : ∀ x ∈ ws, x ∈ SF) (hc : k + ck ≤ R.cells) (hl : n + cn ≤ R.slots)
    (K : ∀ v h' SN, Keep h h' ws → h0.size ≤ h.size → Q' v h' SN → Go l Z EL n0 nr kn y bytes mL ret R h0 WS Q (SN ++ SF) h' (k + ck) (n + cn) pc' Ls (v.toList ++ rest)) : Go l Z EL n0 nr kn y bytes mL ret R h0 WS Q SF h k n pc Ls st := by
  intro p e s m args below meth c T hR
  obtain ⟨⟨hx, hby, hml, hown, hnm, hret, hlk, hkn⟩, vm0, k0, locs, X, e0, C⟩ := hR
  have hZ : Z.Warmed39 (s.setVm vm0).vm := C.1
  have hown' : (s.setVm vm0).vm.findClass y.cls = some m.cls := by rw [show (s.setVm vm0).vm = vm0 from rfl, C.2.1.1.1.alike.findClass]; exact hown
  have hBK := PP p e below s args vm0 hx C.1 C.2.2.2.1.1 (fun x hx => ⟨⟨(C.2.2.2.2.1 x (hws x hx)).1.1, (C.2.2.2.2.1 x (hws x hx)).1.2.1⟩, (C.2.2.2.2.1 x (hws x hx)).2⟩) C.2.2.2.2.2.2.1 C.2.2.2.2.2.2.2.2.2 (fun q => ⟨Vm.MethodsKnown.alikeC C.2.1.1.1.alike (hkn q).1, Vm.FramesKnown.alikeC C.2.1.1.1.alike (hkn q).2⟩)
  obtain ⟨cq, q1, q2⟩ := E.cell
  refine Go.after (st := st) (args := args) (ck := ck) (cn := cn) (ws := ws) (as' := as') (Q' := Q') (rest := rest) ⟨hx, hby, hml, hown, hnm, hret, hlk, hkn⟩ e0 C hws ?_ hq K
  exact X.privateBackS hx (y := z) hown' (mvT hZ w1) (mvT hZ w2) (mvT hZ w3) (Cond.privateMethod_at (mvP hZ w5 (args := #[]))) (mvT hZ w4) hy hBK (g := mkF m pc Ls st) rfl (by rw [hml]; exact hsz) (Steps.refl _) (a := a) (by rw [e0]; exact q1) q2 (argsL := argsL) (rest := rest) hlen hst (by show 2 * 0 + _ ≤ _; rw [Nat.mul_zero, Nat.zero_add]; exact hW) (hb hby hd) (fun _ _ => ⟨has, e0, hc, hl⟩)
theorem nf {u z : MethodName} {CC : String} (w : (Jvm.Cond.selects CC u z).before a0 Z = true) (e : u = z) : ∀ (s : State), Z.Warmed39 s.vm → NotFace s u := fun s hZ => by
  subst e
  exact notFace_of_selects (args := #[]) (mvT hZ w)
theorem mem0 {SF : List Addr} : ∀ x ∈ ([] : List Addr), x ∈ SF := fun _ q => nomatch q
theorem memS {SF L : List Addr} {a : Addr} (q : a ∈ SF) (r : ∀ x ∈ L, x ∈ SF) : ∀ x ∈ a :: L, x ∈ SF := fun x z => (List.mem_cons.mp z).elim (fun u => u ▸ q) (r x)
theorem sn0 {SF : List Addr} {h0 : Heap} : ∀ x ∈ ([] : List Addr), x ∈ SF ∧ h0.size ≤ x := fun _ q => nomatch q
theorem snS {SF L : List Addr} {h0 : Heap} {a : Addr} (q : a ∈ SF ∧ h0.size ≤ a) (r : ∀ x ∈ L, x ∈ SF ∧ h0.size ≤ x) : ∀ x ∈ a :: L, x ∈ SF ∧ h0.size ≤ x := fun x z => (List.mem_cons.mp z).elim (fun u => u ▸ q) (r x)
theorem Ext.refl (h : Heap) : Ext h h := ⟨Nat.le_refl _, fun _ _ q => q⟩
theorem Ext.trans {h1 h2 h3 : Heap} (E : Ext h1 h2) (F : Ext h2 h3) : Ext h1 h3 := ⟨Nat.le_trans E.1 F.1, fun a c q => F.2 a c (E.2 a c q)⟩
theorem Keep.toExt {h1 h2 : Heap} (K : Keep h1 h2 []) : Ext h1 h2 := ⟨K.1, fun a c q => K.2.1 a c q (fun z => nomatch z)⟩
end Rules
end Jvm.OwnK
namespace Jvm.OwnK
open Jvm Sem ClassFile Op Lib Jvm.Free Jvm.Stand Jvm.LawKit Jvm.RoadKit Bundle
/-! plain facts on numbers and lists -/
def lowV (c : Int32) : Value := .int c.toInt8.toInt32
theorem byte_idem (c : Int32) : c.toInt8.toInt32.toInt8.toInt32 = c.toInt8.toInt32 := by
  rw [Int8.toInt8_toInt32]
theorem nar_byte (c : Int32) : nar .byte c.toInt8.toInt32 = c.toInt8.toInt32 := byte_idem c
theorem shr0 (x : Int32) : x >>> ((0 : Int32) &&& 31) = x := by
  apply Int32.toInt_inj.mp
  rw [c_ishr x 0 0 (by decide)]
  simp
theorem mask255 (x : Int32) : ¬ (x &&& 255) < 0 ∧ ¬ 255 < (x &&& 255) := by
  have h := c_and x 255 (by decide)
  rw [Int32.lt_iff_toInt_lt, Int32.lt_iff_toInt_lt]
  have e1 : (255 : Int32).toInt = 255 := by decide
  have e0 : (0 : Int32).toInt = 0 := by decide
  omega
theorem i2c_in {x : Int32} (h1 : ¬ x < 0) (h2 : ¬ 65535 < x) : x.toUInt32.toUInt16.toUInt32.toInt32 = x := by
  apply Int32.toInt_inj.mp
  have h := c_i2c x
  rw [Int32.lt_iff_toInt_lt] at h1 h2
  have e1 : (65535 : Int32).toInt = 65535 := by decide
  have e0 : (0 : Int32).toInt = 0 := by decide
  omega
theorem nar_char {x : Int32} (h1 : ¬ x < 0) (h2 : ¬ 65535 < x) : nar .char x = x := i2c_in h1 h2
theorem le255 {x : Int32} (h : ¬ 255 < x) : ¬ 65535 < x := by
  rw [Int32.lt_iff_toInt_lt] at h ⊢
  have e1 : (65535 : Int32).toInt = 65535 := by decide
  have e0 : (255 : Int32).toInt = 255 := by decide
  omega
theorem own_lowback {c : Int32} (h1 : ¬ c < 0) (h2 : ¬ 255 < c) : (c.toInt8.toInt32 &&& 255).toUInt32.toUInt16.toUInt32.toInt32 = c := by
  have m := mask255 c.toInt8.toInt32
  rw [i2c_in m.1 (le255 m.2)]
  apply Int32.toInt_inj.mp
  have e := c_mask c.toInt8.toInt32 255 8 (by decide) (by decide)
  have b := c_i2b c
  rw [Int32.lt_iff_toInt_lt] at h1 h2
  have e1 : (255 : Int32).toInt = 255 := by decide
  have e0 : (0 : Int32).toInt = 0 := by decide
  have e2 : ((2 ^ 8 : Nat) : Int) = 256 := by decide
  rw [e, e2]
  omega
theorem ofNat_succ (i : Nat) : Int32.ofNat i + 1 = Int32.ofNat (i + 1) := by
  rw [Int32.ofNat_add]; rfl
theorem ofNat_toInt {i : Nat} (h : i < 2 ^ 31) : (Int32.ofNat i).toInt = i := Int32.toInt_ofNat_small h
theorem ofNat_clamp {i : Nat} (h : i < 2 ^ 31) : (Int32.ofNat i).toNatClampNeg = i := by
  simp only [Int32.toNatClampNeg, ofNat_toInt h, Int.toNat_natCast]
theorem ofNat_nn {i : Nat} (h : i < 2 ^ 31) : ¬ Int32.ofNat i < 0 := by
  rw [Int32.lt_iff_toInt_lt, ofNat_toInt h]
  have e0 : (0 : Int32).toInt = 0 := by decide
  omega
theorem clamp_toInt {z : Int32} (h : ¬ z < 0) : z.toInt = z.toNatClampNeg := nat_of h
theorem ofNat_lt {i : Nat} {z : Int32} (hz : ¬ z < 0) (h : i < z.toNatClampNeg) : Int32.ofNat i < z := by
  have q := (back32 hz).2
  rw [Int32.lt_iff_toInt_lt, ofNat_toInt (by omega), clamp_toInt hz]
  omega
theorem ofNat_ge {i : Nat} {z : Int32} (hz : ¬ z < 0) (hi : i < 2 ^ 31) (h : z.toNatClampNeg ≤ i) : ¬ Int32.ofNat i < z := by
  rw [Int32.lt_iff_toInt_lt, ofNat_toInt hi, clamp_toInt hz]
  omega
theorem arv_nn {Z : State} {h : Heap} {a : Addr} {k : ClassId} {ty : FieldType} {z : Int32} {vs : List Value} {d : Value} (F : Arv Z h a k ty z vs d) : ¬ z < 0 := by obtain ⟨_, _, _, _, q, _⟩ := F; exact q
theorem getD_int (cs : List Int32) (i : Nat) : (cs.map Value.int).getD i (.int 0) = .int (cs.getD i 0) := by
  simp only [List.getD_eq_getElem?_getD, List.getElem?_map]
  cases cs[i]? <;> rfl
theorem getD_low (cs : List Int32) (i : Nat) (h : i < cs.length) : (cs.map lowV).getD i (.int 0) = .int (cs.getD i 0).toInt8.toInt32 := by
  simp only [List.getD_eq_getElem?_getD, List.getElem?_map, List.getElem?_eq_getElem h]
  rfl
theorem set_low (cs : List Int32) (i m : Nat) (h : i < cs.length) (z : Value) : ((cs.take i).map lowV ++ List.replicate (m + 1) z).set i (lowV (cs.getD i 0)) = (cs.take (i + 1)).map lowV ++ List.replicate m z := by
  have hl : ((cs.take i).map lowV).length = i := by simp; omega
  have e : cs.getD i 0 = cs[i] := by simp [List.getD_eq_getElem?_getD, List.getElem?_eq_getElem h]
  rw [List.set_append_right _ _ (by omega), hl, Nat.sub_self, List.replicate_succ, List.set_cons_zero, List.take_succ_eq_append_getElem h, List.map_append, List.append_assoc, e]
  rfl
theorem getD_mem {cs : List Int32} {P : Int32 → Prop} (h : ∀ x ∈ cs, P x) {i : Nat} (hi : i < cs.length) : P (cs.getD i 0) := by
  have e : cs.getD i 0 = cs[i] := by simp [List.getD_eq_getElem?_getD, List.getElem?_eq_getElem hi]
  rw [e]; exact h _ (List.getElem_mem hi)
theorem own_back (x : Int32) : x + (128 : Int32) - (128 : Int32) = x := Int32.add_sub_cancel x 128
theorem own_cache {x : Int32} {n : Nat} (h1 : ¬ x < (-128 : Int32)) (h2 : ¬ (127 : Int32) < x) (hn : n = (256 : Int32).toNatClampNeg) : ¬ (x + (128 : Int32) < 0 ∨ n ≤ (x + (128 : Int32)).toNatClampNeg) := by
  have c := c_iadd x 128
  have r := rng32 (x + 128)
  rw [Int32.lt_iff_toInt_lt] at h1 h2 ⊢
  have e1 : (-128 : Int32).toInt = -128 := by decide
  have e2 : (127 : Int32).toInt = 127 := by decide
  have e3 : (128 : Int32).toInt = 128 := by decide
  have e0 : (0 : Int32).toInt = 0 := by decide
  have e4 : (256 : Int32).toNatClampNeg = 256 := by decide
  simp only [Int32.toNatClampNeg] at hn e4 ⊢
  omega
theorem own_coder0 {z : Int32} : ((z - z).toUInt32 >>> ((31 : Int32) &&& 31).toUInt32).toInt32.toInt8.toInt32 = (0 : Int32) := by
  rw [Int32.sub_self]; decide
theorem own_nz {z : Int32} {cs : List Int32} (hz : z.toNatClampNeg = cs.length) (h : cs ≠ []) : ¬ z = (0 : Int32) := fun e => by
  subst e
  have : (0 : Int32).toNatClampNeg = 0 := by decide
  rw [this] at hz
  exact h (List.length_eq_zero_iff.mp hz.symm)
theorem own_narc (u : Int32) : narrow .char (.int (u &&& (255 : Int32)).toUInt32.toUInt16.toUInt32.toInt32) = .int (u &&& (255 : Int32)).toUInt32.toUInt16.toUInt32.toInt32 := by
  show Value.int _ = _
  have m := mask255 u
  rw [i2c_in m.1 (le255 m.2), i2c_in m.1 (le255 m.2)]
theorem own_one {P : Int32 → Prop} {a : Int32} (h : P a) : ∀ x ∈ [a], P x := fun x hx => by cases List.mem_singleton.mp hx; exact h
theorem own_cons {P : Int32 → Prop} {a : Int32} {L : List Int32} (h : P a) (r : ∀ x ∈ L, P x) : ∀ x ∈ a :: L, P x := fun x hx => (List.mem_cons.mp hx).elim (fun e => e ▸ h) (r x)
theorem own_two {P : Int32 → Prop} {a b : Int32} (h : P a) (h' : P b) : ∀ x ∈ [a, b], P x := own_cons h (own_one h')
def stRef (Z : State) (C n d : String) : Addr := match (Term.static C n d).eval #[] Z none [] Z with
  | some (.ref a) => a
  | _ => 0
theorem stRef_of {Z : State} {args : Array Value} {C n d : String} {a : Addr} (h : (Term.static C n d).eval args Z none [] Z = some (.ref a)) : stRef Z C n d = a := by
  have q : (Term.static C n d).eval #[] Z none [] Z = some (.ref a) := h
  simp only [stRef, q]
theorem arv_of_arr {Z : State} {h : Heap} {a : Addr} {cl : Cell} {ty : FieldType} {z : Int32} {vs : List Value} {d : Value} (A : Arr Z h a cl ty) (hz : ¬ z < 0) (hs : cl.slots.size = z.toNatClampNeg) (H : ∀ i, i < cl.slots.size → cl.slots[i]? = some (vs.getD i d) ∧ fits ty (vs.getD i d) = true) : Arv Z h a cl.cls ty z vs d :=
  ⟨cl, A, rfl, hs, hz, fun i hi => (H i hi).1, fun i hi => (H i hi).2⟩
theorem arv_ext {Z : State} {h h' : Heap} {a : Addr} {k : ClassId} {ty : FieldType} {z : Int32} {vs : List Value} {d : Value} (F : Arv Z h a k ty z vs d) (E : Ext h h') : Arv Z h' a k ty z vs d := F.ext E
theorem own_len {Z : State} {args : Array Value} {t : Term} {a : Addr} {cl : Cell} {ty : FieldType} {z : Int32} (e : t.eval args Z none [] Z = some (.ref a)) (A : Arr Z Z.heap a cl ty) (h : (Term.length t).eval args Z none [] Z = some (.int z)) : cl.slots.size < 2 ^ 31 ∧ cl.slots.size.toInt32 = z := by
  have q := A.fin (Vm.Alike.refl _)
  simp only [Term.eval, e, q, Option.bind_eq_bind, Option.bind_some] at h
  split at h
  · rename_i hl
    exact ⟨hl, by simpa using h⟩
  · cases h
theorem unt_ext {h h' : Heap} {a : Addr} (E : Ext h h') (U : Unt h a) : Unt h' a := by obtain ⟨c, q, r⟩ := U; exact ⟨c, E.2 _ _ q, r⟩
end Jvm.OwnK

namespace Jvm.Pilot.@@N@@
open Jvm Jvm.ClassFile Sem Op Lib Jvm.Free Jvm.Stand Jvm.LawKit Jvm.RoadKit Bundle Jvm.OwnK Jvm.Pilot.@@N@@.Jvm.D
abbrev EL0 : List (String × Nat) := [("java/lang/String", 7)]
abbrev NR0 : Bool := false
abbrev KN0 : Bool := false
abbrev CAP : Nat := 2
def Stat (Z : State) : Prop := (∃ zc : Int32, Sta Z Z.heap "java/lang/String" "COMPACT_STRINGS" "Z" (.int zc) ∧ ¬ zc = 0) ∧ True
theorem hs_c {Z : State} (h : Stat Z) : (∃ zc : Int32, Sta Z Z.heap "java/lang/String" "COMPACT_STRINGS" "Z" (.int zc) ∧ ¬ zc = 0) := h.1
abbrev N_0 : MethodName := ⟨"java/lang/Record", "<init>", "()V"⟩
abbrev N_1 : MethodName := ⟨"java/lang/StringUTF16", "compress", "([CI[BII)I"⟩
abbrev N_2 : MethodName := ⟨"java/lang/StringUTF16", "compress", "([CII)[B"⟩
abbrev N_3 : MethodName := ⟨"java/lang/StringUTF16", "coderFromArrayLen", "([BI)B"⟩
abbrev N_4 : MethodName := ⟨"java/lang/String", "<init>", "([CIILjava/lang/Void;)V"⟩
abbrev N_5 : MethodName := ⟨"java/lang/String", "<init>", "([C)V"⟩
abbrev N_6 : MethodName := ⟨"com/example/sumgen/sumgen/model/ReferenceToOneVariantPinLaw", "draw", "(II)Ljava/lang/String;"⟩
abbrev N_7 : MethodName := ⟨"com/example/sumgen/sumgen/model/Place", "<init>", "(Ljava/lang/String;II)V"⟩
abbrev N_8 : MethodName := ⟨"com/example/sumgen/sumgen/model/Reference", "<init>", "(Ljava/lang/String;Ljava/lang/String;Lcom/example/sumgen/sumgen/model/Place;)V"⟩
abbrev N_9 : MethodName := ⟨"com/example/sumgen/sumgen/model/Reference", "toOneVariant", "()Z"⟩
theorem pd_0 : parseMethodDescriptor "([CI[BII)I" = some ⟨[(.array .char), .int, (.array .byte), .int, .int], some .int⟩ := by decide +kernel
theorem pd_1 : parseMethodDescriptor "([CII)[B" = some ⟨[(.array .char), .int, .int], some (.array .byte)⟩ := by decide +kernel
theorem pd_2 : parseMethodDescriptor "([BI)B" = some ⟨[(.array .byte), .int], some .byte⟩ := by decide +kernel
theorem pd_3 : parseMethodDescriptor "([CIILjava/lang/Void;)V" = some ⟨[(.array .char), .int, .int, (.object "java/lang/Void")], none⟩ := by decide +kernel
theorem pd_4 : parseMethodDescriptor "([C)V" = some ⟨[(.array .char)], none⟩ := by decide +kernel
theorem pd_5 : parseMethodDescriptor "()V" = some ⟨[], none⟩ := by decide +kernel
theorem pd_6 : parseMethodDescriptor "(II)Ljava/lang/String;" = some ⟨[.int, .int], some (.object "java/lang/String")⟩ := by decide +kernel
theorem pd_7 : parseMethodDescriptor "(Ljava/lang/String;Ljava/lang/String;Lcom/example/sumgen/sumgen/model/Place;)V" = some ⟨[(.object "java/lang/String"), (.object "java/lang/String"), (.object "com/example/sumgen/sumgen/model/Place")], none⟩ := by decide +kernel
theorem pd_8 : parseMethodDescriptor "()Z" = some ⟨[], some .boolean⟩ := by decide +kernel
theorem pd_9 : parseMethodDescriptor "(Ljava/lang/String;II)V" = some ⟨[(.object "java/lang/String"), .int, .int], none⟩ := by decide +kernel
theorem lit_0 : (∀ c ∈ ("" : String).toList, c.toNat < 256) ∧ ("" : String).toList.map (fun c => Value.int (Jvm.Lit.byteI c.toNat.toUInt16)) = [] := ⟨by decide +kernel, by decide +kernel⟩
theorem ic_0 : Int32.ofInt (0) = (0 : Int32) := by decide
theorem ic_1 : Int32.ofInt (1) = (1 : Int32) := by decide
theorem ic_2 : Int32.ofInt (2) = (2 : Int32) := by decide
theorem ic_3 : Int32.ofInt (3) = (3 : Int32) := by decide
theorem ic_4 : Int32.ofInt (4) = (4 : Int32) := by decide
theorem ic_5 : Int32.ofInt (5) = (5 : Int32) := by decide
theorem icb_8 : (Int8.ofInt (8)).toInt32 = (8 : Int32) := by decide
theorem icb_31 : (Int8.ofInt (31)).toInt32 = (31 : Int32) := by decide
theorem ics_255 : (Int16.ofInt (255)).toInt32 = (255 : Int32) := by decide
theorem d_prog_17_method_1_0 : decode prog_17_method_1_code 0 = .ok (.aload_n 0, 1) := by decide +kernel
theorem d_prog_17_method_1_1 : decode prog_17_method_1_code 1 = .ok (.invokespecial 1, 3) := by decide +kernel
theorem d_prog_17_method_1_4 : decode prog_17_method_1_code 4 = .ok (.aload_n 0, 1) := by decide +kernel
theorem d_prog_17_method_1_5 : decode prog_17_method_1_code 5 = .ok (.aload_n 1, 1) := by decide +kernel
theorem d_prog_17_method_1_6 : decode prog_17_method_1_code 6 = .ok (.putfield 7, 3) := by decide +kernel
theorem d_prog_17_method_1_9 : decode prog_17_method_1_code 9 = .ok (.aload_n 0, 1) := by decide +kernel
theorem d_prog_17_method_1_10 : decode prog_17_method_1_code 10 = .ok (.iload_n 2, 1) := by decide +kernel
theorem d_prog_17_method_1_11 : decode prog_17_method_1_code 11 = .ok (.putfield 13, 3) := by decide +kernel
theorem d_prog_17_method_1_14 : decode prog_17_method_1_code 14 = .ok (.aload_n 0, 1) := by decide +kernel
theorem d_prog_17_method_1_15 : decode prog_17_method_1_code 15 = .ok (.iload_n 3, 1) := by decide +kernel
theorem d_prog_17_method_1_16 : decode prog_17_method_1_code 16 = .ok (.putfield 17, 3) := by decide +kernel
theorem d_prog_17_method_1_19 : decode prog_17_method_1_code 19 = .ok (.return_, 1) := by decide +kernel
theorem d_prog_18_method_1_0 : decode prog_18_method_1_code 0 = .ok (.aload_n 0, 1) := by decide +kernel
theorem d_prog_18_method_1_1 : decode prog_18_method_1_code 1 = .ok (.invokespecial 1, 3) := by decide +kernel
theorem d_prog_18_method_1_4 : decode prog_18_method_1_code 4 = .ok (.aload_n 0, 1) := by decide +kernel
theorem d_prog_18_method_1_5 : decode prog_18_method_1_code 5 = .ok (.aload_n 1, 1) := by decide +kernel
theorem d_prog_18_method_1_6 : decode prog_18_method_1_code 6 = .ok (.putfield 7, 3) := by decide +kernel
theorem d_prog_18_method_1_9 : decode prog_18_method_1_code 9 = .ok (.aload_n 0, 1) := by decide +kernel
theorem d_prog_18_method_1_10 : decode prog_18_method_1_code 10 = .ok (.aload_n 2, 1) := by decide +kernel
theorem d_prog_18_method_1_11 : decode prog_18_method_1_code 11 = .ok (.putfield 13, 3) := by decide +kernel
theorem d_prog_18_method_1_14 : decode prog_18_method_1_code 14 = .ok (.aload_n 0, 1) := by decide +kernel
theorem d_prog_18_method_1_15 : decode prog_18_method_1_code 15 = .ok (.aload_n 3, 1) := by decide +kernel
theorem d_prog_18_method_1_16 : decode prog_18_method_1_code 16 = .ok (.putfield 16, 3) := by decide +kernel
theorem d_prog_18_method_1_19 : decode prog_18_method_1_code 19 = .ok (.return_, 1) := by decide +kernel
theorem d_prog_18_method_2_0 : decode prog_18_method_2_code 0 = .ok (.aload_n 0, 1) := by decide +kernel
theorem d_prog_18_method_2_1 : decode prog_18_method_2_code 1 = .ok (.getfield 13, 3) := by decide +kernel
theorem d_prog_18_method_2_4 : decode prog_18_method_2_code 4 = .ok (.ifnull 7, 3) := by decide +kernel
theorem d_prog_18_method_2_7 : decode prog_18_method_2_code 7 = .ok (.iconst 1, 1) := by decide +kernel
theorem d_prog_18_method_2_8 : decode prog_18_method_2_code 8 = .ok (.goto 4, 3) := by decide +kernel
theorem d_prog_18_method_2_11 : decode prog_18_method_2_code 11 = .ok (.iconst 0, 1) := by decide +kernel
theorem d_prog_18_method_2_12 : decode prog_18_method_2_code 12 = .ok (.ireturn, 1) := by decide +kernel
theorem d_method_2_0 : decode method_2_code 0 = .ok (.iload_n 0, 1) := by decide +kernel
theorem d_method_2_1 : decode method_2_code 1 = .ok (.ifCond .ne 5, 3) := by decide +kernel
theorem d_method_2_4 : decode method_2_code 4 = .ok (.aconst_null, 1) := by decide +kernel
theorem d_method_2_5 : decode method_2_code 5 = .ok (.areturn, 1) := by decide +kernel
theorem d_method_2_6 : decode method_2_code 6 = .ok (.iload_n 0, 1) := by decide +kernel
theorem d_method_2_7 : decode method_2_code 7 = .ok (.iconst 1, 1) := by decide +kernel
theorem d_method_2_8 : decode method_2_code 8 = .ok (.if_icmp .ne 14, 3) := by decide +kernel
theorem d_method_2_11 : decode method_2_code 11 = .ok (.new 7, 3) := by decide +kernel
theorem d_method_2_14 : decode method_2_code 14 = .ok (.dup, 1) := by decide +kernel
theorem d_method_2_15 : decode method_2_code 15 = .ok (.iconst 0, 1) := by decide +kernel
theorem d_method_2_16 : decode method_2_code 16 = .ok (.newarray .char, 2) := by decide +kernel
theorem d_method_2_18 : decode method_2_code 18 = .ok (.invokespecial 9, 3) := by decide +kernel
theorem d_method_2_21 : decode method_2_code 21 = .ok (.areturn, 1) := by decide +kernel
theorem d_method_2_22 : decode method_2_code 22 = .ok (.iload_n 0, 1) := by decide +kernel
theorem d_method_2_23 : decode method_2_code 23 = .ok (.iconst 2, 1) := by decide +kernel
theorem d_method_2_24 : decode method_2_code 24 = .ok (.if_icmp .ne 23, 3) := by decide +kernel
theorem d_method_2_27 : decode method_2_code 27 = .ok (.new 7, 3) := by decide +kernel
theorem d_method_2_30 : decode method_2_code 30 = .ok (.dup, 1) := by decide +kernel
theorem d_method_2_31 : decode method_2_code 31 = .ok (.iconst 1, 1) := by decide +kernel
theorem d_method_2_32 : decode method_2_code 32 = .ok (.newarray .char, 2) := by decide +kernel
theorem d_method_2_34 : decode method_2_code 34 = .ok (.dup, 1) := by decide +kernel
theorem d_method_2_35 : decode method_2_code 35 = .ok (.iconst 0, 1) := by decide +kernel
theorem d_method_2_36 : decode method_2_code 36 = .ok (.iload_n 1, 1) := by decide +kernel
theorem d_method_2_37 : decode method_2_code 37 = .ok (.sipush 255, 3) := by decide +kernel
theorem d_method_2_40 : decode method_2_code 40 = .ok (.iand, 1) := by decide +kernel
theorem d_method_2_41 : decode method_2_code 41 = .ok (.i2c, 1) := by decide +kernel
theorem d_method_2_42 : decode method_2_code 42 = .ok (.castore, 1) := by decide +kernel
theorem d_method_2_43 : decode method_2_code 43 = .ok (.invokespecial 9, 3) := by decide +kernel
theorem d_method_2_46 : decode method_2_code 46 = .ok (.areturn, 1) := by decide +kernel
theorem d_method_2_47 : decode method_2_code 47 = .ok (.new 7, 3) := by decide +kernel
theorem d_method_2_50 : decode method_2_code 50 = .ok (.dup, 1) := by decide +kernel
theorem d_method_2_51 : decode method_2_code 51 = .ok (.iconst 2, 1) := by decide +kernel
theorem d_method_2_52 : decode method_2_code 52 = .ok (.newarray .char, 2) := by decide +kernel
theorem d_method_2_54 : decode method_2_code 54 = .ok (.dup, 1) := by decide +kernel
theorem d_method_2_55 : decode method_2_code 55 = .ok (.iconst 0, 1) := by decide +kernel
theorem d_method_2_56 : decode method_2_code 56 = .ok (.iload_n 1, 1) := by decide +kernel
theorem d_method_2_57 : decode method_2_code 57 = .ok (.sipush 255, 3) := by decide +kernel
theorem d_method_2_60 : decode method_2_code 60 = .ok (.iand, 1) := by decide +kernel
theorem d_method_2_61 : decode method_2_code 61 = .ok (.i2c, 1) := by decide +kernel
theorem d_method_2_62 : decode method_2_code 62 = .ok (.castore, 1) := by decide +kernel
theorem d_method_2_63 : decode method_2_code 63 = .ok (.dup, 1) := by decide +kernel
theorem d_method_2_64 : decode method_2_code 64 = .ok (.iconst 1, 1) := by decide +kernel
theorem d_method_2_65 : decode method_2_code 65 = .ok (.iload_n 1, 1) := by decide +kernel
theorem d_method_2_66 : decode method_2_code 66 = .ok (.bipush 8, 2) := by decide +kernel
theorem d_method_2_68 : decode method_2_code 68 = .ok (.iushr, 1) := by decide +kernel
theorem d_method_2_69 : decode method_2_code 69 = .ok (.sipush 255, 3) := by decide +kernel
theorem d_method_2_72 : decode method_2_code 72 = .ok (.iand, 1) := by decide +kernel
theorem d_method_2_73 : decode method_2_code 73 = .ok (.i2c, 1) := by decide +kernel
theorem d_method_2_74 : decode method_2_code 74 = .ok (.castore, 1) := by decide +kernel
theorem d_method_2_75 : decode method_2_code 75 = .ok (.invokespecial 9, 3) := by decide +kernel
theorem d_method_2_78 : decode method_2_code 78 = .ok (.areturn, 1) := by decide +kernel
theorem d_jdk_30_method_1_0 : decode jdk_30_method_1_code 0 = .ok (.aload_n 0, 1) := by decide +kernel
theorem d_jdk_30_method_1_1 : decode jdk_30_method_1_code 1 = .ok (.invokespecial 1, 3) := by decide +kernel
theorem d_jdk_30_method_1_4 : decode jdk_30_method_1_code 4 = .ok (.return_, 1) := by decide +kernel
theorem d_jdk_42_method_3_0 : decode jdk_42_method_3_code 0 = .ok (.aload_n 0, 1) := by decide +kernel
theorem d_jdk_42_method_3_1 : decode jdk_42_method_3_code 1 = .ok (.aload_n 1, 1) := by decide +kernel
theorem d_jdk_42_method_3_2 : decode jdk_42_method_3_code 2 = .ok (.iconst 0, 1) := by decide +kernel
theorem d_jdk_42_method_3_3 : decode jdk_42_method_3_code 3 = .ok (.aload_n 1, 1) := by decide +kernel
theorem d_jdk_42_method_3_4 : decode jdk_42_method_3_code 4 = .ok (.arraylength, 1) := by decide +kernel
theorem d_jdk_42_method_3_5 : decode jdk_42_method_3_code 5 = .ok (.aconst_null, 1) := by decide +kernel
theorem d_jdk_42_method_3_6 : decode jdk_42_method_3_code 6 = .ok (.invokespecial 27, 3) := by decide +kernel
theorem d_jdk_42_method_3_9 : decode jdk_42_method_3_code 9 = .ok (.return_, 1) := by decide +kernel
theorem d_jdk_42_method_149_0 : decode jdk_42_method_149_code 0 = .ok (.aload_n 0, 1) := by decide +kernel
theorem d_jdk_42_method_149_1 : decode jdk_42_method_149_code 1 = .ok (.invokespecial 1, 3) := by decide +kernel
theorem d_jdk_42_method_149_4 : decode jdk_42_method_149_code 4 = .ok (.iload_n 3, 1) := by decide +kernel
theorem d_jdk_42_method_149_5 : decode jdk_42_method_149_code 5 = .ok (.ifCond .ne 22, 3) := by decide +kernel
theorem d_jdk_42_method_149_8 : decode jdk_42_method_149_code 8 = .ok (.aload_n 0, 1) := by decide +kernel
theorem d_jdk_42_method_149_9 : decode jdk_42_method_149_code 9 = .ok (.ldc 7, 2) := by decide +kernel
theorem d_jdk_42_method_149_11 : decode jdk_42_method_149_code 11 = .ok (.getfield 9, 3) := by decide +kernel
theorem d_jdk_42_method_149_14 : decode jdk_42_method_149_code 14 = .ok (.putfield 9, 3) := by decide +kernel
theorem d_jdk_42_method_149_17 : decode jdk_42_method_149_code 17 = .ok (.aload_n 0, 1) := by decide +kernel
theorem d_jdk_42_method_149_18 : decode jdk_42_method_149_code 18 = .ok (.ldc 7, 2) := by decide +kernel
theorem d_jdk_42_method_149_20 : decode jdk_42_method_149_code 20 = .ok (.getfield 15, 3) := by decide +kernel
theorem d_jdk_42_method_149_23 : decode jdk_42_method_149_code 23 = .ok (.putfield 15, 3) := by decide +kernel
theorem d_jdk_42_method_149_26 : decode jdk_42_method_149_code 26 = .ok (.return_, 1) := by decide +kernel
theorem d_jdk_42_method_149_27 : decode jdk_42_method_149_code 27 = .ok (.getstatic 38, 3) := by decide +kernel
theorem d_jdk_42_method_149_30 : decode jdk_42_method_149_code 30 = .ok (.ifCond .eq 28, 3) := by decide +kernel
theorem d_jdk_42_method_149_33 : decode jdk_42_method_149_code 33 = .ok (.aload_n 1, 1) := by decide +kernel
theorem d_jdk_42_method_149_34 : decode jdk_42_method_149_code 34 = .ok (.iload_n 2, 1) := by decide +kernel
theorem d_jdk_42_method_149_35 : decode jdk_42_method_149_code 35 = .ok (.iload_n 3, 1) := by decide +kernel
theorem d_jdk_42_method_149_36 : decode jdk_42_method_149_code 36 = .ok (.invokestatic 177, 3) := by decide +kernel
theorem d_jdk_42_method_149_39 : decode jdk_42_method_149_code 39 = .ok (.astore 5, 2) := by decide +kernel
theorem d_jdk_42_method_149_41 : decode jdk_42_method_149_code 41 = .ok (.aload_n 0, 1) := by decide +kernel
theorem d_jdk_42_method_149_42 : decode jdk_42_method_149_code 42 = .ok (.aload 5, 2) := by decide +kernel
theorem d_jdk_42_method_149_44 : decode jdk_42_method_149_code 44 = .ok (.iload_n 3, 1) := by decide +kernel
theorem d_jdk_42_method_149_45 : decode jdk_42_method_149_code 45 = .ok (.invokestatic 47, 3) := by decide +kernel
theorem d_jdk_42_method_149_48 : decode jdk_42_method_149_code 48 = .ok (.putfield 15, 3) := by decide +kernel
theorem d_jdk_42_method_149_51 : decode jdk_42_method_149_code 51 = .ok (.aload_n 0, 1) := by decide +kernel
theorem d_jdk_42_method_149_52 : decode jdk_42_method_149_code 52 = .ok (.aload 5, 2) := by decide +kernel
theorem d_jdk_42_method_149_54 : decode jdk_42_method_149_code 54 = .ok (.putfield 9, 3) := by decide +kernel
theorem d_jdk_42_method_149_57 : decode jdk_42_method_149_code 57 = .ok (.return_, 1) := by decide +kernel
theorem d_jdk_52_method_15_0 : decode jdk_52_method_15_code 0 = .ok (.iload_n 1, 1) := by decide +kernel
theorem d_jdk_52_method_15_1 : decode jdk_52_method_15_code 1 = .ok (.aload_n 0, 1) := by decide +kernel
theorem d_jdk_52_method_15_2 : decode jdk_52_method_15_code 2 = .ok (.arraylength, 1) := by decide +kernel
theorem d_jdk_52_method_15_3 : decode jdk_52_method_15_code 3 = .ok (.isub, 1) := by decide +kernel
theorem d_jdk_52_method_15_4 : decode jdk_52_method_15_code 4 = .ok (.bipush 31, 2) := by decide +kernel
theorem d_jdk_52_method_15_6 : decode jdk_52_method_15_code 6 = .ok (.iushr, 1) := by decide +kernel
theorem d_jdk_52_method_15_7 : decode jdk_52_method_15_code 7 = .ok (.i2b, 1) := by decide +kernel
theorem d_jdk_52_method_15_8 : decode jdk_52_method_15_code 8 = .ok (.ireturn, 1) := by decide +kernel
theorem d_jdk_52_method_16_0 : decode jdk_52_method_16_code 0 = .ok (.iload_n 2, 1) := by decide +kernel
theorem d_jdk_52_method_16_1 : decode jdk_52_method_16_code 1 = .ok (.newarray .byte, 2) := by decide +kernel
theorem d_jdk_52_method_16_3 : decode jdk_52_method_16_code 3 = .ok (.astore_n 3, 1) := by decide +kernel
theorem d_jdk_52_method_16_4 : decode jdk_52_method_16_code 4 = .ok (.aload_n 0, 1) := by decide +kernel
theorem d_jdk_52_method_16_5 : decode jdk_52_method_16_code 5 = .ok (.iload_n 1, 1) := by decide +kernel
theorem d_jdk_52_method_16_6 : decode jdk_52_method_16_code 6 = .ok (.aload_n 3, 1) := by decide +kernel
theorem d_jdk_52_method_16_7 : decode jdk_52_method_16_code 7 = .ok (.iconst 0, 1) := by decide +kernel
theorem d_jdk_52_method_16_8 : decode jdk_52_method_16_code 8 = .ok (.iload_n 2, 1) := by decide +kernel
theorem d_jdk_52_method_16_9 : decode jdk_52_method_16_code 9 = .ok (.invokestatic 115, 3) := by decide +kernel
theorem d_jdk_52_method_16_12 : decode jdk_52_method_16_code 12 = .ok (.istore 4, 2) := by decide +kernel
theorem d_jdk_52_method_16_14 : decode jdk_52_method_16_code 14 = .ok (.iload 4, 2) := by decide +kernel
theorem d_jdk_52_method_16_16 : decode jdk_52_method_16_code 16 = .ok (.iload_n 2, 1) := by decide +kernel
theorem d_jdk_52_method_16_17 : decode jdk_52_method_16_code 17 = .ok (.if_icmp .eq 40, 3) := by decide +kernel
theorem d_jdk_52_method_16_57 : decode jdk_52_method_16_code 57 = .ok (.aload_n 3, 1) := by decide +kernel
theorem d_jdk_52_method_16_58 : decode jdk_52_method_16_code 58 = .ok (.areturn, 1) := by decide +kernel
theorem d_jdk_52_method_21_0 : decode jdk_52_method_21_code 0 = .ok (.iconst 0, 1) := by decide +kernel
theorem d_jdk_52_method_21_1 : decode jdk_52_method_21_code 1 = .ok (.istore 5, 2) := by decide +kernel
theorem d_jdk_52_method_21_3 : decode jdk_52_method_21_code 3 = .ok (.iload 5, 2) := by decide +kernel
theorem d_jdk_52_method_21_5 : decode jdk_52_method_21_code 5 = .ok (.iload 4, 2) := by decide +kernel
theorem d_jdk_52_method_21_7 : decode jdk_52_method_21_code 7 = .ok (.if_icmp .ge 37, 3) := by decide +kernel
theorem d_jdk_52_method_21_10 : decode jdk_52_method_21_code 10 = .ok (.aload_n 0, 1) := by decide +kernel
theorem d_jdk_52_method_21_11 : decode jdk_52_method_21_code 11 = .ok (.iload_n 1, 1) := by decide +kernel
theorem d_jdk_52_method_21_12 : decode jdk_52_method_21_code 12 = .ok (.caload, 1) := by decide +kernel
theorem d_jdk_52_method_21_13 : decode jdk_52_method_21_code 13 = .ok (.istore 6, 2) := by decide +kernel
theorem d_jdk_52_method_21_15 : decode jdk_52_method_21_code 15 = .ok (.iload 6, 2) := by decide +kernel
theorem d_jdk_52_method_21_17 : decode jdk_52_method_21_code 17 = .ok (.sipush 255, 3) := by decide +kernel
theorem d_jdk_52_method_21_20 : decode jdk_52_method_21_code 20 = .ok (.if_icmp .le 6, 3) := by decide +kernel
theorem d_jdk_52_method_21_26 : decode jdk_52_method_21_code 26 = .ok (.aload_n 2, 1) := by decide +kernel
theorem d_jdk_52_method_21_27 : decode jdk_52_method_21_code 27 = .ok (.iload_n 3, 1) := by decide +kernel
theorem d_jdk_52_method_21_28 : decode jdk_52_method_21_code 28 = .ok (.iload 6, 2) := by decide +kernel
theorem d_jdk_52_method_21_30 : decode jdk_52_method_21_code 30 = .ok (.i2b, 1) := by decide +kernel
theorem d_jdk_52_method_21_31 : decode jdk_52_method_21_code 31 = .ok (.bastore, 1) := by decide +kernel
theorem d_jdk_52_method_21_32 : decode jdk_52_method_21_code 32 = .ok (.iinc 1 1, 3) := by decide +kernel
theorem d_jdk_52_method_21_35 : decode jdk_52_method_21_code 35 = .ok (.iinc 3 1, 3) := by decide +kernel
theorem d_jdk_52_method_21_38 : decode jdk_52_method_21_code 38 = .ok (.iinc 5 1, 3) := by decide +kernel
theorem d_jdk_52_method_21_41 : decode jdk_52_method_21_code 41 = .ok (.goto (-38), 3) := by decide +kernel
theorem d_jdk_52_method_21_44 : decode jdk_52_method_21_code 44 = .ok (.iload 4, 2) := by decide +kernel
theorem d_jdk_52_method_21_46 : decode jdk_52_method_21_code 46 = .ok (.ireturn, 1) := by decide +kernel
theorem w_0 {Z : State} {a0 : Array Value} (hw : ∀ d ∈ tables_1, d.before a0 Z = true) : (Jvm.Cond.methodLink "com/example/sumgen/sumgen/model/ReferenceToOneVariantPinLaw" (12 : Nat) ({ cls := "com/example/sumgen/sumgen/model/ReferenceToOneVariantPinLaw", name := "draw", desc := "(II)Ljava/lang/String;" } : Jvm.MethodName)).before a0 Z = true := hw _ (List.mem_of_getElem? (i := 0) rfl)
theorem w_1 {Z : State} {a0 : Array Value} (hw : ∀ d ∈ tables_1, d.before a0 Z = true) : (Jvm.Cond.static ({ cls := "com/example/sumgen/sumgen/model/ReferenceToOneVariantPinLaw", name := "draw", desc := "(II)Ljava/lang/String;" } : Jvm.MethodName)).before a0 Z = true := hw _ (List.mem_of_getElem? (i := 1) rfl)
theorem w_2 {Z : State} {a0 : Array Value} (hw : ∀ d ∈ tables_1, d.before a0 Z = true) : (Jvm.Cond.initialized "com/example/sumgen/sumgen/model/ReferenceToOneVariantPinLaw").before a0 Z = true := hw _ (List.mem_of_getElem? (i := 2) rfl)
theorem w_3 {Z : State} {a0 : Array Value} (hw : ∀ d ∈ tables_1, d.before a0 Z = true) : (Jvm.Cond.code ({ cls := "com/example/sumgen/sumgen/model/ReferenceToOneVariantPinLaw", name := "draw", desc := "(II)Ljava/lang/String;" } : Jvm.MethodName) method_2_code (2 : Nat) (Option.some (Jvm.ClassFile.FieldType.object "java/lang/String"))).before a0 Z = true := hw _ (List.mem_of_getElem? (i := 3) rfl)
theorem w_4 {Z : State} {a0 : Array Value} (hw : ∀ d ∈ tables_1, d.before a0 Z = true) : (Jvm.Cond.classLink "com/example/sumgen/sumgen/model/ReferenceToOneVariantPinLaw" (23 : Nat) "com/example/sumgen/sumgen/model/Reference").before a0 Z = true := hw _ (List.mem_of_getElem? (i := 4) rfl)
theorem w_5 {Z : State} {a0 : Array Value} (hw : ∀ d ∈ tables_1, d.before a0 Z = true) : (Jvm.Cond.instantiable "com/example/sumgen/sumgen/model/Reference" (3 : Nat)).before a0 Z = true := hw _ (List.mem_of_getElem? (i := 5) rfl)
theorem w_6 {Z : State} {a0 : Array Value} (hw : ∀ d ∈ tables_1, d.before a0 Z = true) : (Jvm.Cond.initialized "com/example/sumgen/sumgen/model/Reference").before a0 Z = true := hw _ (List.mem_of_getElem? (i := 6) rfl)
theorem w_7 {Z : State} {a0 : Array Value} (hw : ∀ d ∈ tables_1, d.before a0 Z = true) : (Jvm.Cond.methodLink "com/example/sumgen/sumgen/model/ReferenceToOneVariantPinLaw" (25 : Nat) ({ cls := "com/example/sumgen/sumgen/model/Reference", name := "<init>", desc := "(Ljava/lang/String;Ljava/lang/String;Lcom/example/sumgen/sumgen/model/Place;)V" } : Jvm.MethodName)).before a0 Z = true := hw _ (List.mem_of_getElem? (i := 7) rfl)
theorem w_8 {Z : State} {a0 : Array Value} (hw : ∀ d ∈ tables_1, d.before a0 Z = true) : (Jvm.Cond.instanceMethod ({ cls := "com/example/sumgen/sumgen/model/Reference", name := "<init>", desc := "(Ljava/lang/String;Ljava/lang/String;Lcom/example/sumgen/sumgen/model/Place;)V" } : Jvm.MethodName)).before a0 Z = true := hw _ (List.mem_of_getElem? (i := 8) rfl)
theorem w_9 {Z : State} {a0 : Array Value} (hw : ∀ d ∈ tables_1, d.before a0 Z = true) : (Jvm.Cond.code ({ cls := "com/example/sumgen/sumgen/model/Reference", name := "<init>", desc := "(Ljava/lang/String;Ljava/lang/String;Lcom/example/sumgen/sumgen/model/Place;)V" } : Jvm.MethodName) prog_18_method_1_code (4 : Nat) (Option.none : Option Jvm.ClassFile.FieldType)).before a0 Z = true := hw _ (List.mem_of_getElem? (i := 9) rfl)
theorem w_10 {Z : State} {a0 : Array Value} (hw : ∀ d ∈ tables_1, d.before a0 Z = true) : (Jvm.Cond.methodLink "com/example/sumgen/sumgen/model/Reference" (1 : Nat) ({ cls := "java/lang/Record", name := "<init>", desc := "()V" } : Jvm.MethodName)).before a0 Z = true := hw _ (List.mem_of_getElem? (i := 10) rfl)
theorem w_11 {Z : State} {a0 : Array Value} (hw : ∀ d ∈ tables_1, d.before a0 Z = true) : (Jvm.Cond.instanceMethod ({ cls := "java/lang/Record", name := "<init>", desc := "()V" } : Jvm.MethodName)).before a0 Z = true := hw _ (List.mem_of_getElem? (i := 11) rfl)
theorem w_13 {Z : State} {a0 : Array Value} (hw : ∀ d ∈ tables_1, d.before a0 Z = true) : (Jvm.Cond.initialized "java/lang/Record").before a0 Z = true := hw _ (List.mem_of_getElem? (i := 13) rfl)
theorem w_14 {Z : State} {a0 : Array Value} (hw : ∀ d ∈ tables_1, d.before a0 Z = true) : (Jvm.Cond.code ({ cls := "java/lang/Record", name := "<init>", desc := "()V" } : Jvm.MethodName) jdk_30_method_1_code (1 : Nat) (Option.none : Option Jvm.ClassFile.FieldType)).before a0 Z = true := hw _ (List.mem_of_getElem? (i := 14) rfl)
theorem w_15 {Z : State} {a0 : Array Value} (hw : ∀ d ∈ tables_1, d.before a0 Z = true) : (Jvm.Cond.methodLink "java/lang/Record" (1 : Nat) ({ cls := "java/lang/Object", name := "<init>", desc := "()V" } : Jvm.MethodName)).before a0 Z = true := hw _ (List.mem_of_getElem? (i := 15) rfl)
theorem w_16 {Z : State} {a0 : Array Value} (hw : ∀ d ∈ tables_1, d.before a0 Z = true) : (Jvm.Cond.instanceMethod ({ cls := "java/lang/Object", name := "<init>", desc := "()V" } : Jvm.MethodName)).before a0 Z = true := hw _ (List.mem_of_getElem? (i := 16) rfl)
theorem w_17 {Z : State} {a0 : Array Value} (hw : ∀ d ∈ tables_1, d.before a0 Z = true) : (Jvm.Cond.code ({ cls := "java/lang/Object", name := "<init>", desc := "()V" } : Jvm.MethodName) object_method_1_code (1 : Nat) (Option.none : Option Jvm.ClassFile.FieldType)).before a0 Z = true := hw _ (List.mem_of_getElem? (i := 17) rfl)
theorem w_18 {Z : State} {a0 : Array Value} (hw : ∀ d ∈ tables_1, d.before a0 Z = true) : (Jvm.Cond.fieldLink "com/example/sumgen/sumgen/model/Reference" (7 : Nat) "com/example/sumgen/sumgen/model/Reference" "type" "Ljava/lang/String;").before a0 Z = true := hw _ (List.mem_of_getElem? (i := 18) rfl)
theorem w_19 {Z : State} {a0 : Array Value} (hw : ∀ d ∈ tables_1, d.before a0 Z = true) : (Jvm.Cond.laysFinal "com/example/sumgen/sumgen/model/Reference" "com/example/sumgen/sumgen/model/Reference" "type" "Ljava/lang/String;").before a0 Z = true := hw _ (List.mem_of_getElem? (i := 19) rfl)
theorem w_20 {Z : State} {a0 : Array Value} (hw : ∀ d ∈ tables_1, d.before a0 Z = true) : (Jvm.Cond.fieldLink "com/example/sumgen/sumgen/model/Reference" (13 : Nat) "com/example/sumgen/sumgen/model/Reference" "variant" "Ljava/lang/String;").before a0 Z = true := hw _ (List.mem_of_getElem? (i := 20) rfl)
theorem w_21 {Z : State} {a0 : Array Value} (hw : ∀ d ∈ tables_1, d.before a0 Z = true) : (Jvm.Cond.laysFinal "com/example/sumgen/sumgen/model/Reference" "com/example/sumgen/sumgen/model/Reference" "variant" "Ljava/lang/String;").before a0 Z = true := hw _ (List.mem_of_getElem? (i := 21) rfl)
theorem w_22 {Z : State} {a0 : Array Value} (hw : ∀ d ∈ tables_1, d.before a0 Z = true) : (Jvm.Cond.fieldLink "com/example/sumgen/sumgen/model/Reference" (16 : Nat) "com/example/sumgen/sumgen/model/Reference" "place" "Lcom/example/sumgen/sumgen/model/Place;").before a0 Z = true := hw _ (List.mem_of_getElem? (i := 22) rfl)
theorem w_23 {Z : State} {a0 : Array Value} (hw : ∀ d ∈ tables_1, d.before a0 Z = true) : (Jvm.Cond.laysFinal "com/example/sumgen/sumgen/model/Reference" "com/example/sumgen/sumgen/model/Reference" "place" "Lcom/example/sumgen/sumgen/model/Place;").before a0 Z = true := hw _ (List.mem_of_getElem? (i := 23) rfl)
theorem w_24 {Z : State} {a0 : Array Value} (hw : ∀ d ∈ tables_1, d.before a0 Z = true) : (Jvm.Cond.methodLink "com/example/sumgen/sumgen/model/ReferenceToOneVariantPinLaw" (28 : Nat) ({ cls := "com/example/sumgen/sumgen/model/Reference", name := "toOneVariant", desc := "()Z" } : Jvm.MethodName)).before a0 Z = true := hw _ (List.mem_of_getElem? (i := 24) rfl)
theorem w_25 {Z : State} {a0 : Array Value} (hw : ∀ d ∈ tables_1, d.before a0 Z = true) : (Jvm.Cond.declares ({ cls := "com/example/sumgen/sumgen/model/Reference", name := "toOneVariant", desc := "()Z" } : Jvm.MethodName)).before a0 Z = true := hw _ (List.mem_of_getElem? (i := 25) rfl)
theorem w_26 {Z : State} {a0 : Array Value} (hw : ∀ d ∈ tables_1, d.before a0 Z = true) : (Jvm.Cond.instanceMethod ({ cls := "com/example/sumgen/sumgen/model/Reference", name := "toOneVariant", desc := "()Z" } : Jvm.MethodName)).before a0 Z = true := hw _ (List.mem_of_getElem? (i := 26) rfl)
theorem w_27 {Z : State} {a0 : Array Value} (hw : ∀ d ∈ tables_1, d.before a0 Z = true) : (Jvm.Cond.selects "com/example/sumgen/sumgen/model/Reference" ({ cls := "com/example/sumgen/sumgen/model/Reference", name := "toOneVariant", desc := "()Z" } : Jvm.MethodName) ({ cls := "com/example/sumgen/sumgen/model/Reference", name := "toOneVariant", desc := "()Z" } : Jvm.MethodName)).before a0 Z = true := hw _ (List.mem_of_getElem? (i := 27) rfl)
theorem w_28 {Z : State} {a0 : Array Value} (hw : ∀ d ∈ tables_1, d.before a0 Z = true) : (Jvm.Cond.code ({ cls := "com/example/sumgen/sumgen/model/Reference", name := "toOneVariant", desc := "()Z" } : Jvm.MethodName) prog_18_method_2_code (1 : Nat) (Option.some Jvm.ClassFile.FieldType.boolean)).before a0 Z = true := hw _ (List.mem_of_getElem? (i := 28) rfl)
theorem w_29 {Z : State} {a0 : Array Value} (hw : ∀ d ∈ tables_1, d.before a0 Z = true) : (Jvm.Cond.classLink "com/example/sumgen/sumgen/model/ReferenceToOneVariantPinLaw" (7 : Nat) "java/lang/String").before a0 Z = true := hw _ (List.mem_of_getElem? (i := 29) rfl)
theorem w_30 {Z : State} {a0 : Array Value} (hw : ∀ d ∈ tables_1, d.before a0 Z = true) : (Jvm.Cond.instantiable "java/lang/String" (4 : Nat)).before a0 Z = true := hw _ (List.mem_of_getElem? (i := 30) rfl)
theorem w_31 {Z : State} {a0 : Array Value} (hw : ∀ d ∈ tables_1, d.before a0 Z = true) : (Jvm.Cond.initialized "java/lang/String").before a0 Z = true := hw _ (List.mem_of_getElem? (i := 31) rfl)
theorem w_32 {Z : State} {a0 : Array Value} (hw : ∀ d ∈ tables_1, d.before a0 Z = true) : (Jvm.Cond.arrayClass Jvm.ClassFile.FieldType.char).before a0 Z = true := hw _ (List.mem_of_getElem? (i := 32) rfl)
theorem w_33 {Z : State} {a0 : Array Value} (hw : ∀ d ∈ tables_1, d.before a0 Z = true) : (Jvm.Cond.methodLink "com/example/sumgen/sumgen/model/ReferenceToOneVariantPinLaw" (9 : Nat) ({ cls := "java/lang/String", name := "<init>", desc := "([C)V" } : Jvm.MethodName)).before a0 Z = true := hw _ (List.mem_of_getElem? (i := 33) rfl)
theorem w_34 {Z : State} {a0 : Array Value} (hw : ∀ d ∈ tables_1, d.before a0 Z = true) : (Jvm.Cond.instanceMethod ({ cls := "java/lang/String", name := "<init>", desc := "([C)V" } : Jvm.MethodName)).before a0 Z = true := hw _ (List.mem_of_getElem? (i := 34) rfl)
theorem w_35 {Z : State} {a0 : Array Value} (hw : ∀ d ∈ tables_1, d.before a0 Z = true) : (Jvm.Cond.code ({ cls := "java/lang/String", name := "<init>", desc := "([C)V" } : Jvm.MethodName) jdk_42_method_3_code (2 : Nat) (Option.none : Option Jvm.ClassFile.FieldType)).before a0 Z = true := hw _ (List.mem_of_getElem? (i := 35) rfl)
theorem w_36 {Z : State} {a0 : Array Value} (hw : ∀ d ∈ tables_1, d.before a0 Z = true) : (Jvm.Cond.methodLink "java/lang/String" (27 : Nat) ({ cls := "java/lang/String", name := "<init>", desc := "([CIILjava/lang/Void;)V" } : Jvm.MethodName)).before a0 Z = true := hw _ (List.mem_of_getElem? (i := 36) rfl)
theorem w_37 {Z : State} {a0 : Array Value} (hw : ∀ d ∈ tables_1, d.before a0 Z = true) : (Jvm.Cond.instanceMethod ({ cls := "java/lang/String", name := "<init>", desc := "([CIILjava/lang/Void;)V" } : Jvm.MethodName)).before a0 Z = true := hw _ (List.mem_of_getElem? (i := 37) rfl)
theorem w_39 {Z : State} {a0 : Array Value} (hw : ∀ d ∈ tables_1, d.before a0 Z = true) : (Jvm.Cond.code ({ cls := "java/lang/String", name := "<init>", desc := "([CIILjava/lang/Void;)V" } : Jvm.MethodName) jdk_42_method_149_code (6 : Nat) (Option.none : Option Jvm.ClassFile.FieldType)).before a0 Z = true := hw _ (List.mem_of_getElem? (i := 39) rfl)
theorem w_40 {Z : State} {a0 : Array Value} (hw : ∀ d ∈ tables_1, d.before a0 Z = true) : (Jvm.Cond.methodLink "java/lang/String" (1 : Nat) ({ cls := "java/lang/Object", name := "<init>", desc := "()V" } : Jvm.MethodName)).before a0 Z = true := hw _ (List.mem_of_getElem? (i := 40) rfl)
theorem w_41 {Z : State} {a0 : Array Value} (hw : ∀ d ∈ tables_1, d.before a0 Z = true) : (Jvm.Cond.stringLink "java/lang/String" (7 : Nat) "").before a0 Z = true := hw _ (List.mem_of_getElem? (i := 41) rfl)
theorem w_42 {Z : State} {a0 : Array Value} (hw : ∀ d ∈ tables_1, d.before a0 Z = true) : (Jvm.Cond.arrayClass Jvm.ClassFile.FieldType.byte).before a0 Z = true := hw _ (List.mem_of_getElem? (i := 42) rfl)
theorem w_43 {Z : State} {a0 : Array Value} (hw : ∀ d ∈ tables_1, d.before a0 Z = true) : (Jvm.Cond.laysFinal "java/lang/String" "java/lang/String" "value" "[B").before a0 Z = true := hw _ (List.mem_of_getElem? (i := 43) rfl)
theorem w_44 {Z : State} {a0 : Array Value} (hw : ∀ d ∈ tables_1, d.before a0 Z = true) : (Jvm.Cond.laysFinal "java/lang/String" "java/lang/String" "coder" "B").before a0 Z = true := hw _ (List.mem_of_getElem? (i := 44) rfl)
theorem w_45 {Z : State} {a0 : Array Value} (hw : ∀ d ∈ tables_1, d.before a0 Z = true) : (Jvm.Cond.soleField "java/lang/String" "value").before a0 Z = true := hw _ (List.mem_of_getElem? (i := 45) rfl)
theorem w_46 {Z : State} {a0 : Array Value} (hw : ∀ d ∈ tables_1, d.before a0 Z = true) : (Jvm.Cond.soleField "java/lang/String" "coder").before a0 Z = true := hw _ (List.mem_of_getElem? (i := 46) rfl)
theorem w_47 {Z : State} {a0 : Array Value} (hw : ∀ d ∈ tables_1, d.before a0 Z = true) : (Jvm.Cond.fieldLink "java/lang/String" (9 : Nat) "java/lang/String" "value" "[B").before a0 Z = true := hw _ (List.mem_of_getElem? (i := 47) rfl)
theorem w_48 {Z : State} {a0 : Array Value} (hw : ∀ d ∈ tables_1, d.before a0 Z = true) : (Jvm.Cond.fieldLink "java/lang/String" (15 : Nat) "java/lang/String" "coder" "B").before a0 Z = true := hw _ (List.mem_of_getElem? (i := 48) rfl)
theorem w_49 {Z : State} {a0 : Array Value} (hw : ∀ d ∈ tables_1, d.before a0 Z = true) : (Jvm.Cond.fieldLink "java/lang/String" (38 : Nat) "java/lang/String" "COMPACT_STRINGS" "Z").before a0 Z = true := hw _ (List.mem_of_getElem? (i := 49) rfl)
theorem w_50 {Z : State} {a0 : Array Value} (hw : ∀ d ∈ tables_1, d.before a0 Z = true) : (Jvm.Cond.methodLink "java/lang/String" (177 : Nat) ({ cls := "java/lang/StringUTF16", name := "compress", desc := "([CII)[B" } : Jvm.MethodName)).before a0 Z = true := hw _ (List.mem_of_getElem? (i := 50) rfl)
theorem w_51 {Z : State} {a0 : Array Value} (hw : ∀ d ∈ tables_1, d.before a0 Z = true) : (Jvm.Cond.static ({ cls := "java/lang/StringUTF16", name := "compress", desc := "([CII)[B" } : Jvm.MethodName)).before a0 Z = true := hw _ (List.mem_of_getElem? (i := 51) rfl)
theorem w_52 {Z : State} {a0 : Array Value} (hw : ∀ d ∈ tables_1, d.before a0 Z = true) : (Jvm.Cond.initialized "java/lang/StringUTF16").before a0 Z = true := hw _ (List.mem_of_getElem? (i := 52) rfl)
theorem w_53 {Z : State} {a0 : Array Value} (hw : ∀ d ∈ tables_1, d.before a0 Z = true) : (Jvm.Cond.code ({ cls := "java/lang/StringUTF16", name := "compress", desc := "([CII)[B" } : Jvm.MethodName) jdk_52_method_16_code (6 : Nat) (Option.some (Jvm.ClassFile.FieldType.array Jvm.ClassFile.FieldType.byte))).before a0 Z = true := hw _ (List.mem_of_getElem? (i := 53) rfl)
theorem w_54 {Z : State} {a0 : Array Value} (hw : ∀ d ∈ tables_1, d.before a0 Z = true) : (Jvm.Cond.methodLink "java/lang/StringUTF16" (115 : Nat) ({ cls := "java/lang/StringUTF16", name := "compress", desc := "([CI[BII)I" } : Jvm.MethodName)).before a0 Z = true := hw _ (List.mem_of_getElem? (i := 54) rfl)
theorem w_55 {Z : State} {a0 : Array Value} (hw : ∀ d ∈ tables_1, d.before a0 Z = true) : (Jvm.Cond.static ({ cls := "java/lang/StringUTF16", name := "compress", desc := "([CI[BII)I" } : Jvm.MethodName)).before a0 Z = true := hw _ (List.mem_of_getElem? (i := 55) rfl)
theorem w_56 {Z : State} {a0 : Array Value} (hw : ∀ d ∈ tables_1, d.before a0 Z = true) : (Jvm.Cond.code ({ cls := "java/lang/StringUTF16", name := "compress", desc := "([CI[BII)I" } : Jvm.MethodName) jdk_52_method_21_code (7 : Nat) (Option.some Jvm.ClassFile.FieldType.int)).before a0 Z = true := hw _ (List.mem_of_getElem? (i := 56) rfl)
theorem w_57 {Z : State} {a0 : Array Value} (hw : ∀ d ∈ tables_1, d.before a0 Z = true) : (Jvm.Cond.methodLink "java/lang/String" (47 : Nat) ({ cls := "java/lang/StringUTF16", name := "coderFromArrayLen", desc := "([BI)B" } : Jvm.MethodName)).before a0 Z = true := hw _ (List.mem_of_getElem? (i := 57) rfl)
theorem w_58 {Z : State} {a0 : Array Value} (hw : ∀ d ∈ tables_1, d.before a0 Z = true) : (Jvm.Cond.static ({ cls := "java/lang/StringUTF16", name := "coderFromArrayLen", desc := "([BI)B" } : Jvm.MethodName)).before a0 Z = true := hw _ (List.mem_of_getElem? (i := 58) rfl)
theorem w_59 {Z : State} {a0 : Array Value} (hw : ∀ d ∈ tables_1, d.before a0 Z = true) : (Jvm.Cond.code ({ cls := "java/lang/StringUTF16", name := "coderFromArrayLen", desc := "([BI)B" } : Jvm.MethodName) jdk_52_method_15_code (2 : Nat) (Option.some Jvm.ClassFile.FieldType.byte)).before a0 Z = true := hw _ (List.mem_of_getElem? (i := 59) rfl)
theorem w_60 {Z : State} {a0 : Array Value} (hw : ∀ d ∈ tables_1, d.before a0 Z = true) : (Jvm.Cond.classLink "com/example/sumgen/sumgen/model/ReferenceToOneVariantPinLaw" (18 : Nat) "com/example/sumgen/sumgen/model/Place").before a0 Z = true := hw _ (List.mem_of_getElem? (i := 60) rfl)
theorem w_61 {Z : State} {a0 : Array Value} (hw : ∀ d ∈ tables_1, d.before a0 Z = true) : (Jvm.Cond.instantiable "com/example/sumgen/sumgen/model/Place" (3 : Nat)).before a0 Z = true := hw _ (List.mem_of_getElem? (i := 61) rfl)
theorem w_62 {Z : State} {a0 : Array Value} (hw : ∀ d ∈ tables_1, d.before a0 Z = true) : (Jvm.Cond.initialized "com/example/sumgen/sumgen/model/Place").before a0 Z = true := hw _ (List.mem_of_getElem? (i := 62) rfl)
theorem w_63 {Z : State} {a0 : Array Value} (hw : ∀ d ∈ tables_1, d.before a0 Z = true) : (Jvm.Cond.methodLink "com/example/sumgen/sumgen/model/ReferenceToOneVariantPinLaw" (20 : Nat) ({ cls := "com/example/sumgen/sumgen/model/Place", name := "<init>", desc := "(Ljava/lang/String;II)V" } : Jvm.MethodName)).before a0 Z = true := hw _ (List.mem_of_getElem? (i := 63) rfl)
theorem w_64 {Z : State} {a0 : Array Value} (hw : ∀ d ∈ tables_1, d.before a0 Z = true) : (Jvm.Cond.instanceMethod ({ cls := "com/example/sumgen/sumgen/model/Place", name := "<init>", desc := "(Ljava/lang/String;II)V" } : Jvm.MethodName)).before a0 Z = true := hw _ (List.mem_of_getElem? (i := 64) rfl)
theorem w_65 {Z : State} {a0 : Array Value} (hw : ∀ d ∈ tables_1, d.before a0 Z = true) : (Jvm.Cond.code ({ cls := "com/example/sumgen/sumgen/model/Place", name := "<init>", desc := "(Ljava/lang/String;II)V" } : Jvm.MethodName) prog_17_method_1_code (4 : Nat) (Option.none : Option Jvm.ClassFile.FieldType)).before a0 Z = true := hw _ (List.mem_of_getElem? (i := 65) rfl)
theorem w_66 {Z : State} {a0 : Array Value} (hw : ∀ d ∈ tables_1, d.before a0 Z = true) : (Jvm.Cond.methodLink "com/example/sumgen/sumgen/model/Place" (1 : Nat) ({ cls := "java/lang/Record", name := "<init>", desc := "()V" } : Jvm.MethodName)).before a0 Z = true := hw _ (List.mem_of_getElem? (i := 66) rfl)
theorem w_67 {Z : State} {a0 : Array Value} (hw : ∀ d ∈ tables_1, d.before a0 Z = true) : (Jvm.Cond.fieldLink "com/example/sumgen/sumgen/model/Place" (7 : Nat) "com/example/sumgen/sumgen/model/Place" "file" "Ljava/lang/String;").before a0 Z = true := hw _ (List.mem_of_getElem? (i := 67) rfl)
theorem w_68 {Z : State} {a0 : Array Value} (hw : ∀ d ∈ tables_1, d.before a0 Z = true) : (Jvm.Cond.laysFinal "com/example/sumgen/sumgen/model/Place" "com/example/sumgen/sumgen/model/Place" "file" "Ljava/lang/String;").before a0 Z = true := hw _ (List.mem_of_getElem? (i := 68) rfl)
theorem w_69 {Z : State} {a0 : Array Value} (hw : ∀ d ∈ tables_1, d.before a0 Z = true) : (Jvm.Cond.fieldLink "com/example/sumgen/sumgen/model/Place" (13 : Nat) "com/example/sumgen/sumgen/model/Place" "line" "I").before a0 Z = true := hw _ (List.mem_of_getElem? (i := 69) rfl)
theorem w_70 {Z : State} {a0 : Array Value} (hw : ∀ d ∈ tables_1, d.before a0 Z = true) : (Jvm.Cond.laysFinal "com/example/sumgen/sumgen/model/Place" "com/example/sumgen/sumgen/model/Place" "line" "I").before a0 Z = true := hw _ (List.mem_of_getElem? (i := 70) rfl)
theorem w_71 {Z : State} {a0 : Array Value} (hw : ∀ d ∈ tables_1, d.before a0 Z = true) : (Jvm.Cond.fieldLink "com/example/sumgen/sumgen/model/Place" (17 : Nat) "com/example/sumgen/sumgen/model/Place" "column" "I").before a0 Z = true := hw _ (List.mem_of_getElem? (i := 71) rfl)
theorem w_72 {Z : State} {a0 : Array Value} (hw : ∀ d ∈ tables_1, d.before a0 Z = true) : (Jvm.Cond.laysFinal "com/example/sumgen/sumgen/model/Place" "com/example/sumgen/sumgen/model/Place" "column" "I").before a0 Z = true := hw _ (List.mem_of_getElem? (i := 72) rfl)
theorem sA {Z : State} {a0 : Array Value} (hw : ∀ d ∈ tables_1, d.before a0 Z = true) : ∀ a ∈ Bundle.stringAtoms, a.before a0 Z = true := fun a ha => by
  simp only [Bundle.stringAtoms, List.mem_cons, List.not_mem_nil, or_false] at ha
  rcases ha with rfl | rfl | rfl | rfl | rfl | rfl | rfl
  · exact w_31 hw
  · exact w_30 hw
  · exact w_42 hw
  · exact w_43 hw
  · exact w_44 hw
  · exact w_45 hw
  · exact w_46 hw
abbrev R_m_record : Room := { frames := 1, cells := 0, slots := 0, locals := 12 }
theorem pn_m_record : plainName "java/lang/Record" = true := by first | (simp [plainName, overriddenIn]; done) | decide +kernel
abbrev Q_m_record (Z : State) (a : Addr) (h0 : Heap) : Option Value → Heap → List Addr → Prop := fun res h' SN => res = none ∧ SN = [] ∧ h0 = h'
theorem ef_m_record (m : MethodId) (a : Addr) : entryFrame m #[(.ref a)] 1 = mkF m 0 #[.val (.ref a)] [] := by first | (simp [entryFrame, mkF, argsToLocals, Value.category]; done) | rfl
set_option maxRecDepth 65536 in
set_option maxHeartbeats 40000000 in
theorem m_record {l : Launch} {Z : State} {a0 : Array Value} {n0 : Nat} (hw : ∀ d ∈ tables_1, d.before a0 Z = true) (hs : Stat Z) (a : Addr) (h0 : Heap) :
    Met l Z EL0 n0 NR0 KN0 N_0 jdk_30_method_1_code 1 (Option.none : Option Jvm.ClassFile.FieldType) R_m_record [] #[(.ref a)] h0 (Q_m_record Z a h0) := by
  refine Met.of_go (plainFor_of_name pn_m_record) (fun m => ef_m_record m a ) ?_
  intro hO hWS
  refine Go.aload_n (pc' := 1) d_jdk_30_method_1_0 rfl rfl rfl ?_
  refine Go.initO (pc' := 4) (W := 0) d_jdk_30_method_1_1 rfl (w_15 hw) (w_16 hw) (w_17 hw) rfl (by decide) (Nat.le_of_eq rfl) (by decide) ?_
  exact Go.retV d_jdk_30_method_1_4 rfl (by decide) (by decide) [] sn0 ⟨rfl, rfl, rfl⟩
abbrev R_m_cmpL : Room := { frames := 0, cells := 0, slots := 0, locals := 0 }
set_option maxRecDepth 65536 in
set_option maxHeartbeats 40000000 in
theorem m_cmpL_loop {l : Launch} {Z : State} {n0 : Nat} {h0 : Heap} {Q : Option Value → Heap → List Addr → Prop} {c t : Addr} {kc kt : ClassId} {cs : List Int32} {z : Int32} (hz : z.toNatClampNeg = cs.length) (hcs : ∀ x ∈ cs, ¬ x < 0 ∧ ¬ 255 < x) (ne_c_t : c ≠ t)
    (K : ∀ h' o, Arv Z h' t kt .byte z (cs.map lowV) (.int (0 : Int32)) → Go l Z EL0 n0 NR0 KN0 N_1 jdk_52_method_21_code 7 (Option.some Jvm.ClassFile.FieldType.int) R_m_cmpL h0 [t] Q [t] h' 0 0 44 #[.val (.ref c), .val (.int (Int32.ofNat cs.length)), .val (.ref t), .val (.int (Int32.ofNat cs.length)), .val (.int z), .val (.int (Int32.ofNat cs.length)), o] []) :
    ∀ (m i : Nat) (h : Heap) (o : Slot), i + m = cs.length → One o → Arv Z h c kc .char z (cs.map Value.int) (.int (0 : Int32)) → Arv Z h t kt .byte z ((cs.take i).map lowV ++ List.replicate m (.int (0 : Int32))) (.int (0 : Int32)) →
      Go l Z EL0 n0 NR0 KN0 N_1 jdk_52_method_21_code 7 (Option.some Jvm.ClassFile.FieldType.int) R_m_cmpL h0 [t] Q [t] h 0 0 3 #[.val (.ref c), .val (.int (Int32.ofNat i)), .val (.ref t), .val (.int (Int32.ofNat i)), .val (.int z), .val (.int (Int32.ofNat i)), o] [] := by
  intro m
  induction m with
  | zero =>
    intro i h o hi ho V_c V_t
    obtain rfl : i = cs.length := by omega
    have zn := arv_nn V_c
    have q := (back32 zn).2
    refine Go.iload (pc' := 5) d_jdk_52_method_21_3 rfl rfl ?_
    refine Go.iload (pc' := 7) d_jdk_52_method_21_5 rfl rfl ?_
    refine Go.icmpY (pc' := 44) d_jdk_52_method_21_7 (by decide) (by decide) (flt (ofNat_ge zn (by omega) (Nat.le_of_eq hz) : ¬ ((Int32.ofNat cs.length) < z))).2.1 ?_
    refine K h o ?_
    simpa using V_t
  | succ m ih =>
    intro i h o hi ho V_c V_t
    have zn := arv_nn V_c
    have q := (back32 zn).2
    have hi2 : i < cs.length := by omega
    have b1 := getD_mem hcs hi2
    have ci := ofNat_clamp (i := i) (by omega)
    have nn := ofNat_nn (i := i) (by omega)
    have lt := ofNat_lt (i := i) zn (by omega)
    refine Go.iload (pc' := 5) d_jdk_52_method_21_3 rfl rfl ?_
    refine Go.iload (pc' := 7) d_jdk_52_method_21_5 rfl rfl ?_
    refine Go.icmpN (pc' := 10) d_jdk_52_method_21_7 rfl (tlt (lt : (Int32.ofNat i) < z)).2.1 ?_
    refine Go.aload_n (pc' := 11) d_jdk_52_method_21_10 rfl rfl rfl ?_
    refine Go.iload_n (pc' := 12) d_jdk_52_method_21_11 rfl rfl ?_
    refine Go.caloadV (pc' := 13) (v := (.int (cs.getD i 0))) d_jdk_52_method_21_12 rfl V_c ⟨nn, lt⟩ (by rw [ci]; exact getD_int cs i) ?_
    refine Go.istoreS (pc' := 15) (Ls' := #[.val (.ref c), .val (.int (Int32.ofNat i)), .val (.ref t), .val (.int (Int32.ofNat i)), .val (.int z), .val (.int (Int32.ofNat i)), .val (.int (cs.getD i 0))]) d_jdk_52_method_21_13 rfl rfl ho rfl ?_
    refine Go.iload (pc' := 17) d_jdk_52_method_21_15 rfl rfl ?_
    refine Go.sipush (pc' := 20) d_jdk_52_method_21_17 rfl ics_255 ?_
    refine Go.icmpY (pc' := 26) d_jdk_52_method_21_20 (by decide) (by decide) (flt (b1.2 : ¬ ((255 : Int32) < (cs.getD i 0)))).2.2.2 ?_
    refine Go.aload_n (pc' := 27) d_jdk_52_method_21_26 rfl rfl rfl ?_
    refine Go.iload_n (pc' := 28) d_jdk_52_method_21_27 rfl rfl ?_
    refine Go.iload (pc' := 30) d_jdk_52_method_21_28 rfl rfl ?_
    refine Go.i2b (pc' := 31) d_jdk_52_method_21_30 rfl ?_
    refine Go.bastoreV (pc' := 32) (i := i) d_jdk_52_method_21_31 rfl (List.mem_of_getElem? (i := 0) rfl) V_t ⟨nn, lt⟩ ci (by simp; omega) ?_
    intro h2 W2 V_t2
    rw [nar_byte] at V_t2
    have V_t3 := V_t2
    rw [show (Value.int (cs.getD i 0).toInt8.toInt32) = lowV (cs.getD i 0) from rfl, set_low cs i m hi2] at V_t3
    replace V_c := V_c.other W2 ne_c_t
    change Go _ _ _ _ _ _ _ _ _ _ _ _ _ _ [t] h2 0 0 32 #[.val (.ref c), .val (.int (Int32.ofNat i)), .val (.ref t), .val (.int (Int32.ofNat i)), .val (.int z), .val (.int (Int32.ofNat i)), .val (.int (cs.getD i 0))] []
    refine Go.iinc (pc' := 35) (Ls' := #[.val (.ref c), .val (.int ((Int32.ofNat i) + (1 : Int32))), .val (.ref t), .val (.int (Int32.ofNat i)), .val (.int z), .val (.int (Int32.ofNat i)), .val (.int (cs.getD i 0))]) d_jdk_52_method_21_32 rfl ic_1 rfl rfl ?_
    refine Go.iinc (pc' := 38) (Ls' := #[.val (.ref c), .val (.int ((Int32.ofNat i) + (1 : Int32))), .val (.ref t), .val (.int ((Int32.ofNat i) + (1 : Int32))), .val (.int z), .val (.int (Int32.ofNat i)), .val (.int (cs.getD i 0))]) d_jdk_52_method_21_35 rfl ic_1 rfl rfl ?_
    refine Go.iinc (pc' := 41) (Ls' := #[.val (.ref c), .val (.int ((Int32.ofNat i) + (1 : Int32))), .val (.ref t), .val (.int ((Int32.ofNat i) + (1 : Int32))), .val (.int z), .val (.int ((Int32.ofNat i) + (1 : Int32))), .val (.int (cs.getD i 0))]) d_jdk_52_method_21_38 rfl ic_1 rfl rfl ?_
    refine Go.goto (pc' := 3) d_jdk_52_method_21_41 (by decide) (by decide) ?_
    rw [ofNat_succ i]
    exact ih (i + 1) h2 _ (by omega) (One.val rfl) V_c V_t3
theorem pn_m_cmpL : plainName "java/lang/StringUTF16" = true := by first | (simp [plainName, overriddenIn]; done) | decide +kernel
theorem ef_m_cmpL (m : MethodId) (c t : Addr) (z : Int32) : entryFrame m #[(.ref c), (.int (0 : Int32)), (.ref t), (.int (0 : Int32)), (.int z)] 7 = mkF m 0 #[.val (.ref c), .val (.int (0 : Int32)), .val (.ref t), .val (.int (0 : Int32)), .val (.int z), .unset, .unset] [] := by first | (simp [entryFrame, mkF, argsToLocals, Value.category]; done) | rfl
set_option maxRecDepth 65536 in
set_option maxHeartbeats 40000000 in
theorem m_cmpL {l : Launch} {Z : State} {a0 : Array Value} {n0 : Nat} (hw : ∀ d ∈ tables_1, d.before a0 Z = true) (hs : Stat Z) (c t : Addr) (kc kt : ClassId) (cs : List Int32) (z : Int32) (h0 : Heap) (V_c : Arv Z h0 c kc .char z (cs.map Value.int) (.int (0 : Int32))) (V_t : Arv Z h0 t kt .byte z (List.replicate cs.length (.int (0 : Int32))) (.int (0 : Int32))) (hz : z.toNatClampNeg = cs.length) (hcs : ∀ x ∈ cs, ¬ x < 0 ∧ ¬ 255 < x) (ne_c_t : c ≠ t) :
    Met l Z EL0 n0 NR0 KN0 N_1 jdk_52_method_21_code 7 (Option.some Jvm.ClassFile.FieldType.int) R_m_cmpL [t] #[(.ref c), (.int (0 : Int32)), (.ref t), (.int (0 : Int32)), (.int z)] h0 (fun v h' SN => v = some (.int z) ∧ SN = [] ∧ Arv Z h' t kt .byte z (cs.map lowV) (.int (0 : Int32))) := by
  refine Met.of_go (plainFor_of_name pn_m_cmpL) (fun m => ef_m_cmpL m c t z) ?_
  intro hO hWS
  refine Go.iconst (pc' := 1) d_jdk_52_method_21_0 rfl ic_0 ?_
  refine Go.istore (pc' := 3) (Ls' := #[.val (.ref c), .val (.int (0 : Int32)), .val (.ref t), .val (.int (0 : Int32)), .val (.int z), .val (.int (0 : Int32)), .unset]) d_jdk_52_method_21_1 rfl rfl ?_
  refine m_cmpL_loop (kc := kc) hz hcs ne_c_t (fun h' o V => ?_) cs.length 0 h0 _ (by omega) One.u V_c (by simpa using V_t)
  refine Go.iload (pc' := 46) d_jdk_52_method_21_44 rfl rfl ?_
  exact Go.retI d_jdk_52_method_21_46 rfl (by decide) (by decide) [] sn0 ⟨rfl, rfl, V⟩
abbrev R_m_cmp : Room := { frames := 1, cells := 1, slots := 2, locals := 18 }
theorem pn_m_cmp : plainName "java/lang/StringUTF16" = true := by first | (simp [plainName, overriddenIn]; done) | decide +kernel
abbrev Q_m_cmp (Z : State) (c : Addr) (kc : ClassId) (cs : List Int32) (z : Int32) (h0 : Heap) : Option Value → Heap → List Addr → Prop := fun res h' SN => ∃ (t : Addr) (kt : ClassId), res = some (.ref t) ∧ SN = [] ∧ h0.size ≤ t ∧ Arv Z h' t kt .byte z (cs.map lowV) (.int (0 : Int32))
theorem ef_m_cmp (m : MethodId) (c : Addr) (kc : ClassId) (cs : List Int32) (z : Int32) : entryFrame m #[(.ref c), (.int (0 : Int32)), (.int z)] 6 = mkF m 0 #[.val (.ref c), .val (.int (0 : Int32)), .val (.int z), .unset, .unset, .unset] [] := by first | (simp [entryFrame, mkF, argsToLocals, Value.category]; done) | rfl
set_option maxRecDepth 65536 in
set_option maxHeartbeats 40000000 in
theorem m_cmp {l : Launch} {Z : State} {a0 : Array Value} {n0 : Nat} (hw : ∀ d ∈ tables_1, d.before a0 Z = true) (hs : Stat Z) (c : Addr) (kc : ClassId) (cs : List Int32) (z : Int32) (h0 : Heap) (V_c : Arv Z h0 c kc .char z (cs.map Value.int) (.int (0 : Int32))) (hz : z.toNatClampNeg = cs.length) (hcs : ∀ x ∈ cs, ¬ x < 0 ∧ ¬ 255 < x) (hcap : z.toNatClampNeg ≤ CAP) :
    Met l Z EL0 n0 NR0 KN0 N_2 jdk_52_method_16_code 6 (Option.some (Jvm.ClassFile.FieldType.array Jvm.ClassFile.FieldType.byte)) R_m_cmp [] #[(.ref c), (.int (0 : Int32)), (.int z)] h0 (Q_m_cmp Z c kc cs z h0) := by
  refine Met.of_go (plainFor_of_name pn_m_cmp) (fun m => ef_m_cmp m c kc cs z ) ?_
  intro hO hWS
  have zn := arv_nn V_c
  refine Go.iload_n (pc' := 1) d_jdk_52_method_16_0 rfl rfl ?_
  refine Go.newP (pc' := 3) (cap := CAP) (ad := "[B") d_jdk_52_method_16_1 rfl (w_42 hw) (by decide) zn hcap (by decide) (by decide) (by decide) ?_
  intro h1 b1 g1 ge_b1 k1 x1 V_b1 E_b1
  have o_c_b1 : c ≠ b1 := Nat.ne_of_lt (Nat.lt_of_lt_of_le V_c.lt (Nat.le_of_eq g1))
  replace V_c := V_c.ext x1
  replace V_b1 : Arv Z h1 b1 k1 .byte z (List.replicate cs.length (.int (0 : Int32))) (.int (0 : Int32)) := V_b1.pad (fun i => pad_rep [] _ cs.length i)
  change Go _ _ _ _ _ _ _ _ _ _ _ _ _ _ [b1] h1 1 2 3 #[.val (.ref c), .val (.int (0 : Int32)), .val (.int z), .unset, .unset, .unset] [(.ref b1)]
  refine Go.astore_n (pc' := 4) (Ls' := #[.val (.ref c), .val (.int (0 : Int32)), .val (.int z), .val (.ref b1), .unset, .unset]) d_jdk_52_method_16_3 rfl rfl rfl ?_
  refine Go.aload_n (pc' := 5) d_jdk_52_method_16_4 rfl rfl rfl ?_
  refine Go.iload_n (pc' := 6) d_jdk_52_method_16_5 rfl rfl ?_
  refine Go.aload_n (pc' := 7) d_jdk_52_method_16_6 rfl rfl rfl ?_
  refine Go.iconst (pc' := 8) d_jdk_52_method_16_7 rfl ic_0 ?_
  refine Go.iload_n (pc' := 9) d_jdk_52_method_16_8 rfl rfl ?_
  refine Go.callS (pc' := 12) (z := N_1) d_jdk_52_method_16_9 rfl (w_54 hw) (w_55 hw) (w_52 hw) (w_56 hw) (by decide) (argsL := [(.ref c), (.int (0 : Int32)), (.ref b1), (.int (0 : Int32)), (.int z)]) (rest := []) (Pays.of_met (W := 0) (len := 3) (m_cmpL hw hs c b1 kc k1 cs z h1 V_c V_b1 (hz) (hcs) o_c_b1) (w_56 hw) (w_52 hw) (by decide) (by decide)) rfl rfl (lenOf pd_0 rfl) rfl (Nat.le_of_eq rfl) (memS (List.mem_of_getElem? (i := 0) rfl) mem0) (by decide) (by decide) ?_
  rintro _ h1 _ K2 le3 ⟨rfl, rfl, p4⟩
  replace V_c := V_c.keep K2 (ninS o_c_b1 nin0)
  have V_b1 := p4
  change Go _ _ _ _ _ _ _ _ _ _ _ _ _ _ [b1] h1 1 2 12 #[.val (.ref c), .val (.int (0 : Int32)), .val (.int z), .val (.ref b1), .unset, .unset] [(.int z)]
  refine Go.istore (pc' := 14) (Ls' := #[.val (.ref c), .val (.int (0 : Int32)), .val (.int z), .val (.ref b1), .val (.int z), .unset]) d_jdk_52_method_16_12 rfl rfl ?_
  refine Go.iload (pc' := 16) d_jdk_52_method_16_14 rfl rfl ?_
  refine Go.iload_n (pc' := 17) d_jdk_52_method_16_16 rfl rfl ?_
  refine Go.icmpY (pc' := 57) d_jdk_52_method_16_17 (by decide) (by decide) (teq (rfl : z = z)).1 ?_
  refine Go.aload_n (pc' := 58) d_jdk_52_method_16_57 rfl rfl rfl ?_
  exact Go.retA d_jdk_52_method_16_58 rfl rfl rfl (by decide) (by decide) [] sn0 ⟨b1, k1, rfl, rfl, ge_b1, V_b1⟩
abbrev R_m_cfl : Room := { frames := 0, cells := 0, slots := 0, locals := 0 }
theorem pn_m_cfl : plainName "java/lang/StringUTF16" = true := by first | (simp [plainName, overriddenIn]; done) | decide +kernel
abbrev Q_m_cfl (Z : State) (t : Addr) (kt : ClassId) (z : Int32) (vs : List Value) (h0 : Heap) : Option Value → Heap → List Addr → Prop := fun res h' SN => res = some (.int (0 : Int32)) ∧ SN = [] ∧ h0 = h'
theorem ef_m_cfl (m : MethodId) (t : Addr) (kt : ClassId) (z : Int32) (vs : List Value) : entryFrame m #[(.ref t), (.int z)] 2 = mkF m 0 #[.val (.ref t), .val (.int z)] [] := by first | (simp [entryFrame, mkF, argsToLocals, Value.category]; done) | rfl
set_option maxRecDepth 65536 in
set_option maxHeartbeats 40000000 in
theorem m_cfl {l : Launch} {Z : State} {a0 : Array Value} {n0 : Nat} (hw : ∀ d ∈ tables_1, d.before a0 Z = true) (hs : Stat Z) (t : Addr) (kt : ClassId) (z : Int32) (vs : List Value) (h0 : Heap) (V_t : Arv Z h0 t kt .byte z vs (.int (0 : Int32))) :
    Met l Z EL0 n0 NR0 KN0 N_3 jdk_52_method_15_code 2 (Option.some Jvm.ClassFile.FieldType.byte) R_m_cfl [] #[(.ref t), (.int z)] h0 (Q_m_cfl Z t kt z vs h0) := by
  refine Met.of_go (plainFor_of_name pn_m_cfl) (fun m => ef_m_cfl m t kt z vs ) ?_
  intro hO hWS
  refine Go.iload_n (pc' := 1) d_jdk_52_method_15_0 rfl rfl ?_
  refine Go.aload_n (pc' := 2) d_jdk_52_method_15_1 rfl rfl rfl ?_
  refine Go.lenV (pc' := 3) d_jdk_52_method_15_2 rfl V_t ?_
  refine Go.isub (pc' := 4) d_jdk_52_method_15_3 rfl ?_
  refine Go.bipush (pc' := 6) d_jdk_52_method_15_4 rfl icb_31 ?_
  refine Go.iushr (pc' := 7) d_jdk_52_method_15_6 rfl ?_
  refine Go.i2b (pc' := 8) d_jdk_52_method_15_7 rfl ?_
  rw [own_coder0]
  exact Go.retS (ty := .byte) d_jdk_52_method_15_8 rfl (by simp) rfl (by decide) (by decide) [] sn0 ⟨rfl, rfl, rfl⟩
abbrev R_m_str4 : Room := { frames := 2, cells := 1, slots := 2, locals := 35 }
theorem pn_m_str4 : plainName "java/lang/String" = true := by first | (simp [plainName, overriddenIn]; done) | decide +kernel
abbrev Q_m_str4 (Z : State) (a : Addr) (c : Addr) (kc : ClassId) (cs : List Int32) (z : Int32) (h0 : Heap) : Option Value → Heap → List Addr → Prop := fun res h' SN => ∃ (t : Addr) (kt : ClassId), res = none ∧ SN = [] ∧ Exa Z h' a "java/lang/String" ∧ Fld Z h' a "java/lang/String" "coder" "B" (.int (0 : Int32)) ∧ Fld Z h' a "java/lang/String" "value" "[B" (.ref t) ∧ Arv Z h' t kt .byte z (cs.map lowV) (.int (0 : Int32)) ∧ h0.size ≤ t
theorem ef_m_str4 (m : MethodId) (a : Addr) (c : Addr) (kc : ClassId) (cs : List Int32) (z : Int32) : entryFrame m #[(.ref a), (.ref c), (.int (0 : Int32)), (.int z), .null] 6 = mkF m 0 #[.val (.ref a), .val (.ref c), .val (.int (0 : Int32)), .val (.int z), .val .null, .unset] [] := by first | (simp [entryFrame, mkF, argsToLocals, Value.category]; done) | rfl
set_option maxRecDepth 65536 in
set_option maxHeartbeats 40000000 in
theorem m_str4 {l : Launch} {Z : State} {a0 : Array Value} {n0 : Nat} (hw : ∀ d ∈ tables_1, d.before a0 Z = true) (hs : Stat Z) (a : Addr) (c : Addr) (kc : ClassId) (cs : List Int32) (z : Int32) (h0 : Heap) (E_a : Exa Z h0 a "java/lang/String") (F_a_coder : Fld Z h0 a "java/lang/String" "coder" "B" (.int (0 : Int32))) (F_a_value : Fld Z h0 a "java/lang/String" "value" "[B" .null) (V_c : Arv Z h0 c kc .char z (cs.map Value.int) (.int (0 : Int32))) (hz : z.toNatClampNeg = cs.length) (hcs : ∀ x ∈ cs, ¬ x < 0 ∧ ¬ 255 < x) (hcs0 : cs ≠ []) (hcap : z.toNatClampNeg ≤ CAP) (ne_c_a : c ≠ a) :
    Met l Z EL0 n0 NR0 KN0 N_4 jdk_42_method_149_code 6 (Option.none : Option Jvm.ClassFile.FieldType) R_m_str4 [a] #[(.ref a), (.ref c), (.int (0 : Int32)), (.int z), .null] h0 (Q_m_str4 Z a c kc cs z h0) := by
  refine Met.of_go (plainFor_of_name pn_m_str4) (fun m => ef_m_str4 m a c kc cs z ) ?_
  intro hO hWS
  obtain ⟨zc, S_c, hzc⟩ := hs_c hs
  have zn := arv_nn V_c
  refine Go.aload_n (pc' := 1) d_jdk_42_method_149_0 rfl rfl rfl ?_
  refine Go.initO (pc' := 4) (W := 0) d_jdk_42_method_149_1 rfl (w_40 hw) (w_16 hw) (w_17 hw) rfl (by decide) (Nat.le_of_eq rfl) (by decide) ?_
  refine Go.iload_n (pc' := 5) d_jdk_42_method_149_4 rfl rfl ?_
  refine Go.ifY (pc' := 27) d_jdk_42_method_149_5 (by decide) (by decide) ((if0 _ _).trans (feq (own_nz hz hcs0 : ¬ (z = (0 : Int32)))).2) ?_
  refine Go.getS (pc' := 30) d_jdk_42_method_149_27 rfl (host := "") (Or.inl (w_49 hw)) Via.refl S_c ?_
  refine Go.ifN (pc' := 33) d_jdk_42_method_149_30 rfl ((if0 _ _).trans (feq (hzc : ¬ (zc = (0 : Int32)))).1) ?_
  refine Go.aload_n (pc' := 34) d_jdk_42_method_149_33 rfl rfl rfl ?_
  refine Go.iload_n (pc' := 35) d_jdk_42_method_149_34 rfl rfl ?_
  refine Go.iload_n (pc' := 36) d_jdk_42_method_149_35 rfl rfl ?_
  refine Go.callS (pc' := 39) (z := N_2) d_jdk_42_method_149_36 rfl (w_50 hw) (w_51 hw) (w_52 hw) (w_53 hw) (by decide) (argsL := [(.ref c), (.int (0 : Int32)), (.int z)]) (rest := []) (Pays.of_met (W := 0) (len := 3) (m_cmp hw hs c kc cs z h0 V_c (hz) (hcs) (hcap)) (w_53 hw) (w_52 hw) (by decide) (by decide)) rfl rfl (lenOf pd_1 rfl) rfl (Nat.le_of_eq rfl) mem0 (by decide) (by decide) ?_
  rintro _ h7 _ K8 le9 ⟨b5, q6, rfl, rfl, p10, p11⟩
  have o_a_b5 : a ≠ b5 := Nat.ne_of_lt (Nat.lt_of_lt_of_le E_a.lt p10)
  have o_c_b5 : c ≠ b5 := Nat.ne_of_lt (Nat.lt_of_lt_of_le V_c.lt p10)
  have ge_b5 := Nat.le_trans le9 p10
  replace E_a := E_a.keep K8
  replace F_a_coder := F_a_coder.keep K8 nin0
  replace F_a_value := F_a_value.keep K8 nin0
  replace V_c := V_c.keep K8 nin0
  have V_b5 := p11
  change Go _ _ _ _ _ _ _ _ _ _ _ _ _ _ [a] h7 1 2 39 #[.val (.ref a), .val (.ref c), .val (.int (0 : Int32)), .val (.int z), .val .null, .unset] [(.ref b5)]
  refine Go.astore (pc' := 41) (Ls' := #[.val (.ref a), .val (.ref c), .val (.int (0 : Int32)), .val (.int z), .val .null, .val (.ref b5)]) d_jdk_42_method_149_39 rfl rfl rfl ?_
  refine Go.aload_n (pc' := 42) d_jdk_42_method_149_41 rfl rfl rfl ?_
  refine Go.aload (pc' := 44) d_jdk_42_method_149_42 rfl rfl rfl ?_
  refine Go.iload_n (pc' := 45) d_jdk_42_method_149_44 rfl rfl ?_
  refine Go.callS (pc' := 48) (z := N_3) d_jdk_42_method_149_45 rfl (w_57 hw) (w_58 hw) (w_52 hw) (w_59 hw) (by decide) (argsL := [(.ref b5), (.int z)]) (rest := [(.ref a)]) (Pays.of_met (W := 1) (len := 3) (m_cfl hw hs b5 q6 z (cs.map lowV) h7 V_b5) (w_59 hw) (w_52 hw) (by decide) (by decide)) rfl rfl (lenOf pd_2 rfl) rfl (Nat.le_of_eq rfl) mem0 (by decide) (by decide) ?_
  rintro _ _ _ - - ⟨rfl, rfl, rfl⟩
  change Go _ _ _ _ _ _ _ _ _ _ _ _ _ _ [a] h7 1 2 48 #[.val (.ref a), .val (.ref c), .val (.int (0 : Int32)), .val (.int z), .val .null, .val (.ref b5)] [(.int (0 : Int32)), (.ref a)]
  refine Go.putFN (pc' := 51) (v' := (.int (0 : Int32))) d_jdk_42_method_149_48 rfl (List.mem_of_getElem? (i := 0) rfl) (w_48 hw) Via.refl F_a_coder E_a (Or.inr ⟨(w_44 hw), rfl, rfl⟩) (w_30 hw) (ty := .byte) (by decide) rfl rfl ?_
  intro h12 W13
  replace F_a_coder := F_a_coder.same W13
  replace E_a := E_a.wr W13
  replace F_a_value := F_a_value.other W13 (Or.inr (slot_ne (Or.inr (w_43 hw)) (Or.inr (w_44 hw)) (by decide) (t := (.array .byte)) (t' := .byte) (by decide) (by decide)))
  replace V_c := V_c.other W13 ne_c_a
  replace V_b5 := V_b5.other W13 (Ne.symm o_a_b5)
  change Go _ _ _ _ _ _ _ _ _ _ _ _ _ _ [a] h12 1 2 51 #[.val (.ref a), .val (.ref c), .val (.int (0 : Int32)), .val (.int z), .val .null, .val (.ref b5)] []
  refine Go.aload_n (pc' := 52) d_jdk_42_method_149_51 rfl rfl rfl ?_
  refine Go.aload (pc' := 54) d_jdk_42_method_149_52 rfl rfl rfl ?_
  refine Go.putF (pc' := 57) d_jdk_42_method_149_54 rfl (List.mem_of_getElem? (i := 0) rfl) (host := "") (Or.inl (w_47 hw)) Via.refl F_a_value E_a (Or.inr ⟨(w_43 hw), rfl, rfl⟩) (w_30 hw) (ty := (.array .byte)) (by decide) rfl rfl ?_
  intro h14 W15
  replace F_a_value := F_a_value.same W15
  replace E_a := E_a.wr W15
  replace V_c := V_c.other W15 ne_c_a
  replace V_b5 := V_b5.other W15 (Ne.symm o_a_b5)
  replace F_a_coder := F_a_coder.other W15 (Or.inr (slot_ne (Or.inr (w_44 hw)) (Or.inr (w_43 hw)) (by decide) (t := .byte) (t' := (.array .byte)) (by decide) (by decide)))
  change Go _ _ _ _ _ _ _ _ _ _ _ _ _ _ [a] h14 1 2 57 #[.val (.ref a), .val (.ref c), .val (.int (0 : Int32)), .val (.int z), .val .null, .val (.ref b5)] []
  exact Go.retV d_jdk_42_method_149_57 rfl (by decide) (by decide) [] sn0 ⟨b5, q6, rfl, rfl, E_a, F_a_coder, F_a_value, V_b5, ge_b5⟩
abbrev R_m_str : Room := { frames := 3, cells := 1, slots := 2, locals := 52 }
theorem pn_m_str : plainName "java/lang/String" = true := by first | (simp [plainName, overriddenIn]; done) | decide +kernel
abbrev Q_m_str (Z : State) (a : Addr) (c : Addr) (kc : ClassId) (cs : List Int32) (z : Int32) (h0 : Heap) : Option Value → Heap → List Addr → Prop := fun res h' SN => ∃ (t : Addr) (kt : ClassId), res = none ∧ SN = [] ∧ Exa Z h' a "java/lang/String" ∧ Fld Z h' a "java/lang/String" "coder" "B" (.int (0 : Int32)) ∧ Fld Z h' a "java/lang/String" "value" "[B" (.ref t) ∧ Arv Z h' t kt .byte z (cs.map lowV) (.int (0 : Int32)) ∧ h0.size ≤ t
theorem ef_m_str (m : MethodId) (a : Addr) (c : Addr) (kc : ClassId) (cs : List Int32) (z : Int32) : entryFrame m #[(.ref a), (.ref c)] 2 = mkF m 0 #[.val (.ref a), .val (.ref c)] [] := by first | (simp [entryFrame, mkF, argsToLocals, Value.category]; done) | rfl
set_option maxRecDepth 65536 in
set_option maxHeartbeats 40000000 in
theorem m_str {l : Launch} {Z : State} {a0 : Array Value} {n0 : Nat} (hw : ∀ d ∈ tables_1, d.before a0 Z = true) (hs : Stat Z) (a : Addr) (c : Addr) (kc : ClassId) (cs : List Int32) (z : Int32) (h0 : Heap) (E_a : Exa Z h0 a "java/lang/String") (F_a_coder : Fld Z h0 a "java/lang/String" "coder" "B" (.int (0 : Int32))) (F_a_value : Fld Z h0 a "java/lang/String" "value" "[B" .null) (V_c : Arv Z h0 c kc .char z (cs.map Value.int) (.int (0 : Int32))) (hz : z.toNatClampNeg = cs.length) (hcs : ∀ x ∈ cs, ¬ x < 0 ∧ ¬ 255 < x) (hcs0 : cs ≠ []) (hcap : z.toNatClampNeg ≤ CAP) (ne_c_a : c ≠ a) :
    Met l Z EL0 n0 NR0 KN0 N_5 jdk_42_method_3_code 2 (Option.none : Option Jvm.ClassFile.FieldType) R_m_str [a] #[(.ref a), (.ref c)] h0 (Q_m_str Z a c kc cs z h0) := by
  refine Met.of_go (plainFor_of_name pn_m_str) (fun m => ef_m_str m a c kc cs z ) ?_
  intro hO hWS
  refine Go.aload_n (pc' := 1) d_jdk_42_method_3_0 rfl rfl rfl ?_
  refine Go.aload_n (pc' := 2) d_jdk_42_method_3_1 rfl rfl rfl ?_
  refine Go.iconst (pc' := 3) d_jdk_42_method_3_2 rfl ic_0 ?_
  refine Go.aload_n (pc' := 4) d_jdk_42_method_3_3 rfl rfl rfl ?_
  refine Go.lenV (pc' := 5) d_jdk_42_method_3_4 rfl V_c ?_
  refine Go.aconst_null (pc' := 6) d_jdk_42_method_3_5 rfl ?_
  refine Go.callI (pc' := 9) (z := N_4) (a := a) d_jdk_42_method_3_6 rfl rfl (w_36 hw) (w_37 hw) (w_39 hw) (by decide) (argsL := [(.ref c), (.int (0 : Int32)), (.int z), .null]) (rest := []) (Pays.of_met (W := 0) (len := 3) (m_str4 hw hs a c kc cs z h0 E_a F_a_coder F_a_value V_c (hz) (hcs) (hcs0) (hcap) ne_c_a) (w_39 hw) (w_31 hw) (by decide) (by decide)) rfl rfl (lenOf pd_3 rfl) rfl (Nat.le_of_eq rfl) (memS (List.mem_of_getElem? (i := 0) rfl) mem0) (by decide) (by decide) ?_
  rintro _ h18 _ K19 le20 ⟨b16, q17, rfl, rfl, p21, p22, p23, p24, p25⟩
  have o_a_b16 : a ≠ b16 := Nat.ne_of_lt (Nat.lt_of_lt_of_le E_a.lt p25)
  have o_c_b16 : c ≠ b16 := Nat.ne_of_lt (Nat.lt_of_lt_of_le V_c.lt p25)
  have ge_b16 := Nat.le_trans le20 p25
  replace E_a := E_a.keep K19
  replace V_c := V_c.keep K19 (ninS ne_c_a nin0)
  have F_a_coder := p22
  have F_a_value := p23
  have V_b16 := p24
  change Go _ _ _ _ _ _ _ _ _ _ _ _ _ _ [a] h18 1 2 9 #[.val (.ref a), .val (.ref c)] []
  exact Go.retV d_jdk_42_method_3_9 rfl (by decide) (by decide) [] sn0 ⟨b16, q17, rfl, rfl, E_a, F_a_coder, F_a_value, V_b16, ge_b16⟩
abbrev R_m_str4e : Room := { frames := 1, cells := 4, slots := 8, locals := 12 }
theorem pn_m_str4e : plainName "java/lang/String" = true := by first | (simp [plainName, overriddenIn]; done) | decide +kernel
abbrev Q_m_str4e (Z : State) (a : Addr) (c : Addr) (h0 : Heap) : Option Value → Heap → List Addr → Prop := fun res h' SN => ∃ (t : Addr) (kt : ClassId), res = none ∧ SN = [] ∧ Exa Z h' a "java/lang/String" ∧ Fld Z h' a "java/lang/String" "coder" "B" (.int (0 : Int32)) ∧ Fld Z h' a "java/lang/String" "value" "[B" (.ref t) ∧ Arv Z h' t kt .byte (0 : Int32) [] (.int (0 : Int32))
theorem ef_m_str4e (m : MethodId) (a : Addr) (c : Addr) : entryFrame m #[(.ref a), (.ref c), (.int (0 : Int32)), (.int (0 : Int32)), .null] 6 = mkF m 0 #[.val (.ref a), .val (.ref c), .val (.int (0 : Int32)), .val (.int (0 : Int32)), .val .null, .unset] [] := by first | (simp [entryFrame, mkF, argsToLocals, Value.category]; done) | rfl
set_option maxRecDepth 65536 in
set_option maxHeartbeats 40000000 in
theorem m_str4e {l : Launch} {Z : State} {a0 : Array Value} {n0 : Nat} (hw : ∀ d ∈ tables_1, d.before a0 Z = true) (hs : Stat Z) (a : Addr) (c : Addr) (h0 : Heap) (E_a : Exa Z h0 a "java/lang/String") (F_a_coder : Fld Z h0 a "java/lang/String" "coder" "B" (.int (0 : Int32))) (F_a_value : Fld Z h0 a "java/lang/String" "value" "[B" .null) :
    Met l Z EL0 n0 NR0 KN0 N_4 jdk_42_method_149_code 6 (Option.none : Option Jvm.ClassFile.FieldType) R_m_str4e [a] #[(.ref a), (.ref c), (.int (0 : Int32)), (.int (0 : Int32)), .null] h0 (Q_m_str4e Z a c h0) := by
  refine Met.of_go (plainFor_of_name pn_m_str4e) (fun m => ef_m_str4e m a c ) ?_
  intro hO hWS
  refine Go.aload_n (pc' := 1) d_jdk_42_method_149_0 rfl rfl rfl ?_
  refine Go.initO (pc' := 4) (W := 0) d_jdk_42_method_149_1 rfl (w_40 hw) (w_16 hw) (w_17 hw) rfl (by decide) (Nat.le_of_eq rfl) (by decide) ?_
  refine Go.iload_n (pc' := 5) d_jdk_42_method_149_4 rfl rfl ?_
  refine Go.ifN (pc' := 8) d_jdk_42_method_149_5 rfl ((if0 _ _).trans (teq (rfl : (0 : Int32) = (0 : Int32))).2) ?_
  refine Go.aload_n (pc' := 9) d_jdk_42_method_149_8 rfl rfl rfl ?_
  refine Go.ldcS (pc' := 11) (nn := 0) (z := 0) (vs := []) rfl d_jdk_42_method_149_9 rfl (w_41 hw) (sA hw) (by decide) lit_0 (by decide) (by decide) (by decide) (by decide) (by decide) (by decide) ?_
  intro h26 s27 t28 q29 x30 E_s27 F_s27_coder F_s27_value V_t28 ne31
  replace E_a := E_a.ext x30
  replace F_a_coder := F_a_coder.ext x30
  replace F_a_value := F_a_value.ext x30
  have o_a_s27 := (ne31 a (List.mem_of_getElem? (i := 0) rfl)).1
  have o_a_t28 := (ne31 a (List.mem_of_getElem? (i := 0) rfl)).2
  change Go _ _ _ _ _ _ _ _ _ _ _ _ _ _ [a] h26 2 4 11 #[.val (.ref a), .val (.ref c), .val (.int (0 : Int32)), .val (.int (0 : Int32)), .val .null, .unset] [(.ref s27), (.ref a)]
  refine Go.getF (pc' := 14) d_jdk_42_method_149_11 rfl (host := "") (Or.inl (w_47 hw)) Via.refl F_s27_value ?_
  refine Go.putF (pc' := 17) d_jdk_42_method_149_14 rfl (List.mem_of_getElem? (i := 0) rfl) (host := "") (Or.inl (w_47 hw)) Via.refl F_a_value E_a (Or.inr ⟨(w_43 hw), rfl, rfl⟩) (w_30 hw) (ty := (.array .byte)) (by decide) rfl rfl ?_
  intro h32 W33
  replace F_a_value := F_a_value.same W33
  replace E_a := E_a.wr W33
  replace F_a_coder := F_a_coder.other W33 (Or.inr (slot_ne (Or.inr (w_44 hw)) (Or.inr (w_43 hw)) (by decide) (t := .byte) (t' := (.array .byte)) (by decide) (by decide)))
  replace E_s27 := E_s27.wr W33
  replace F_s27_coder := F_s27_coder.other W33 (Or.inl (Ne.symm o_a_s27))
  replace F_s27_value := F_s27_value.other W33 (Or.inl (Ne.symm o_a_s27))
  replace V_t28 := V_t28.other W33 (Ne.symm o_a_t28)
  change Go _ _ _ _ _ _ _ _ _ _ _ _ _ _ [a] h32 2 4 17 #[.val (.ref a), .val (.ref c), .val (.int (0 : Int32)), .val (.int (0 : Int32)), .val .null, .unset] []
  refine Go.aload_n (pc' := 18) d_jdk_42_method_149_17 rfl rfl rfl ?_
  refine Go.ldcS (pc' := 20) (nn := 0) (z := 0) (vs := []) rfl d_jdk_42_method_149_18 rfl (w_41 hw) (sA hw) (by decide) lit_0 (by decide) (by decide) (by decide) (by decide) (by decide) (by decide) ?_
  intro h34 s35 t36 q37 x38 E_s35 F_s35_coder F_s35_value V_t36 ne39
  replace E_a := E_a.ext x38
  replace F_a_coder := F_a_coder.ext x38
  replace E_s27 := E_s27.ext x38
  replace F_s27_coder := F_s27_coder.ext x38
  replace F_s27_value := F_s27_value.ext x38
  replace V_t28 := V_t28.ext x38
  replace F_a_value := F_a_value.ext x38
  have o_a_s35 := (ne39 a (List.mem_of_getElem? (i := 0) rfl)).1
  have o_a_t36 := (ne39 a (List.mem_of_getElem? (i := 0) rfl)).2
  change Go _ _ _ _ _ _ _ _ _ _ _ _ _ _ [a] h34 4 8 20 #[.val (.ref a), .val (.ref c), .val (.int (0 : Int32)), .val (.int (0 : Int32)), .val .null, .unset] [(.ref s35), (.ref a)]
  refine Go.getF (pc' := 23) d_jdk_42_method_149_20 rfl (host := "") (Or.inl (w_48 hw)) Via.refl F_s35_coder ?_
  refine Go.putFN (pc' := 26) (v' := (.int (0 : Int32))) d_jdk_42_method_149_23 rfl (List.mem_of_getElem? (i := 0) rfl) (w_48 hw) Via.refl F_a_coder E_a (Or.inr ⟨(w_44 hw), rfl, rfl⟩) (w_30 hw) (ty := .byte) (by decide) rfl rfl ?_
  intro h40 W41
  replace F_a_coder := F_a_coder.same W41
  replace E_a := E_a.wr W41
  replace E_s27 := E_s27.wr W41
  replace F_s27_coder := F_s27_coder.other W41 (Or.inl (Ne.symm o_a_s27))
  replace F_s27_value := F_s27_value.other W41 (Or.inl (Ne.symm o_a_s27))
  replace V_t28 := V_t28.other W41 (Ne.symm o_a_t28)
  replace F_a_value := F_a_value.other W41 (Or.inr (slot_ne (Or.inr (w_43 hw)) (Or.inr (w_44 hw)) (by decide) (t := (.array .byte)) (t' := .byte) (by decide) (by decide)))
  replace E_s35 := E_s35.wr W41
  replace F_s35_coder := F_s35_coder.other W41 (Or.inl (Ne.symm o_a_s35))
  replace F_s35_value := F_s35_value.other W41 (Or.inl (Ne.symm o_a_s35))
  replace V_t36 := V_t36.other W41 (Ne.symm o_a_t36)
  change Go _ _ _ _ _ _ _ _ _ _ _ _ _ _ [a] h40 4 8 26 #[.val (.ref a), .val (.ref c), .val (.int (0 : Int32)), .val (.int (0 : Int32)), .val .null, .unset] []
  exact Go.retV d_jdk_42_method_149_26 rfl (by decide) (by decide) [] sn0 ⟨t28, q29, rfl, rfl, E_a, F_a_coder, F_a_value, V_t28⟩
abbrev R_m_stre : Room := { frames := 2, cells := 4, slots := 8, locals := 29 }
theorem pn_m_stre : plainName "java/lang/String" = true := by first | (simp [plainName, overriddenIn]; done) | decide +kernel
abbrev Q_m_stre (Z : State) (a : Addr) (c : Addr) (kc : ClassId) (vs : List Value) (h0 : Heap) : Option Value → Heap → List Addr → Prop := fun res h' SN => ∃ (t : Addr) (kt : ClassId), res = none ∧ SN = [] ∧ Exa Z h' a "java/lang/String" ∧ Fld Z h' a "java/lang/String" "coder" "B" (.int (0 : Int32)) ∧ Fld Z h' a "java/lang/String" "value" "[B" (.ref t) ∧ Arv Z h' t kt .byte (0 : Int32) [] (.int (0 : Int32))
theorem ef_m_stre (m : MethodId) (a : Addr) (c : Addr) (kc : ClassId) (vs : List Value) : entryFrame m #[(.ref a), (.ref c)] 2 = mkF m 0 #[.val (.ref a), .val (.ref c)] [] := by first | (simp [entryFrame, mkF, argsToLocals, Value.category]; done) | rfl
set_option maxRecDepth 65536 in
set_option maxHeartbeats 40000000 in
theorem m_stre {l : Launch} {Z : State} {a0 : Array Value} {n0 : Nat} (hw : ∀ d ∈ tables_1, d.before a0 Z = true) (hs : Stat Z) (a : Addr) (c : Addr) (kc : ClassId) (vs : List Value) (h0 : Heap) (E_a : Exa Z h0 a "java/lang/String") (F_a_coder : Fld Z h0 a "java/lang/String" "coder" "B" (.int (0 : Int32))) (F_a_value : Fld Z h0 a "java/lang/String" "value" "[B" .null) (V_c : Arv Z h0 c kc .char (0 : Int32) vs (.int (0 : Int32))) (ne_c_a : c ≠ a) :
    Met l Z EL0 n0 NR0 KN0 N_5 jdk_42_method_3_code 2 (Option.none : Option Jvm.ClassFile.FieldType) R_m_stre [a] #[(.ref a), (.ref c)] h0 (Q_m_stre Z a c kc vs h0) := by
  refine Met.of_go (plainFor_of_name pn_m_stre) (fun m => ef_m_stre m a c kc vs ) ?_
  intro hO hWS
  refine Go.aload_n (pc' := 1) d_jdk_42_method_3_0 rfl rfl rfl ?_
  refine Go.aload_n (pc' := 2) d_jdk_42_method_3_1 rfl rfl rfl ?_
  refine Go.iconst (pc' := 3) d_jdk_42_method_3_2 rfl ic_0 ?_
  refine Go.aload_n (pc' := 4) d_jdk_42_method_3_3 rfl rfl rfl ?_
  refine Go.lenV (pc' := 5) d_jdk_42_method_3_4 rfl V_c ?_
  refine Go.aconst_null (pc' := 6) d_jdk_42_method_3_5 rfl ?_
  refine Go.callI (pc' := 9) (z := N_4) (a := a) d_jdk_42_method_3_6 rfl rfl (w_36 hw) (w_37 hw) (w_39 hw) (by decide) (argsL := [(.ref c), (.int (0 : Int32)), (.int (0 : Int32)), .null]) (rest := []) (Pays.of_met (W := 0) (len := 3) (m_str4e hw hs a c h0 E_a F_a_coder F_a_value) (w_39 hw) (w_31 hw) (by decide) (by decide)) rfl rfl (lenOf pd_3 rfl) rfl (Nat.le_of_eq rfl) (memS (List.mem_of_getElem? (i := 0) rfl) mem0) (by decide) (by decide) ?_
  rintro _ h44 _ K45 le46 ⟨b42, q43, rfl, rfl, p47, p48, p49, p50⟩
  replace E_a := E_a.keep K45
  replace V_c := V_c.keep K45 (ninS ne_c_a nin0)
  have F_a_coder := p48
  have F_a_value := p49
  have V_b42 := p50
  change Go _ _ _ _ _ _ _ _ _ _ _ _ _ _ [a] h44 4 8 9 #[.val (.ref a), .val (.ref c)] []
  exact Go.retV d_jdk_42_method_3_9 rfl (by decide) (by decide) [] sn0 ⟨b42, q43, rfl, rfl, E_a, F_a_coder, F_a_value, V_b42⟩
abbrev R_m_draw : Room := { frames := 4, cells := 6, slots := 12, locals := 66 }
theorem pn_m_draw : plainName "com/example/sumgen/sumgen/model/ReferenceToOneVariantPinLaw" = true := by first | (simp [plainName, overriddenIn]; done) | decide +kernel
abbrev Q_m_draw (Z : State) (kd : Int32) (x1 : Int32) (h0 : Heap) : Option Value → Heap → List Addr → Prop := fun res h' SN => ∃ (u : Value), res = some u ∧ SN = [] ∧ u.isRef = true ∧ (kd = (0 : Int32) → u = .null) ∧ (¬ kd = (0 : Int32) → ∃ b : Addr, u = .ref b)
theorem ef_m_draw (m : MethodId) (kd : Int32) (x1 : Int32) : entryFrame m #[(.int kd), (.int x1)] 2 = mkF m 0 #[.val (.int kd), .val (.int x1)] [] := by first | (simp [entryFrame, mkF, argsToLocals, Value.category]; done) | rfl
set_option maxRecDepth 65536 in
set_option maxHeartbeats 40000000 in
theorem m_draw {l : Launch} {Z : State} {a0 : Array Value} {n0 : Nat} (hw : ∀ d ∈ tables_1, d.before a0 Z = true) (hs : Stat Z) (kd : Int32) (x1 : Int32) (h0 : Heap) :
    Met l Z EL0 n0 NR0 KN0 N_6 method_2_code 2 (Option.some (Jvm.ClassFile.FieldType.object "java/lang/String")) R_m_draw [] #[(.int kd), (.int x1)] h0 (Q_m_draw Z kd x1 h0) := by
  refine Met.of_go (plainFor_of_name pn_m_draw) (fun m => ef_m_draw m kd x1 ) ?_
  intro hO hWS
  refine Go.iload_n (pc' := 1) d_method_2_0 rfl rfl ?_
  by_cases h1 : kd = (0 : Int32)
  · skip
    refine Go.ifN (pc' := 4) d_method_2_1 rfl ((if0 _ _).trans (teq (h1 : kd = (0 : Int32))).2) ?_
    refine Go.aconst_null (pc' := 5) d_method_2_4 rfl ?_
    exact Go.retA d_method_2_5 rfl rfl rfl (by decide) (by decide) [] sn0 ⟨.null, rfl, rfl, rfl, fun _ => rfl, fun q => absurd h1 q⟩
  · skip
    refine Go.ifY (pc' := 6) d_method_2_1 (by decide) (by decide) ((if0 _ _).trans (feq (h1 : ¬ (kd = (0 : Int32)))).2) ?_
    refine Go.iload_n (pc' := 7) d_method_2_6 rfl rfl ?_
    refine Go.iconst (pc' := 8) d_method_2_7 rfl ic_1 ?_
    by_cases h2 : kd = (1 : Int32)
    · skip
      refine Go.icmpN (pc' := 11) d_method_2_8 rfl (teq (h2 : kd = (1 : Int32))).2 ?_
      refine Go.newO (pc' := 14) d_method_2_11 rfl (w_29 hw) (w_30 hw) (w_31 hw) (by decide) (by decide) ?_
      intro h51 b52 g53 ge_b52 x54 E_b52 D_b52 U_b52
      have F_b52_value : Fld Z h51 b52 "java/lang/String" "value" "[B" .null := D_b52 (Or.inr (w_43 hw)) (ty := (.array .byte)) (by decide)
      have F_b52_coder : Fld Z h51 b52 "java/lang/String" "coder" "B" (.int (0 : Int32)) := D_b52 (Or.inr (w_44 hw)) (ty := .byte) (by decide)
      change Go _ _ _ _ _ _ _ _ _ _ _ _ _ _ [b52] h51 1 4 14 #[.val (.int kd), .val (.int x1)] [(.ref b52)]
      refine Go.dup (pc' := 15) d_method_2_14 rfl rfl ?_
      refine Go.iconst (pc' := 16) d_method_2_15 rfl ic_0 ?_
      refine Go.newP (pc' := 18) (cap := 0) (ad := "[C") d_method_2_16 rfl (w_32 hw) (by decide) (by decide) (by decide) (by decide) (by decide) (by decide) ?_
      intro h55 b56 g57 ge_b56 q59 x58 V_b56 E_b56
      have o_b52_b56 : b52 ≠ b56 := Nat.ne_of_lt (Nat.lt_of_lt_of_le E_b52.lt (Nat.le_of_eq g57))
      replace E_b52 := E_b52.ext x58
      replace U_b52 := unt_ext x58 U_b52
      replace F_b52_value := F_b52_value.ext x58
      replace F_b52_coder := F_b52_coder.ext x58
      replace V_b56 : Arv Z h55 b56 q59 .char (0 : Int32) [] (.int (0 : Int32)) := V_b56.pad (pad_rep [] _ 0)
      change Go _ _ _ _ _ _ _ _ _ _ _ _ _ _ [b56, b52] h55 2 4 18 #[.val (.int kd), .val (.int x1)] [(.ref b56), (.ref b52), (.ref b52)]
      refine Go.callI (pc' := 21) (z := N_5) (a := b52) d_method_2_18 rfl rfl (w_33 hw) (w_34 hw) (w_35 hw) (by decide) (argsL := [(.ref b56)]) (rest := [(.ref b52)]) (Pays.of_met (W := 1) (len := 3) (m_stre hw hs b52 b56 q59 [] h55 E_b52 F_b52_coder F_b52_value V_b56 (Ne.symm o_b52_b56)) (w_35 hw) (w_31 hw) (by decide) (by decide)) rfl rfl (lenOf pd_4 rfl) rfl (Nat.le_of_eq rfl) (memS (List.mem_of_getElem? (i := 1) rfl) mem0) (by decide) (by decide) ?_
      rintro _ h62 _ K63 le64 ⟨b60, q61, rfl, rfl, p65, p66, p67, p68⟩
      replace E_b52 := E_b52.keep K63
      replace V_b56 := V_b56.keep K63 (ninS (Ne.symm o_b52_b56) nin0)
      replace E_b56 := E_b56.keep K63
      have F_b52_coder := p66
      have F_b52_value := p67
      have V_b60 := p68
      change Go _ _ _ _ _ _ _ _ _ _ _ _ _ _ [b56, b52] h62 6 12 21 #[.val (.int kd), .val (.int x1)] [(.ref b52)]
      exact Go.retA d_method_2_21 rfl rfl rfl (by decide) (by decide) [] sn0 ⟨.ref b52, rfl, rfl, rfl, fun q => absurd q h1, fun _ => ⟨b52, rfl⟩⟩
    · skip
      refine Go.icmpY (pc' := 22) d_method_2_8 (by decide) (by decide) (feq (h2 : ¬ (kd = (1 : Int32)))).2 ?_
      refine Go.iload_n (pc' := 23) d_method_2_22 rfl rfl ?_
      refine Go.iconst (pc' := 24) d_method_2_23 rfl ic_2 ?_
      by_cases h3 : kd = (2 : Int32)
      · skip
        refine Go.icmpN (pc' := 27) d_method_2_24 rfl (teq (h3 : kd = (2 : Int32))).2 ?_
        refine Go.newO (pc' := 30) d_method_2_27 rfl (w_29 hw) (w_30 hw) (w_31 hw) (by decide) (by decide) ?_
        intro h69 b70 g71 ge_b70 x72 E_b70 D_b70 U_b70
        have F_b70_value : Fld Z h69 b70 "java/lang/String" "value" "[B" .null := D_b70 (Or.inr (w_43 hw)) (ty := (.array .byte)) (by decide)
        have F_b70_coder : Fld Z h69 b70 "java/lang/String" "coder" "B" (.int (0 : Int32)) := D_b70 (Or.inr (w_44 hw)) (ty := .byte) (by decide)
        change Go _ _ _ _ _ _ _ _ _ _ _ _ _ _ [b70] h69 1 4 30 #[.val (.int kd), .val (.int x1)] [(.ref b70)]
        refine Go.dup (pc' := 31) d_method_2_30 rfl rfl ?_
        refine Go.iconst (pc' := 32) d_method_2_31 rfl ic_1 ?_
        refine Go.newP (pc' := 34) (cap := 1) (ad := "[C") d_method_2_32 rfl (w_32 hw) (by decide) (by decide) (by decide) (by decide) (by decide) (by decide) ?_
        intro h73 b74 g75 ge_b74 q77 x76 V_b74 E_b74
        have o_b70_b74 : b70 ≠ b74 := Nat.ne_of_lt (Nat.lt_of_lt_of_le E_b70.lt (Nat.le_of_eq g75))
        replace E_b70 := E_b70.ext x76
        replace U_b70 := unt_ext x76 U_b70
        replace F_b70_value := F_b70_value.ext x76
        replace F_b70_coder := F_b70_coder.ext x76
        replace V_b74 : Arv Z h73 b74 q77 .char (1 : Int32) [(.int (0 : Int32))] (.int (0 : Int32)) := V_b74.pad (pad_rep [] _ 1)
        change Go _ _ _ _ _ _ _ _ _ _ _ _ _ _ [b74, b70] h73 2 5 34 #[.val (.int kd), .val (.int x1)] [(.ref b74), (.ref b70), (.ref b70)]
        refine Go.dup (pc' := 35) d_method_2_34 rfl rfl ?_
        refine Go.iconst (pc' := 36) d_method_2_35 rfl ic_0 ?_
        refine Go.iload_n (pc' := 37) d_method_2_36 rfl rfl ?_
        refine Go.sipush (pc' := 40) d_method_2_37 rfl ics_255 ?_
        refine Go.iand (pc' := 41) d_method_2_40 rfl ?_
        refine Go.i2c (pc' := 42) d_method_2_41 rfl ?_
        rw [i2c_mask]
        have b_c0 := mask255 x1
        generalize h_c0 : (x1 &&& (255 : Int32)) = c0 at b_c0 ⊢
        refine Go.castoreV (pc' := 43) (i := 0) d_method_2_42 rfl (List.mem_of_getElem? (i := 0) rfl) V_b74 (by decide) (by decide) (by simp) ?_
        rw [nar_char b_c0.1 (le255 b_c0.2)]
        intro h78 W79 V_b74'
        replace E_b70 := E_b70.wr W79
        replace F_b70_value := F_b70_value.other W79 (Or.inl o_b70_b74)
        replace F_b70_coder := F_b70_coder.other W79 (Or.inl o_b70_b74)
        replace E_b74 := E_b74.wr W79
        replace V_b74 : Arv Z h78 b74 q77 .char (1 : Int32) [(.int c0)] (.int (0 : Int32)) := V_b74'
        change Go _ _ _ _ _ _ _ _ _ _ _ _ _ _ [b74, b70] h78 2 5 43 #[.val (.int kd), .val (.int x1)] [(.ref b74), (.ref b70), (.ref b70)]
        refine Go.callI (pc' := 46) (z := N_5) (a := b70) d_method_2_43 rfl rfl (w_33 hw) (w_34 hw) (w_35 hw) (by decide) (argsL := [(.ref b74)]) (rest := [(.ref b70)]) (Pays.of_met (W := 1) (len := 3) (m_str hw hs b70 b74 q77 [c0] (1 : Int32) h78 E_b70 F_b70_coder F_b70_value V_b74 (rfl) (own_one b_c0) (by simp) (by decide) (Ne.symm o_b70_b74)) (w_35 hw) (w_31 hw) (by decide) (by decide)) rfl rfl (lenOf pd_4 rfl) rfl (Nat.le_of_eq rfl) (memS (List.mem_of_getElem? (i := 1) rfl) mem0) (by decide) (by decide) ?_
        rintro _ h82 _ K83 le84 ⟨b80, q81, rfl, rfl, p85, p86, p87, p88, p89⟩
        have o_b70_b80 : b70 ≠ b80 := Nat.ne_of_lt (Nat.lt_of_lt_of_le E_b70.lt p89)
        have o_b74_b80 : b74 ≠ b80 := Nat.ne_of_lt (Nat.lt_of_lt_of_le E_b74.lt p89)
        have ge_b80 := Nat.le_trans le84 p89
        replace E_b70 := E_b70.keep K83
        replace E_b74 := E_b74.keep K83
        replace V_b74 := V_b74.keep K83 (ninS (Ne.symm o_b70_b74) nin0)
        have F_b70_coder := p86
        have F_b70_value := p87
        have V_b80 := p88
        change Go _ _ _ _ _ _ _ _ _ _ _ _ _ _ [b74, b70] h82 3 7 46 #[.val (.int kd), .val (.int x1)] [(.ref b70)]
        exact Go.retA d_method_2_46 rfl rfl rfl (by decide) (by decide) [] sn0 ⟨.ref b70, rfl, rfl, rfl, fun q => absurd q h1, fun _ => ⟨b70, rfl⟩⟩
      · skip
        refine Go.icmpY (pc' := 47) d_method_2_24 (by decide) (by decide) (feq (h3 : ¬ (kd = (2 : Int32)))).2 ?_
        refine Go.newO (pc' := 50) d_method_2_47 rfl (w_29 hw) (w_30 hw) (w_31 hw) (by decide) (by decide) ?_
        intro h90 b91 g92 ge_b91 x93 E_b91 D_b91 U_b91
        have F_b91_value : Fld Z h90 b91 "java/lang/String" "value" "[B" .null := D_b91 (Or.inr (w_43 hw)) (ty := (.array .byte)) (by decide)
        have F_b91_coder : Fld Z h90 b91 "java/lang/String" "coder" "B" (.int (0 : Int32)) := D_b91 (Or.inr (w_44 hw)) (ty := .byte) (by decide)
        change Go _ _ _ _ _ _ _ _ _ _ _ _ _ _ [b91] h90 1 4 50 #[.val (.int kd), .val (.int x1)] [(.ref b91)]
        refine Go.dup (pc' := 51) d_method_2_50 rfl rfl ?_
        refine Go.iconst (pc' := 52) d_method_2_51 rfl ic_2 ?_
        refine Go.newP (pc' := 54) (cap := 2) (ad := "[C") d_method_2_52 rfl (w_32 hw) (by decide) (by decide) (by decide) (by decide) (by decide) (by decide) ?_
        intro h94 b95 g96 ge_b95 q98 x97 V_b95 E_b95
        have o_b91_b95 : b91 ≠ b95 := Nat.ne_of_lt (Nat.lt_of_lt_of_le E_b91.lt (Nat.le_of_eq g96))
        replace E_b91 := E_b91.ext x97
        replace U_b91 := unt_ext x97 U_b91
        replace F_b91_value := F_b91_value.ext x97
        replace F_b91_coder := F_b91_coder.ext x97
        replace V_b95 : Arv Z h94 b95 q98 .char (2 : Int32) [(.int (0 : Int32)), (.int (0 : Int32))] (.int (0 : Int32)) := V_b95.pad (pad_rep [] _ 2)
        change Go _ _ _ _ _ _ _ _ _ _ _ _ _ _ [b95, b91] h94 2 6 54 #[.val (.int kd), .val (.int x1)] [(.ref b95), (.ref b91), (.ref b91)]
        refine Go.dup (pc' := 55) d_method_2_54 rfl rfl ?_
        refine Go.iconst (pc' := 56) d_method_2_55 rfl ic_0 ?_
        refine Go.iload_n (pc' := 57) d_method_2_56 rfl rfl ?_
        refine Go.sipush (pc' := 60) d_method_2_57 rfl ics_255 ?_
        refine Go.iand (pc' := 61) d_method_2_60 rfl ?_
        refine Go.i2c (pc' := 62) d_method_2_61 rfl ?_
        rw [i2c_mask]
        have b_c0 := mask255 x1
        generalize h_c0 : (x1 &&& (255 : Int32)) = c0 at b_c0 ⊢
        refine Go.castoreV (pc' := 63) (i := 0) d_method_2_62 rfl (List.mem_of_getElem? (i := 0) rfl) V_b95 (by decide) (by decide) (by simp) ?_
        rw [nar_char b_c0.1 (le255 b_c0.2)]
        intro h99 W100 V_b95'
        replace E_b91 := E_b91.wr W100
        replace F_b91_value := F_b91_value.other W100 (Or.inl o_b91_b95)
        replace F_b91_coder := F_b91_coder.other W100 (Or.inl o_b91_b95)
        replace E_b95 := E_b95.wr W100
        replace V_b95 : Arv Z h99 b95 q98 .char (2 : Int32) [(.int c0), (.int (0 : Int32))] (.int (0 : Int32)) := V_b95'
        change Go _ _ _ _ _ _ _ _ _ _ _ _ _ _ [b95, b91] h99 2 6 63 #[.val (.int kd), .val (.int x1)] [(.ref b95), (.ref b91), (.ref b91)]
        refine Go.dup (pc' := 64) d_method_2_63 rfl rfl ?_
        refine Go.iconst (pc' := 65) d_method_2_64 rfl ic_1 ?_
        refine Go.iload_n (pc' := 66) d_method_2_65 rfl rfl ?_
        refine Go.bipush (pc' := 68) d_method_2_66 rfl icb_8 ?_
        refine Go.iushr (pc' := 69) d_method_2_68 rfl ?_
        refine Go.sipush (pc' := 72) d_method_2_69 rfl ics_255 ?_
        refine Go.iand (pc' := 73) d_method_2_72 rfl ?_
        refine Go.i2c (pc' := 74) d_method_2_73 rfl ?_
        rw [i2c_mask]
        have b_c1 := mask255 ((x1.toUInt32 >>> ((8 : Int32) &&& 31).toUInt32).toInt32)
        generalize h_c1 : (((x1.toUInt32 >>> ((8 : Int32) &&& 31).toUInt32).toInt32) &&& (255 : Int32)) = c1 at b_c1 ⊢
        refine Go.castoreV (pc' := 75) (i := 1) d_method_2_74 rfl (List.mem_of_getElem? (i := 0) rfl) V_b95 (by decide) (by decide) (by simp) ?_
        rw [nar_char b_c1.1 (le255 b_c1.2)]
        intro h101 W102 V_b95'
        replace E_b91 := E_b91.wr W102
        replace F_b91_value := F_b91_value.other W102 (Or.inl o_b91_b95)
        replace F_b91_coder := F_b91_coder.other W102 (Or.inl o_b91_b95)
        replace E_b95 := E_b95.wr W102
        replace V_b95 : Arv Z h101 b95 q98 .char (2 : Int32) [(.int c0), (.int c1)] (.int (0 : Int32)) := V_b95'
        change Go _ _ _ _ _ _ _ _ _ _ _ _ _ _ [b95, b91] h101 2 6 75 #[.val (.int kd), .val (.int x1)] [(.ref b95), (.ref b91), (.ref b91)]
        refine Go.callI (pc' := 78) (z := N_5) (a := b91) d_method_2_75 rfl rfl (w_33 hw) (w_34 hw) (w_35 hw) (by decide) (argsL := [(.ref b95)]) (rest := [(.ref b91)]) (Pays.of_met (W := 1) (len := 3) (m_str hw hs b91 b95 q98 [c0, c1] (2 : Int32) h101 E_b91 F_b91_coder F_b91_value V_b95 (rfl) (own_two b_c0 b_c1) (by simp) (by decide) (Ne.symm o_b91_b95)) (w_35 hw) (w_31 hw) (by decide) (by decide)) rfl rfl (lenOf pd_4 rfl) rfl (Nat.le_of_eq rfl) (memS (List.mem_of_getElem? (i := 1) rfl) mem0) (by decide) (by decide) ?_
        rintro _ h105 _ K106 le107 ⟨b103, q104, rfl, rfl, p108, p109, p110, p111, p112⟩
        have o_b91_b103 : b91 ≠ b103 := Nat.ne_of_lt (Nat.lt_of_lt_of_le E_b91.lt p112)
        have o_b95_b103 : b95 ≠ b103 := Nat.ne_of_lt (Nat.lt_of_lt_of_le E_b95.lt p112)
        have ge_b103 := Nat.le_trans le107 p112
        replace E_b91 := E_b91.keep K106
        replace E_b95 := E_b95.keep K106
        replace V_b95 := V_b95.keep K106 (ninS (Ne.symm o_b91_b95) nin0)
        have F_b91_coder := p109
        have F_b91_value := p110
        have V_b103 := p111
        change Go _ _ _ _ _ _ _ _ _ _ _ _ _ _ [b95, b91] h105 3 8 78 #[.val (.int kd), .val (.int x1)] [(.ref b91)]
        exact Go.retA d_method_2_78 rfl rfl rfl (by decide) (by decide) [] sn0 ⟨.ref b91, rfl, rfl, rfl, fun q => absurd q h1, fun _ => ⟨b91, rfl⟩⟩
abbrev R_m_place : Room := { frames := 2, cells := 0, slots := 0, locals := 24 }
theorem pn_m_place : plainName "com/example/sumgen/sumgen/model/Place" = true := by first | (simp [plainName, overriddenIn]; done) | decide +kernel
abbrev Q_m_place (Z : State) (a : Addr) (v : Value) (x1 : Int32) (x2 : Int32) (h0 : Heap) : Option Value → Heap → List Addr → Prop := fun res h' SN => res = none ∧ SN = [] ∧ Exa Z h' a "com/example/sumgen/sumgen/model/Place"
theorem ef_m_place (m : MethodId) (a : Addr) (v : Value) (x1 : Int32) (x2 : Int32) (hv_v : v.isRef = true) : entryFrame m #[(.ref a), v, (.int x1), (.int x2)] 4 = mkF m 0 #[.val (.ref a), .val v, .val (.int x1), .val (.int x2)] [] := by rcases ref_cases hv_v with rfl | ⟨_, rfl⟩ <;> first | (simp [entryFrame, mkF, argsToLocals, Value.category]; done) | rfl
set_option maxRecDepth 65536 in
set_option maxHeartbeats 40000000 in
theorem m_place {l : Launch} {Z : State} {a0 : Array Value} {n0 : Nat} (hw : ∀ d ∈ tables_1, d.before a0 Z = true) (hs : Stat Z) (a : Addr) (v : Value) (x1 : Int32) (x2 : Int32) (h0 : Heap) (E_a : Exa Z h0 a "com/example/sumgen/sumgen/model/Place") (F_a_file : Fld Z h0 a "com/example/sumgen/sumgen/model/Place" "file" "Ljava/lang/String;" .null) (F_a_line : Fld Z h0 a "com/example/sumgen/sumgen/model/Place" "line" "I" (.int (0 : Int32))) (F_a_column : Fld Z h0 a "com/example/sumgen/sumgen/model/Place" "column" "I" (.int (0 : Int32))) (hv_v : v.isRef = true) :
    Met l Z EL0 n0 NR0 KN0 N_7 prog_17_method_1_code 4 (Option.none : Option Jvm.ClassFile.FieldType) R_m_place [a] #[(.ref a), v, (.int x1), (.int x2)] h0 (Q_m_place Z a v x1 x2 h0) := by
  refine Met.of_go (plainFor_of_name pn_m_place) (fun m => ef_m_place m a v x1 x2 hv_v) ?_
  intro hO hWS
  refine Go.aload_n (pc' := 1) d_prog_17_method_1_0 rfl rfl rfl ?_
  refine Go.callI (pc' := 4) (z := N_0) (a := a) d_prog_17_method_1_1 rfl rfl (w_66 hw) (w_11 hw) (w_14 hw) (by decide) (argsL := []) (rest := []) (Pays.of_met (W := 0) (len := 3) (m_record hw hs a h0) (w_14 hw) (w_13 hw) (by decide) (by decide)) rfl rfl (lenOf pd_5 rfl) rfl (Nat.le_of_eq rfl) mem0 (by decide) (by decide) ?_
  rintro _ _ _ - - ⟨rfl, rfl, rfl⟩
  change Go _ _ _ _ _ _ _ _ _ _ _ _ _ _ [a] h0 0 0 4 #[.val (.ref a), .val v, .val (.int x1), .val (.int x2)] []
  refine Go.aload_n (pc' := 5) d_prog_17_method_1_4 rfl rfl rfl ?_
  refine Go.aload_n (pc' := 6) d_prog_17_method_1_5 rfl rfl hv_v ?_
  refine Go.putF (pc' := 9) d_prog_17_method_1_6 rfl (List.mem_of_getElem? (i := 0) rfl) (host := "") (Or.inl (w_67 hw)) Via.refl F_a_file E_a (Or.inr ⟨(w_68 hw), rfl, rfl⟩) (w_61 hw) (ty := (.object "java/lang/String")) (by decide) (by rcases ref_cases hv_v with rfl | ⟨_, rfl⟩ <;> rfl) (by rcases ref_cases hv_v with rfl | ⟨_, rfl⟩ <;> rfl) ?_
  intro h113 W114
  replace F_a_file := F_a_file.same W114
  replace E_a := E_a.wr W114
  replace F_a_line := F_a_line.other W114 (Or.inr (slot_ne (Or.inr (w_70 hw)) (Or.inr (w_68 hw)) (by decide) (t := .int) (t' := (.object "java/lang/String")) (by decide) (by decide)))
  replace F_a_column := F_a_column.other W114 (Or.inr (slot_ne (Or.inr (w_72 hw)) (Or.inr (w_68 hw)) (by decide) (t := .int) (t' := (.object "java/lang/String")) (by decide) (by decide)))
  change Go _ _ _ _ _ _ _ _ _ _ _ _ _ _ [a] h113 0 0 9 #[.val (.ref a), .val v, .val (.int x1), .val (.int x2)] []
  refine Go.aload_n (pc' := 10) d_prog_17_method_1_9 rfl rfl rfl ?_
  refine Go.iload_n (pc' := 11) d_prog_17_method_1_10 rfl rfl ?_
  refine Go.putF (pc' := 14) d_prog_17_method_1_11 rfl (List.mem_of_getElem? (i := 0) rfl) (host := "") (Or.inl (w_69 hw)) Via.refl F_a_line E_a (Or.inr ⟨(w_70 hw), rfl, rfl⟩) (w_61 hw) (ty := .int) (by decide) rfl rfl ?_
  intro h115 W116
  replace F_a_line := F_a_line.same W116
  replace E_a := E_a.wr W116
  replace F_a_column := F_a_column.other W116 (Or.inr (slot_ne (Or.inr (w_72 hw)) (Or.inr (w_70 hw)) (by decide) (t := .int) (t' := .int) (by decide) (by decide)))
  replace F_a_file := F_a_file.other W116 (Or.inr (slot_ne (Or.inr (w_68 hw)) (Or.inr (w_70 hw)) (by decide) (t := (.object "java/lang/String")) (t' := .int) (by decide) (by decide)))
  change Go _ _ _ _ _ _ _ _ _ _ _ _ _ _ [a] h115 0 0 14 #[.val (.ref a), .val v, .val (.int x1), .val (.int x2)] []
  refine Go.aload_n (pc' := 15) d_prog_17_method_1_14 rfl rfl rfl ?_
  refine Go.iload_n (pc' := 16) d_prog_17_method_1_15 rfl rfl ?_
  refine Go.putF (pc' := 19) d_prog_17_method_1_16 rfl (List.mem_of_getElem? (i := 0) rfl) (host := "") (Or.inl (w_71 hw)) Via.refl F_a_column E_a (Or.inr ⟨(w_72 hw), rfl, rfl⟩) (w_61 hw) (ty := .int) (by decide) rfl rfl ?_
  intro h117 W118
  replace F_a_column := F_a_column.same W118
  replace E_a := E_a.wr W118
  replace F_a_file := F_a_file.other W118 (Or.inr (slot_ne (Or.inr (w_68 hw)) (Or.inr (w_72 hw)) (by decide) (t := (.object "java/lang/String")) (t' := .int) (by decide) (by decide)))
  replace F_a_line := F_a_line.other W118 (Or.inr (slot_ne (Or.inr (w_70 hw)) (Or.inr (w_72 hw)) (by decide) (t := .int) (t' := .int) (by decide) (by decide)))
  change Go _ _ _ _ _ _ _ _ _ _ _ _ _ _ [a] h117 0 0 19 #[.val (.ref a), .val v, .val (.int x1), .val (.int x2)] []
  exact Go.retV d_prog_17_method_1_19 rfl (by decide) (by decide) [] sn0 ⟨rfl, rfl, E_a⟩
abbrev R_m_ref : Room := { frames := 2, cells := 0, slots := 0, locals := 24 }
theorem pn_m_ref : plainName "com/example/sumgen/sumgen/model/Reference" = true := by first | (simp [plainName, overriddenIn]; done) | decide +kernel
abbrev Q_m_ref (Z : State) (a : Addr) (v1 : Value) (v2 : Value) (v3 : Value) (h0 : Heap) : Option Value → Heap → List Addr → Prop := fun res h' SN => res = none ∧ SN = [] ∧ Exa Z h' a "com/example/sumgen/sumgen/model/Reference" ∧ Fld Z h' a "com/example/sumgen/sumgen/model/Reference" "variant" "Ljava/lang/String;" v2
theorem ef_m_ref (m : MethodId) (a : Addr) (v1 : Value) (v2 : Value) (v3 : Value) (hv_v1 : v1.isRef = true) (hv_v2 : v2.isRef = true) (hv_v3 : v3.isRef = true) : entryFrame m #[(.ref a), v1, v2, v3] 4 = mkF m 0 #[.val (.ref a), .val v1, .val v2, .val v3] [] := by rcases ref_cases hv_v1 with rfl | ⟨_, rfl⟩ <;> rcases ref_cases hv_v2 with rfl | ⟨_, rfl⟩ <;> rcases ref_cases hv_v3 with rfl | ⟨_, rfl⟩ <;> first | (simp [entryFrame, mkF, argsToLocals, Value.category]; done) | rfl
set_option maxRecDepth 65536 in
set_option maxHeartbeats 40000000 in
theorem m_ref {l : Launch} {Z : State} {a0 : Array Value} {n0 : Nat} (hw : ∀ d ∈ tables_1, d.before a0 Z = true) (hs : Stat Z) (a : Addr) (v1 : Value) (v2 : Value) (v3 : Value) (h0 : Heap) (E_a : Exa Z h0 a "com/example/sumgen/sumgen/model/Reference") (F_a_type : Fld Z h0 a "com/example/sumgen/sumgen/model/Reference" "type" "Ljava/lang/String;" .null) (F_a_variant : Fld Z h0 a "com/example/sumgen/sumgen/model/Reference" "variant" "Ljava/lang/String;" .null) (F_a_place : Fld Z h0 a "com/example/sumgen/sumgen/model/Reference" "place" "Lcom/example/sumgen/sumgen/model/Place;" .null) (hv_v1 : v1.isRef = true) (hv_v2 : v2.isRef = true) (hv_v3 : v3.isRef = true) :
    Met l Z EL0 n0 NR0 KN0 N_8 prog_18_method_1_code 4 (Option.none : Option Jvm.ClassFile.FieldType) R_m_ref [a] #[(.ref a), v1, v2, v3] h0 (Q_m_ref Z a v1 v2 v3 h0) := by
  refine Met.of_go (plainFor_of_name pn_m_ref) (fun m => ef_m_ref m a v1 v2 v3 hv_v1 hv_v2 hv_v3) ?_
  intro hO hWS
  refine Go.aload_n (pc' := 1) d_prog_18_method_1_0 rfl rfl rfl ?_
  refine Go.callI (pc' := 4) (z := N_0) (a := a) d_prog_18_method_1_1 rfl rfl (w_10 hw) (w_11 hw) (w_14 hw) (by decide) (argsL := []) (rest := []) (Pays.of_met (W := 0) (len := 3) (m_record hw hs a h0) (w_14 hw) (w_13 hw) (by decide) (by decide)) rfl rfl (lenOf pd_5 rfl) rfl (Nat.le_of_eq rfl) mem0 (by decide) (by decide) ?_
  rintro _ _ _ - - ⟨rfl, rfl, rfl⟩
  change Go _ _ _ _ _ _ _ _ _ _ _ _ _ _ [a] h0 0 0 4 #[.val (.ref a), .val v1, .val v2, .val v3] []
  refine Go.aload_n (pc' := 5) d_prog_18_method_1_4 rfl rfl rfl ?_
  refine Go.aload_n (pc' := 6) d_prog_18_method_1_5 rfl rfl hv_v1 ?_
  refine Go.putF (pc' := 9) d_prog_18_method_1_6 rfl (List.mem_of_getElem? (i := 0) rfl) (host := "") (Or.inl (w_18 hw)) Via.refl F_a_type E_a (Or.inr ⟨(w_19 hw), rfl, rfl⟩) (w_5 hw) (ty := (.object "java/lang/String")) (by decide) (by rcases ref_cases hv_v1 with rfl | ⟨_, rfl⟩ <;> rfl) (by rcases ref_cases hv_v1 with rfl | ⟨_, rfl⟩ <;> rfl) ?_
  intro h119 W120
  replace F_a_type := F_a_type.same W120
  replace E_a := E_a.wr W120
  replace F_a_variant := F_a_variant.other W120 (Or.inr (slot_ne (Or.inr (w_21 hw)) (Or.inr (w_19 hw)) (by decide) (t := (.object "java/lang/String")) (t' := (.object "java/lang/String")) (by decide) (by decide)))
  replace F_a_place := F_a_place.other W120 (Or.inr (slot_ne (Or.inr (w_23 hw)) (Or.inr (w_19 hw)) (by decide) (t := (.object "com/example/sumgen/sumgen/model/Place")) (t' := (.object "java/lang/String")) (by decide) (by decide)))
  change Go _ _ _ _ _ _ _ _ _ _ _ _ _ _ [a] h119 0 0 9 #[.val (.ref a), .val v1, .val v2, .val v3] []
  refine Go.aload_n (pc' := 10) d_prog_18_method_1_9 rfl rfl rfl ?_
  refine Go.aload_n (pc' := 11) d_prog_18_method_1_10 rfl rfl hv_v2 ?_
  refine Go.putF (pc' := 14) d_prog_18_method_1_11 rfl (List.mem_of_getElem? (i := 0) rfl) (host := "") (Or.inl (w_20 hw)) Via.refl F_a_variant E_a (Or.inr ⟨(w_21 hw), rfl, rfl⟩) (w_5 hw) (ty := (.object "java/lang/String")) (by decide) (by rcases ref_cases hv_v2 with rfl | ⟨_, rfl⟩ <;> rfl) (by rcases ref_cases hv_v2 with rfl | ⟨_, rfl⟩ <;> rfl) ?_
  intro h121 W122
  replace F_a_variant := F_a_variant.same W122
  replace E_a := E_a.wr W122
  replace F_a_place := F_a_place.other W122 (Or.inr (slot_ne (Or.inr (w_23 hw)) (Or.inr (w_21 hw)) (by decide) (t := (.object "com/example/sumgen/sumgen/model/Place")) (t' := (.object "java/lang/String")) (by decide) (by decide)))
  replace F_a_type := F_a_type.other W122 (Or.inr (slot_ne (Or.inr (w_19 hw)) (Or.inr (w_21 hw)) (by decide) (t := (.object "java/lang/String")) (t' := (.object "java/lang/String")) (by decide) (by decide)))
  change Go _ _ _ _ _ _ _ _ _ _ _ _ _ _ [a] h121 0 0 14 #[.val (.ref a), .val v1, .val v2, .val v3] []
  refine Go.aload_n (pc' := 15) d_prog_18_method_1_14 rfl rfl rfl ?_
  refine Go.aload_n (pc' := 16) d_prog_18_method_1_15 rfl rfl hv_v3 ?_
  refine Go.putF (pc' := 19) d_prog_18_method_1_16 rfl (List.mem_of_getElem? (i := 0) rfl) (host := "") (Or.inl (w_22 hw)) Via.refl F_a_place E_a (Or.inr ⟨(w_23 hw), rfl, rfl⟩) (w_5 hw) (ty := (.object "com/example/sumgen/sumgen/model/Place")) (by decide) (by rcases ref_cases hv_v3 with rfl | ⟨_, rfl⟩ <;> rfl) (by rcases ref_cases hv_v3 with rfl | ⟨_, rfl⟩ <;> rfl) ?_
  intro h123 W124
  replace F_a_place := F_a_place.same W124
  replace E_a := E_a.wr W124
  replace F_a_type := F_a_type.other W124 (Or.inr (slot_ne (Or.inr (w_19 hw)) (Or.inr (w_23 hw)) (by decide) (t := (.object "java/lang/String")) (t' := (.object "com/example/sumgen/sumgen/model/Place")) (by decide) (by decide)))
  replace F_a_variant := F_a_variant.other W124 (Or.inr (slot_ne (Or.inr (w_21 hw)) (Or.inr (w_23 hw)) (by decide) (t := (.object "java/lang/String")) (t' := (.object "com/example/sumgen/sumgen/model/Place")) (by decide) (by decide)))
  change Go _ _ _ _ _ _ _ _ _ _ _ _ _ _ [a] h123 0 0 19 #[.val (.ref a), .val v1, .val v2, .val v3] []
  exact Go.retV d_prog_18_method_1_19 rfl (by decide) (by decide) [] sn0 ⟨rfl, rfl, E_a, F_a_variant⟩
abbrev R_m_tov0 : Room := { frames := 0, cells := 0, slots := 0, locals := 0 }
theorem pn_m_tov0 : plainName "com/example/sumgen/sumgen/model/Reference" = true := by first | (simp [plainName, overriddenIn]; done) | decide +kernel
abbrev Q_m_tov0 (Z : State) (a : Addr) (h0 : Heap) : Option Value → Heap → List Addr → Prop := fun res h' SN => res = some (.int (0 : Int32)) ∧ SN = [] ∧ h0 = h'
theorem ef_m_tov0 (m : MethodId) (a : Addr) : entryFrame m #[(.ref a)] 1 = mkF m 0 #[.val (.ref a)] [] := by first | (simp [entryFrame, mkF, argsToLocals, Value.category]; done) | rfl
set_option maxRecDepth 65536 in
set_option maxHeartbeats 40000000 in
theorem m_tov0 {l : Launch} {Z : State} {a0 : Array Value} {n0 : Nat} (hw : ∀ d ∈ tables_1, d.before a0 Z = true) (hs : Stat Z) (a : Addr) (h0 : Heap) (F_a_variant : Fld Z h0 a "com/example/sumgen/sumgen/model/Reference" "variant" "Ljava/lang/String;" .null) :
    Met l Z EL0 n0 NR0 KN0 N_9 prog_18_method_2_code 1 (Option.some Jvm.ClassFile.FieldType.boolean) R_m_tov0 [] #[(.ref a)] h0 (Q_m_tov0 Z a h0) := by
  refine Met.of_go (plainFor_of_name pn_m_tov0) (fun m => ef_m_tov0 m a ) ?_
  intro hO hWS
  refine Go.aload_n (pc' := 1) d_prog_18_method_2_0 rfl rfl rfl ?_
  refine Go.getF (pc' := 4) d_prog_18_method_2_1 rfl (host := "") (Or.inl (w_20 hw)) Via.refl F_a_variant ?_
  refine Go.ifnullY (pc' := 11) d_prog_18_method_2_4 (by decide) (by decide) ?_
  refine Go.iconst (pc' := 12) d_prog_18_method_2_11 rfl ic_0 ?_
  exact Go.retS (ty := .boolean) d_prog_18_method_2_12 rfl (by simp) rfl (by decide) (by decide) [] sn0 ⟨rfl, rfl, rfl⟩
abbrev R_m_tov1 : Room := { frames := 0, cells := 0, slots := 0, locals := 0 }
theorem pn_m_tov1 : plainName "com/example/sumgen/sumgen/model/Reference" = true := by first | (simp [plainName, overriddenIn]; done) | decide +kernel
abbrev Q_m_tov1 (Z : State) (a : Addr) (b : Addr) (h0 : Heap) : Option Value → Heap → List Addr → Prop := fun res h' SN => res = some (.int (1 : Int32)) ∧ SN = [] ∧ h0 = h'
theorem ef_m_tov1 (m : MethodId) (a : Addr) (b : Addr) : entryFrame m #[(.ref a)] 1 = mkF m 0 #[.val (.ref a)] [] := by first | (simp [entryFrame, mkF, argsToLocals, Value.category]; done) | rfl
set_option maxRecDepth 65536 in
set_option maxHeartbeats 40000000 in
theorem m_tov1 {l : Launch} {Z : State} {a0 : Array Value} {n0 : Nat} (hw : ∀ d ∈ tables_1, d.before a0 Z = true) (hs : Stat Z) (a : Addr) (b : Addr) (h0 : Heap) (F_a_variant : Fld Z h0 a "com/example/sumgen/sumgen/model/Reference" "variant" "Ljava/lang/String;" (.ref b)) :
    Met l Z EL0 n0 NR0 KN0 N_9 prog_18_method_2_code 1 (Option.some Jvm.ClassFile.FieldType.boolean) R_m_tov1 [] #[(.ref a)] h0 (Q_m_tov1 Z a b h0) := by
  refine Met.of_go (plainFor_of_name pn_m_tov1) (fun m => ef_m_tov1 m a b ) ?_
  intro hO hWS
  refine Go.aload_n (pc' := 1) d_prog_18_method_2_0 rfl rfl rfl ?_
  refine Go.getF (pc' := 4) d_prog_18_method_2_1 rfl (host := "") (Or.inl (w_20 hw)) Via.refl F_a_variant ?_
  refine Go.ifnullN (pc' := 7) d_prog_18_method_2_4 rfl ?_
  refine Go.iconst (pc' := 8) d_prog_18_method_2_7 rfl ic_1 ?_
  refine Go.goto (pc' := 12) d_prog_18_method_2_8 (by decide) (by decide) ?_
  exact Go.retS (ty := .boolean) d_prog_18_method_2_12 rfl (by simp) rfl (by decide) (by decide) [] sn0 ⟨rfl, rfl, rfl⟩
theorem pn_m_law : plainName "com/example/sumgen/sumgen/model/ReferenceToOneVariantPinLaw" = true := by first | (simp [plainName, overriddenIn]; done) | decide +kernel
abbrev Q_m_law (Z : State) (p1 : Int32) (p2 : Int32) (p3 : Int32) (p4 : Int32) (p5 : Int32) (p6 : Int32) (h0 : Heap) : Option Value → Heap → List Addr → Prop := fun res h' SN => res = some (.int (1 : Int32)) ∧ SN = []
theorem ef_m_law (m : MethodId) (p1 : Int32) (p2 : Int32) (p3 : Int32) (p4 : Int32) (p5 : Int32) (p6 : Int32) : entryFrame m #[(.int p1), (.int p2), (.int p3), (.int p4), (.int p5), (.int p6)] maxLocals = mkF m 0 #[.val (.int p1), .val (.int p2), .val (.int p3), .val (.int p4), .val (.int p5), .val (.int p6), .unset, .unset, .unset, .unset, .unset, .unset, .unset, .unset, .unset] [] := by first | (simp [entryFrame, mkF, argsToLocals, Value.category, maxLocals]; done) | rfl
set_option maxRecDepth 65536 in
set_option maxHeartbeats 40000000 in
theorem m_law {l : Launch} {Z : State} {a0 : Array Value} {n0 : Nat} (hw : ∀ d ∈ tables_1, d.before a0 Z = true) (hs : Stat Z) (p1 : Int32) (p2 : Int32) (p3 : Int32) (p4 : Int32) (p5 : Int32) (p6 : Int32) (h0 : Heap) :
    Met l Z EL0 n0 NR0 KN0 x code maxLocals ret room_1 [] #[(.int p1), (.int p2), (.int p3), (.int p4), (.int p5), (.int p6)] h0 (Q_m_law Z p1 p2 p3 p4 p5 p6 h0) := by
  refine Met.of_go (plainFor_of_name pn_m_law) (fun m => ef_m_law m p1 p2 p3 p4 p5 p6 ) ?_
  intro hO hWS
  refine Go.iload_n (pc' := 1) at_0 rfl rfl ?_
  refine Go.iconst (pc' := 2) at_1 rfl ic_3 ?_
  refine Go.iand (pc' := 3) at_2 rfl ?_
  refine Go.istore (pc' := 5) (Ls' := #[.val (.int p1), .val (.int p2), .val (.int p3), .val (.int p4), .val (.int p5), .val (.int p6), .val (.int (p1 &&& (3 : Int32))), .unset, .unset, .unset, .unset, .unset, .unset, .unset, .unset]) at_3 rfl rfl ?_
  refine Go.iload_n (pc' := 6) at_5 rfl rfl ?_
  refine Go.iconst (pc' := 7) at_6 rfl ic_2 ?_
  refine Go.iushr (pc' := 8) at_7 rfl ?_
  refine Go.iconst (pc' := 9) at_8 rfl ic_3 ?_
  refine Go.iand (pc' := 10) at_9 rfl ?_
  refine Go.istore (pc' := 12) (Ls' := #[.val (.int p1), .val (.int p2), .val (.int p3), .val (.int p4), .val (.int p5), .val (.int p6), .val (.int (p1 &&& (3 : Int32))), .val (.int (((p1.toUInt32 >>> ((2 : Int32) &&& 31).toUInt32).toInt32) &&& (3 : Int32))), .unset, .unset, .unset, .unset, .unset, .unset, .unset]) at_10 rfl rfl ?_
  refine Go.iload_n (pc' := 13) at_12 rfl rfl ?_
  refine Go.iconst (pc' := 14) at_13 rfl ic_4 ?_
  refine Go.iushr (pc' := 15) at_14 rfl ?_
  refine Go.iconst (pc' := 16) at_15 rfl ic_1 ?_
  refine Go.iand (pc' := 17) at_16 rfl ?_
  by_cases hp : (((p1.toUInt32 >>> ((4 : Int32) &&& 31).toUInt32).toInt32) &&& (1 : Int32)) = (0 : Int32)
  · skip
    refine Go.ifY (pc' := 24) at_17 (by decide) (by decide) ((if0 _ _).trans (teq (hp : (((p1.toUInt32 >>> ((4 : Int32) &&& 31).toUInt32).toInt32) &&& (1 : Int32)) = (0 : Int32))).1) ?_
    refine Go.iconst (pc' := 25) at_24 rfl ic_0 ?_
    refine Go.istore (pc' := 27) (Ls' := #[.val (.int p1), .val (.int p2), .val (.int p3), .val (.int p4), .val (.int p5), .val (.int p6), .val (.int (p1 &&& (3 : Int32))), .val (.int (((p1.toUInt32 >>> ((2 : Int32) &&& 31).toUInt32).toInt32) &&& (3 : Int32))), .val (.int (0 : Int32)), .unset, .unset, .unset, .unset, .unset, .unset]) at_25 rfl rfl ?_
    refine Go.iload_n (pc' := 28) at_27 rfl rfl ?_
    refine Go.iconst (pc' := 29) at_28 rfl ic_5 ?_
    refine Go.iushr (pc' := 30) at_29 rfl ?_
    refine Go.iconst (pc' := 31) at_30 rfl ic_3 ?_
    refine Go.iand (pc' := 32) at_31 rfl ?_
    refine Go.istore (pc' := 34) (Ls' := #[.val (.int p1), .val (.int p2), .val (.int p3), .val (.int p4), .val (.int p5), .val (.int p6), .val (.int (p1 &&& (3 : Int32))), .val (.int (((p1.toUInt32 >>> ((2 : Int32) &&& 31).toUInt32).toInt32) &&& (3 : Int32))), .val (.int (0 : Int32)), .val (.int (((p1.toUInt32 >>> ((5 : Int32) &&& 31).toUInt32).toInt32) &&& (3 : Int32))), .unset, .unset, .unset, .unset, .unset]) at_32 rfl rfl ?_
    refine Go.iload (pc' := 36) at_34 rfl rfl ?_
    refine Go.iload_n (pc' := 37) at_36 rfl rfl ?_
    refine Go.callS (pc' := 40) (z := N_6) at_37 rfl (w_0 hw) (w_1 hw) (w_2 hw) (w_3 hw) (by decide) (argsL := [(.int (p1 &&& (3 : Int32))), (.int p2)]) (rest := []) (Pays.of_met (W := 0) (len := 3) (m_draw hw hs (p1 &&& (3 : Int32)) p2 h0) (w_3 hw) (w_2 hw) (by decide) (by decide)) rfl rfl (lenOf pd_6 rfl) rfl (Nat.le_of_eq rfl) mem0 (by decide) (by decide) ?_
    rintro _ h126 _ K127 le128 ⟨v125, rfl, rfl, p129, p130, p131⟩
    change Go _ _ _ _ _ _ _ _ _ _ _ _ _ _ [] h126 6 12 40 #[.val (.int p1), .val (.int p2), .val (.int p3), .val (.int p4), .val (.int p5), .val (.int p6), .val (.int (p1 &&& (3 : Int32))), .val (.int (((p1.toUInt32 >>> ((2 : Int32) &&& 31).toUInt32).toInt32) &&& (3 : Int32))), .val (.int (0 : Int32)), .val (.int (((p1.toUInt32 >>> ((5 : Int32) &&& 31).toUInt32).toInt32) &&& (3 : Int32))), .unset, .unset, .unset, .unset, .unset] [v125]
    refine Go.astore (pc' := 42) (Ls' := #[.val (.int p1), .val (.int p2), .val (.int p3), .val (.int p4), .val (.int p5), .val (.int p6), .val (.int (p1 &&& (3 : Int32))), .val (.int (((p1.toUInt32 >>> ((2 : Int32) &&& 31).toUInt32).toInt32) &&& (3 : Int32))), .val (.int (0 : Int32)), .val (.int (((p1.toUInt32 >>> ((5 : Int32) &&& 31).toUInt32).toInt32) &&& (3 : Int32))), .val v125, .unset, .unset, .unset, .unset]) at_40 rfl p129 (by rcases ref_cases p129 with rfl | ⟨_, rfl⟩ <;> rfl) ?_
    refine Go.iload (pc' := 44) at_42 rfl rfl ?_
    refine Go.iload_n (pc' := 45) at_44 rfl rfl ?_
    refine Go.callS (pc' := 48) (z := N_6) at_45 rfl (w_0 hw) (w_1 hw) (w_2 hw) (w_3 hw) (by decide) (argsL := [(.int (((p1.toUInt32 >>> ((2 : Int32) &&& 31).toUInt32).toInt32) &&& (3 : Int32))), (.int p3)]) (rest := []) (Pays.of_met (W := 0) (len := 3) (m_draw hw hs (((p1.toUInt32 >>> ((2 : Int32) &&& 31).toUInt32).toInt32) &&& (3 : Int32)) p3 h126) (w_3 hw) (w_2 hw) (by decide) (by decide)) rfl rfl (lenOf pd_6 rfl) rfl (Nat.le_of_eq rfl) mem0 (by decide) (by decide) ?_
    rintro _ h133 _ K134 le135 ⟨v132, rfl, rfl, p136, p137, p138⟩
    change Go _ _ _ _ _ _ _ _ _ _ _ _ _ _ [] h133 12 24 48 #[.val (.int p1), .val (.int p2), .val (.int p3), .val (.int p4), .val (.int p5), .val (.int p6), .val (.int (p1 &&& (3 : Int32))), .val (.int (((p1.toUInt32 >>> ((2 : Int32) &&& 31).toUInt32).toInt32) &&& (3 : Int32))), .val (.int (0 : Int32)), .val (.int (((p1.toUInt32 >>> ((5 : Int32) &&& 31).toUInt32).toInt32) &&& (3 : Int32))), .val v125, .unset, .unset, .unset, .unset] [v132]
    refine Go.astore (pc' := 50) (Ls' := #[.val (.int p1), .val (.int p2), .val (.int p3), .val (.int p4), .val (.int p5), .val (.int p6), .val (.int (p1 &&& (3 : Int32))), .val (.int (((p1.toUInt32 >>> ((2 : Int32) &&& 31).toUInt32).toInt32) &&& (3 : Int32))), .val (.int (0 : Int32)), .val (.int (((p1.toUInt32 >>> ((5 : Int32) &&& 31).toUInt32).toInt32) &&& (3 : Int32))), .val v125, .val v132, .unset, .unset, .unset]) at_48 rfl p136 (by rcases ref_cases p136 with rfl | ⟨_, rfl⟩ <;> rfl) ?_
    refine Go.aconst_null (pc' := 51) at_50 rfl ?_
    refine Go.astore (pc' := 53) (Ls' := #[.val (.int p1), .val (.int p2), .val (.int p3), .val (.int p4), .val (.int p5), .val (.int p6), .val (.int (p1 &&& (3 : Int32))), .val (.int (((p1.toUInt32 >>> ((2 : Int32) &&& 31).toUInt32).toInt32) &&& (3 : Int32))), .val (.int (0 : Int32)), .val (.int (((p1.toUInt32 >>> ((5 : Int32) &&& 31).toUInt32).toInt32) &&& (3 : Int32))), .val v125, .val v132, .val .null, .unset, .unset]) at_51 rfl rfl rfl ?_
    refine Go.iload (pc' := 55) at_53 rfl rfl ?_
    by_cases hk : (p1 &&& (3 : Int32)) = (0 : Int32)
    · skip
      obtain rfl := p130 hk
      refine Go.ifY (pc' := 77) at_55 (by decide) (by decide) ((if0 _ _).trans (teq (rfl : (0 : Int32) = (0 : Int32))).1) ?_
      refine Go.newO (pc' := 80) at_77 rfl (w_4 hw) (w_5 hw) (w_6 hw) (by decide) (by decide) ?_
      intro h139 b140 g141 ge_b140 x142 E_b140 D_b140 U_b140
      have F_b140_type : Fld Z h139 b140 "com/example/sumgen/sumgen/model/Reference" "type" "Ljava/lang/String;" .null := D_b140 (Or.inr (w_19 hw)) (ty := (.object "java/lang/String")) (by decide)
      have F_b140_variant : Fld Z h139 b140 "com/example/sumgen/sumgen/model/Reference" "variant" "Ljava/lang/String;" .null := D_b140 (Or.inr (w_21 hw)) (ty := (.object "java/lang/String")) (by decide)
      have F_b140_place : Fld Z h139 b140 "com/example/sumgen/sumgen/model/Reference" "place" "Lcom/example/sumgen/sumgen/model/Place;" .null := D_b140 (Or.inr (w_23 hw)) (ty := (.object "com/example/sumgen/sumgen/model/Place")) (by decide)
      change Go _ _ _ _ _ _ _ _ _ _ _ _ _ _ [b140] h139 13 27 80 #[.val (.int p1), .val (.int p2), .val (.int p3), .val (.int p4), .val (.int p5), .val (.int p6), .val (.int (p1 &&& (3 : Int32))), .val (.int (((p1.toUInt32 >>> ((2 : Int32) &&& 31).toUInt32).toInt32) &&& (3 : Int32))), .val (.int (0 : Int32)), .val (.int (((p1.toUInt32 >>> ((5 : Int32) &&& 31).toUInt32).toInt32) &&& (3 : Int32))), .val .null, .val v132, .val .null, .unset, .unset] [(.ref b140)]
      refine Go.dup (pc' := 81) at_80 rfl rfl ?_
      refine Go.aload (pc' := 83) at_81 rfl rfl p136 ?_
      refine Go.aload (pc' := 85) at_83 rfl rfl rfl ?_
      refine Go.aload (pc' := 87) at_85 rfl rfl rfl ?_
      refine Go.callI (pc' := 90) (z := N_8) (a := b140) at_87 rfl rfl (w_7 hw) (w_8 hw) (w_9 hw) (by decide) (argsL := [v132, .null, .null]) (rest := [(.ref b140)]) (Pays.of_met (W := 1) (len := 3) (m_ref hw hs b140 v132 .null .null h139 E_b140 F_b140_type F_b140_variant F_b140_place p136 rfl rfl) (w_9 hw) (w_6 hw) (by decide) (by decide)) rfl rfl (lenOf pd_7 rfl) rfl (Nat.le_of_eq rfl) (memS (List.mem_of_getElem? (i := 0) rfl) mem0) (by decide) (by decide) ?_
      rintro _ h143 _ K144 le145 ⟨rfl, rfl, p146, p147⟩
      replace E_b140 := E_b140.keep K144
      have F_b140_variant := p147
      change Go _ _ _ _ _ _ _ _ _ _ _ _ _ _ [b140] h143 13 27 90 #[.val (.int p1), .val (.int p2), .val (.int p3), .val (.int p4), .val (.int p5), .val (.int p6), .val (.int (p1 &&& (3 : Int32))), .val (.int (((p1.toUInt32 >>> ((2 : Int32) &&& 31).toUInt32).toInt32) &&& (3 : Int32))), .val (.int (0 : Int32)), .val (.int (((p1.toUInt32 >>> ((5 : Int32) &&& 31).toUInt32).toInt32) &&& (3 : Int32))), .val .null, .val v132, .val .null, .unset, .unset] [(.ref b140)]
      refine Go.astore (pc' := 92) (Ls' := #[.val (.int p1), .val (.int p2), .val (.int p3), .val (.int p4), .val (.int p5), .val (.int p6), .val (.int (p1 &&& (3 : Int32))), .val (.int (((p1.toUInt32 >>> ((2 : Int32) &&& 31).toUInt32).toInt32) &&& (3 : Int32))), .val (.int (0 : Int32)), .val (.int (((p1.toUInt32 >>> ((5 : Int32) &&& 31).toUInt32).toInt32) &&& (3 : Int32))), .val .null, .val v132, .val .null, .val (.ref b140), .unset]) at_90 rfl rfl rfl ?_
      refine Go.iload (pc' := 94) at_92 rfl rfl ?_
      refine Go.ifY (pc' := 101) at_94 (by decide) (by decide) ((if0 _ _).trans (teq (hk : (p1 &&& (3 : Int32)) = (0 : Int32))).1) ?_
      refine Go.iconst (pc' := 102) at_101 rfl ic_0 ?_
      refine Go.istore (pc' := 104) (Ls' := #[.val (.int p1), .val (.int p2), .val (.int p3), .val (.int p4), .val (.int p5), .val (.int p6), .val (.int (p1 &&& (3 : Int32))), .val (.int (((p1.toUInt32 >>> ((2 : Int32) &&& 31).toUInt32).toInt32) &&& (3 : Int32))), .val (.int (0 : Int32)), .val (.int (((p1.toUInt32 >>> ((5 : Int32) &&& 31).toUInt32).toInt32) &&& (3 : Int32))), .val .null, .val v132, .val .null, .val (.ref b140), .val (.int (0 : Int32))]) at_102 rfl rfl ?_
      refine Go.aload (pc' := 106) at_104 rfl rfl rfl ?_
      refine Go.callV (pc' := 109) (u := N_9) (z := N_9) (a := b140) at_106 rfl (w_24 hw) (w_25 hw) (nf (w_27 hw) rfl) (w_27 hw) (w_26 hw) (by decide) E_b140 (argsL := []) (rest := []) (Pays.of_met (W := 0) (len := 3) (m_tov0 hw hs b140 h143 F_b140_variant) (w_28 hw) (w_6 hw) (by decide) (by decide)) rfl rfl (lenOf pd_8 rfl) rfl (Nat.le_of_eq rfl) mem0 (by decide) (by decide) ?_
      rintro _ _ _ - - ⟨rfl, rfl, rfl⟩
      change Go _ _ _ _ _ _ _ _ _ _ _ _ _ _ [b140] h143 13 27 109 #[.val (.int p1), .val (.int p2), .val (.int p3), .val (.int p4), .val (.int p5), .val (.int p6), .val (.int (p1 &&& (3 : Int32))), .val (.int (((p1.toUInt32 >>> ((2 : Int32) &&& 31).toUInt32).toInt32) &&& (3 : Int32))), .val (.int (0 : Int32)), .val (.int (((p1.toUInt32 >>> ((5 : Int32) &&& 31).toUInt32).toInt32) &&& (3 : Int32))), .val .null, .val v132, .val .null, .val (.ref b140), .val (.int (0 : Int32))] [(.int (0 : Int32))]
      refine Go.iload (pc' := 111) at_109 rfl rfl ?_
      refine Go.icmpN (pc' := 114) at_111 rfl (teq (rfl : (0 : Int32) = (0 : Int32))).2 ?_
      refine Go.iconst (pc' := 115) at_114 rfl ic_1 ?_
      refine Go.goto (pc' := 119) at_115 (by decide) (by decide) ?_
      exact Go.retS (ty := .boolean) at_119 rfl (by simp) rfl (by decide) (by decide) [] sn0 ⟨rfl, rfl⟩
    · skip
      obtain ⟨bv, rfl⟩ := p131 hk
      refine Go.ifY (pc' := 77) at_55 (by decide) (by decide) ((if0 _ _).trans (teq (rfl : (0 : Int32) = (0 : Int32))).1) ?_
      refine Go.newO (pc' := 80) at_77 rfl (w_4 hw) (w_5 hw) (w_6 hw) (by decide) (by decide) ?_
      intro h148 b149 g150 ge_b149 x151 E_b149 D_b149 U_b149
      have F_b149_type : Fld Z h148 b149 "com/example/sumgen/sumgen/model/Reference" "type" "Ljava/lang/String;" .null := D_b149 (Or.inr (w_19 hw)) (ty := (.object "java/lang/String")) (by decide)
      have F_b149_variant : Fld Z h148 b149 "com/example/sumgen/sumgen/model/Reference" "variant" "Ljava/lang/String;" .null := D_b149 (Or.inr (w_21 hw)) (ty := (.object "java/lang/String")) (by decide)
      have F_b149_place : Fld Z h148 b149 "com/example/sumgen/sumgen/model/Reference" "place" "Lcom/example/sumgen/sumgen/model/Place;" .null := D_b149 (Or.inr (w_23 hw)) (ty := (.object "com/example/sumgen/sumgen/model/Place")) (by decide)
      change Go _ _ _ _ _ _ _ _ _ _ _ _ _ _ [b149] h148 13 27 80 #[.val (.int p1), .val (.int p2), .val (.int p3), .val (.int p4), .val (.int p5), .val (.int p6), .val (.int (p1 &&& (3 : Int32))), .val (.int (((p1.toUInt32 >>> ((2 : Int32) &&& 31).toUInt32).toInt32) &&& (3 : Int32))), .val (.int (0 : Int32)), .val (.int (((p1.toUInt32 >>> ((5 : Int32) &&& 31).toUInt32).toInt32) &&& (3 : Int32))), .val (.ref bv), .val v132, .val .null, .unset, .unset] [(.ref b149)]
      refine Go.dup (pc' := 81) at_80 rfl rfl ?_
      refine Go.aload (pc' := 83) at_81 rfl rfl p136 ?_
      refine Go.aload (pc' := 85) at_83 rfl rfl rfl ?_
      refine Go.aload (pc' := 87) at_85 rfl rfl rfl ?_
      refine Go.callI (pc' := 90) (z := N_8) (a := b149) at_87 rfl rfl (w_7 hw) (w_8 hw) (w_9 hw) (by decide) (argsL := [v132, (.ref bv), .null]) (rest := [(.ref b149)]) (Pays.of_met (W := 1) (len := 3) (m_ref hw hs b149 v132 (.ref bv) .null h148 E_b149 F_b149_type F_b149_variant F_b149_place p136 rfl rfl) (w_9 hw) (w_6 hw) (by decide) (by decide)) rfl rfl (lenOf pd_7 rfl) rfl (Nat.le_of_eq rfl) (memS (List.mem_of_getElem? (i := 0) rfl) mem0) (by decide) (by decide) ?_
      rintro _ h152 _ K153 le154 ⟨rfl, rfl, p155, p156⟩
      replace E_b149 := E_b149.keep K153
      have F_b149_variant := p156
      change Go _ _ _ _ _ _ _ _ _ _ _ _ _ _ [b149] h152 13 27 90 #[.val (.int p1), .val (.int p2), .val (.int p3), .val (.int p4), .val (.int p5), .val (.int p6), .val (.int (p1 &&& (3 : Int32))), .val (.int (((p1.toUInt32 >>> ((2 : Int32) &&& 31).toUInt32).toInt32) &&& (3 : Int32))), .val (.int (0 : Int32)), .val (.int (((p1.toUInt32 >>> ((5 : Int32) &&& 31).toUInt32).toInt32) &&& (3 : Int32))), .val (.ref bv), .val v132, .val .null, .unset, .unset] [(.ref b149)]
      refine Go.astore (pc' := 92) (Ls' := #[.val (.int p1), .val (.int p2), .val (.int p3), .val (.int p4), .val (.int p5), .val (.int p6), .val (.int (p1 &&& (3 : Int32))), .val (.int (((p1.toUInt32 >>> ((2 : Int32) &&& 31).toUInt32).toInt32) &&& (3 : Int32))), .val (.int (0 : Int32)), .val (.int (((p1.toUInt32 >>> ((5 : Int32) &&& 31).toUInt32).toInt32) &&& (3 : Int32))), .val (.ref bv), .val v132, .val .null, .val (.ref b149), .unset]) at_90 rfl rfl rfl ?_
      refine Go.iload (pc' := 94) at_92 rfl rfl ?_
      refine Go.ifN (pc' := 97) at_94 rfl ((if0 _ _).trans (feq (hk : ¬ ((p1 &&& (3 : Int32)) = (0 : Int32)))).1) ?_
      refine Go.iconst (pc' := 98) at_97 rfl ic_1 ?_
      refine Go.goto (pc' := 102) at_98 (by decide) (by decide) ?_
      refine Go.istore (pc' := 104) (Ls' := #[.val (.int p1), .val (.int p2), .val (.int p3), .val (.int p4), .val (.int p5), .val (.int p6), .val (.int (p1 &&& (3 : Int32))), .val (.int (((p1.toUInt32 >>> ((2 : Int32) &&& 31).toUInt32).toInt32) &&& (3 : Int32))), .val (.int (0 : Int32)), .val (.int (((p1.toUInt32 >>> ((5 : Int32) &&& 31).toUInt32).toInt32) &&& (3 : Int32))), .val (.ref bv), .val v132, .val .null, .val (.ref b149), .val (.int (1 : Int32))]) at_102 rfl rfl ?_
      refine Go.aload (pc' := 106) at_104 rfl rfl rfl ?_
      refine Go.callV (pc' := 109) (u := N_9) (z := N_9) (a := b149) at_106 rfl (w_24 hw) (w_25 hw) (nf (w_27 hw) rfl) (w_27 hw) (w_26 hw) (by decide) E_b149 (argsL := []) (rest := []) (Pays.of_met (W := 0) (len := 3) (m_tov1 hw hs b149 bv h152 F_b149_variant) (w_28 hw) (w_6 hw) (by decide) (by decide)) rfl rfl (lenOf pd_8 rfl) rfl (Nat.le_of_eq rfl) mem0 (by decide) (by decide) ?_
      rintro _ _ _ - - ⟨rfl, rfl, rfl⟩
      change Go _ _ _ _ _ _ _ _ _ _ _ _ _ _ [b149] h152 13 27 109 #[.val (.int p1), .val (.int p2), .val (.int p3), .val (.int p4), .val (.int p5), .val (.int p6), .val (.int (p1 &&& (3 : Int32))), .val (.int (((p1.toUInt32 >>> ((2 : Int32) &&& 31).toUInt32).toInt32) &&& (3 : Int32))), .val (.int (0 : Int32)), .val (.int (((p1.toUInt32 >>> ((5 : Int32) &&& 31).toUInt32).toInt32) &&& (3 : Int32))), .val (.ref bv), .val v132, .val .null, .val (.ref b149), .val (.int (1 : Int32))] [(.int (1 : Int32))]
      refine Go.iload (pc' := 111) at_109 rfl rfl ?_
      refine Go.icmpN (pc' := 114) at_111 rfl (teq (rfl : (1 : Int32) = (1 : Int32))).2 ?_
      refine Go.iconst (pc' := 115) at_114 rfl ic_1 ?_
      refine Go.goto (pc' := 119) at_115 (by decide) (by decide) ?_
      exact Go.retS (ty := .boolean) at_119 rfl (by simp) rfl (by decide) (by decide) [] sn0 ⟨rfl, rfl⟩
  · skip
    refine Go.ifN (pc' := 20) at_17 rfl ((if0 _ _).trans (feq (hp : ¬ ((((p1.toUInt32 >>> ((4 : Int32) &&& 31).toUInt32).toInt32) &&& (1 : Int32)) = (0 : Int32)))).1) ?_
    refine Go.iconst (pc' := 21) at_20 rfl ic_1 ?_
    refine Go.goto (pc' := 25) at_21 (by decide) (by decide) ?_
    refine Go.istore (pc' := 27) (Ls' := #[.val (.int p1), .val (.int p2), .val (.int p3), .val (.int p4), .val (.int p5), .val (.int p6), .val (.int (p1 &&& (3 : Int32))), .val (.int (((p1.toUInt32 >>> ((2 : Int32) &&& 31).toUInt32).toInt32) &&& (3 : Int32))), .val (.int (1 : Int32)), .unset, .unset, .unset, .unset, .unset, .unset]) at_25 rfl rfl ?_
    refine Go.iload_n (pc' := 28) at_27 rfl rfl ?_
    refine Go.iconst (pc' := 29) at_28 rfl ic_5 ?_
    refine Go.iushr (pc' := 30) at_29 rfl ?_
    refine Go.iconst (pc' := 31) at_30 rfl ic_3 ?_
    refine Go.iand (pc' := 32) at_31 rfl ?_
    refine Go.istore (pc' := 34) (Ls' := #[.val (.int p1), .val (.int p2), .val (.int p3), .val (.int p4), .val (.int p5), .val (.int p6), .val (.int (p1 &&& (3 : Int32))), .val (.int (((p1.toUInt32 >>> ((2 : Int32) &&& 31).toUInt32).toInt32) &&& (3 : Int32))), .val (.int (1 : Int32)), .val (.int (((p1.toUInt32 >>> ((5 : Int32) &&& 31).toUInt32).toInt32) &&& (3 : Int32))), .unset, .unset, .unset, .unset, .unset]) at_32 rfl rfl ?_
    refine Go.iload (pc' := 36) at_34 rfl rfl ?_
    refine Go.iload_n (pc' := 37) at_36 rfl rfl ?_
    refine Go.callS (pc' := 40) (z := N_6) at_37 rfl (w_0 hw) (w_1 hw) (w_2 hw) (w_3 hw) (by decide) (argsL := [(.int (p1 &&& (3 : Int32))), (.int p2)]) (rest := []) (Pays.of_met (W := 0) (len := 3) (m_draw hw hs (p1 &&& (3 : Int32)) p2 h0) (w_3 hw) (w_2 hw) (by decide) (by decide)) rfl rfl (lenOf pd_6 rfl) rfl (Nat.le_of_eq rfl) mem0 (by decide) (by decide) ?_
    rintro _ h158 _ K159 le160 ⟨v157, rfl, rfl, p161, p162, p163⟩
    change Go _ _ _ _ _ _ _ _ _ _ _ _ _ _ [] h158 6 12 40 #[.val (.int p1), .val (.int p2), .val (.int p3), .val (.int p4), .val (.int p5), .val (.int p6), .val (.int (p1 &&& (3 : Int32))), .val (.int (((p1.toUInt32 >>> ((2 : Int32) &&& 31).toUInt32).toInt32) &&& (3 : Int32))), .val (.int (1 : Int32)), .val (.int (((p1.toUInt32 >>> ((5 : Int32) &&& 31).toUInt32).toInt32) &&& (3 : Int32))), .unset, .unset, .unset, .unset, .unset] [v157]
    refine Go.astore (pc' := 42) (Ls' := #[.val (.int p1), .val (.int p2), .val (.int p3), .val (.int p4), .val (.int p5), .val (.int p6), .val (.int (p1 &&& (3 : Int32))), .val (.int (((p1.toUInt32 >>> ((2 : Int32) &&& 31).toUInt32).toInt32) &&& (3 : Int32))), .val (.int (1 : Int32)), .val (.int (((p1.toUInt32 >>> ((5 : Int32) &&& 31).toUInt32).toInt32) &&& (3 : Int32))), .val v157, .unset, .unset, .unset, .unset]) at_40 rfl p161 (by rcases ref_cases p161 with rfl | ⟨_, rfl⟩ <;> rfl) ?_
    refine Go.iload (pc' := 44) at_42 rfl rfl ?_
    refine Go.iload_n (pc' := 45) at_44 rfl rfl ?_
    refine Go.callS (pc' := 48) (z := N_6) at_45 rfl (w_0 hw) (w_1 hw) (w_2 hw) (w_3 hw) (by decide) (argsL := [(.int (((p1.toUInt32 >>> ((2 : Int32) &&& 31).toUInt32).toInt32) &&& (3 : Int32))), (.int p3)]) (rest := []) (Pays.of_met (W := 0) (len := 3) (m_draw hw hs (((p1.toUInt32 >>> ((2 : Int32) &&& 31).toUInt32).toInt32) &&& (3 : Int32)) p3 h158) (w_3 hw) (w_2 hw) (by decide) (by decide)) rfl rfl (lenOf pd_6 rfl) rfl (Nat.le_of_eq rfl) mem0 (by decide) (by decide) ?_
    rintro _ h165 _ K166 le167 ⟨v164, rfl, rfl, p168, p169, p170⟩
    change Go _ _ _ _ _ _ _ _ _ _ _ _ _ _ [] h165 12 24 48 #[.val (.int p1), .val (.int p2), .val (.int p3), .val (.int p4), .val (.int p5), .val (.int p6), .val (.int (p1 &&& (3 : Int32))), .val (.int (((p1.toUInt32 >>> ((2 : Int32) &&& 31).toUInt32).toInt32) &&& (3 : Int32))), .val (.int (1 : Int32)), .val (.int (((p1.toUInt32 >>> ((5 : Int32) &&& 31).toUInt32).toInt32) &&& (3 : Int32))), .val v157, .unset, .unset, .unset, .unset] [v164]
    refine Go.astore (pc' := 50) (Ls' := #[.val (.int p1), .val (.int p2), .val (.int p3), .val (.int p4), .val (.int p5), .val (.int p6), .val (.int (p1 &&& (3 : Int32))), .val (.int (((p1.toUInt32 >>> ((2 : Int32) &&& 31).toUInt32).toInt32) &&& (3 : Int32))), .val (.int (1 : Int32)), .val (.int (((p1.toUInt32 >>> ((5 : Int32) &&& 31).toUInt32).toInt32) &&& (3 : Int32))), .val v157, .val v164, .unset, .unset, .unset]) at_48 rfl p168 (by rcases ref_cases p168 with rfl | ⟨_, rfl⟩ <;> rfl) ?_
    refine Go.aconst_null (pc' := 51) at_50 rfl ?_
    refine Go.astore (pc' := 53) (Ls' := #[.val (.int p1), .val (.int p2), .val (.int p3), .val (.int p4), .val (.int p5), .val (.int p6), .val (.int (p1 &&& (3 : Int32))), .val (.int (((p1.toUInt32 >>> ((2 : Int32) &&& 31).toUInt32).toInt32) &&& (3 : Int32))), .val (.int (1 : Int32)), .val (.int (((p1.toUInt32 >>> ((5 : Int32) &&& 31).toUInt32).toInt32) &&& (3 : Int32))), .val v157, .val v164, .val .null, .unset, .unset]) at_51 rfl rfl rfl ?_
    refine Go.iload (pc' := 55) at_53 rfl rfl ?_
    by_cases hk : (p1 &&& (3 : Int32)) = (0 : Int32)
    · skip
      obtain rfl := p162 hk
      refine Go.ifN (pc' := 58) at_55 rfl ((if0 _ _).trans (feq (by decide : ¬ ((1 : Int32) = (0 : Int32)))).1) ?_
      refine Go.newO (pc' := 61) at_58 rfl (w_60 hw) (w_61 hw) (w_62 hw) (by decide) (by decide) ?_
      intro h171 b172 g173 ge_b172 x174 E_b172 D_b172 U_b172
      have F_b172_file : Fld Z h171 b172 "com/example/sumgen/sumgen/model/Place" "file" "Ljava/lang/String;" .null := D_b172 (Or.inr (w_68 hw)) (ty := (.object "java/lang/String")) (by decide)
      have F_b172_line : Fld Z h171 b172 "com/example/sumgen/sumgen/model/Place" "line" "I" (.int (0 : Int32)) := D_b172 (Or.inr (w_70 hw)) (ty := .int) (by decide)
      have F_b172_column : Fld Z h171 b172 "com/example/sumgen/sumgen/model/Place" "column" "I" (.int (0 : Int32)) := D_b172 (Or.inr (w_72 hw)) (ty := .int) (by decide)
      change Go _ _ _ _ _ _ _ _ _ _ _ _ _ _ [b172] h171 13 27 61 #[.val (.int p1), .val (.int p2), .val (.int p3), .val (.int p4), .val (.int p5), .val (.int p6), .val (.int (p1 &&& (3 : Int32))), .val (.int (((p1.toUInt32 >>> ((2 : Int32) &&& 31).toUInt32).toInt32) &&& (3 : Int32))), .val (.int (1 : Int32)), .val (.int (((p1.toUInt32 >>> ((5 : Int32) &&& 31).toUInt32).toInt32) &&& (3 : Int32))), .val .null, .val v164, .val .null, .unset, .unset] [(.ref b172)]
      refine Go.dup (pc' := 62) at_61 rfl rfl ?_
      refine Go.iload (pc' := 64) at_62 rfl rfl ?_
      refine Go.iload_n (pc' := 65) at_64 rfl rfl ?_
      refine Go.callS (pc' := 68) (z := N_6) at_65 rfl (w_0 hw) (w_1 hw) (w_2 hw) (w_3 hw) (by decide) (argsL := [(.int (((p1.toUInt32 >>> ((5 : Int32) &&& 31).toUInt32).toInt32) &&& (3 : Int32))), (.int p4)]) (rest := [(.ref b172), (.ref b172)]) (Pays.of_met (W := 2) (len := 3) (m_draw hw hs (((p1.toUInt32 >>> ((5 : Int32) &&& 31).toUInt32).toInt32) &&& (3 : Int32)) p4 h171) (w_3 hw) (w_2 hw) (by decide) (by decide)) rfl rfl (lenOf pd_6 rfl) rfl (Nat.le_of_eq rfl) mem0 (by decide) (by decide) ?_
      rintro _ h176 _ K177 le178 ⟨v175, rfl, rfl, p179, p180, p181⟩
      replace E_b172 := E_b172.keep K177
      replace F_b172_file := F_b172_file.keep K177 nin0
      replace F_b172_line := F_b172_line.keep K177 nin0
      replace F_b172_column := F_b172_column.keep K177 nin0
      change Go _ _ _ _ _ _ _ _ _ _ _ _ _ _ [b172] h176 19 39 68 #[.val (.int p1), .val (.int p2), .val (.int p3), .val (.int p4), .val (.int p5), .val (.int p6), .val (.int (p1 &&& (3 : Int32))), .val (.int (((p1.toUInt32 >>> ((2 : Int32) &&& 31).toUInt32).toInt32) &&& (3 : Int32))), .val (.int (1 : Int32)), .val (.int (((p1.toUInt32 >>> ((5 : Int32) &&& 31).toUInt32).toInt32) &&& (3 : Int32))), .val .null, .val v164, .val .null, .unset, .unset] [v175, (.ref b172), (.ref b172)]
      refine Go.iload (pc' := 70) at_68 rfl rfl ?_
      refine Go.iload (pc' := 72) at_70 rfl rfl ?_
      refine Go.callI (pc' := 75) (z := N_7) (a := b172) at_72 rfl rfl (w_63 hw) (w_64 hw) (w_65 hw) (by decide) (argsL := [v175, (.int p5), (.int p6)]) (rest := [(.ref b172)]) (Pays.of_met (W := 1) (len := 3) (m_place hw hs b172 v175 p5 p6 h176 E_b172 F_b172_file F_b172_line F_b172_column p179) (w_65 hw) (w_62 hw) (by decide) (by decide)) rfl rfl (lenOf pd_9 rfl) rfl (Nat.le_of_eq rfl) (memS (List.mem_of_getElem? (i := 0) rfl) mem0) (by decide) (by decide) ?_
      rintro _ h182 _ K183 le184 ⟨rfl, rfl, p185⟩
      replace E_b172 := E_b172.keep K183
      change Go _ _ _ _ _ _ _ _ _ _ _ _ _ _ [b172] h182 19 39 75 #[.val (.int p1), .val (.int p2), .val (.int p3), .val (.int p4), .val (.int p5), .val (.int p6), .val (.int (p1 &&& (3 : Int32))), .val (.int (((p1.toUInt32 >>> ((2 : Int32) &&& 31).toUInt32).toInt32) &&& (3 : Int32))), .val (.int (1 : Int32)), .val (.int (((p1.toUInt32 >>> ((5 : Int32) &&& 31).toUInt32).toInt32) &&& (3 : Int32))), .val .null, .val v164, .val .null, .unset, .unset] [(.ref b172)]
      refine Go.astore (pc' := 77) (Ls' := #[.val (.int p1), .val (.int p2), .val (.int p3), .val (.int p4), .val (.int p5), .val (.int p6), .val (.int (p1 &&& (3 : Int32))), .val (.int (((p1.toUInt32 >>> ((2 : Int32) &&& 31).toUInt32).toInt32) &&& (3 : Int32))), .val (.int (1 : Int32)), .val (.int (((p1.toUInt32 >>> ((5 : Int32) &&& 31).toUInt32).toInt32) &&& (3 : Int32))), .val .null, .val v164, .val (.ref b172), .unset, .unset]) at_75 rfl rfl rfl ?_
      refine Go.newO (pc' := 80) at_77 rfl (w_4 hw) (w_5 hw) (w_6 hw) (by decide) (by decide) ?_
      intro h186 b187 g188 ge_b187 x189 E_b187 D_b187 U_b187
      have o_b172_b187 : b172 ≠ b187 := Nat.ne_of_lt (Nat.lt_of_lt_of_le E_b172.lt (Nat.le_of_eq g188))
      replace E_b172 := E_b172.ext x189
      have F_b187_type : Fld Z h186 b187 "com/example/sumgen/sumgen/model/Reference" "type" "Ljava/lang/String;" .null := D_b187 (Or.inr (w_19 hw)) (ty := (.object "java/lang/String")) (by decide)
      have F_b187_variant : Fld Z h186 b187 "com/example/sumgen/sumgen/model/Reference" "variant" "Ljava/lang/String;" .null := D_b187 (Or.inr (w_21 hw)) (ty := (.object "java/lang/String")) (by decide)
      have F_b187_place : Fld Z h186 b187 "com/example/sumgen/sumgen/model/Reference" "place" "Lcom/example/sumgen/sumgen/model/Place;" .null := D_b187 (Or.inr (w_23 hw)) (ty := (.object "com/example/sumgen/sumgen/model/Place")) (by decide)
      change Go _ _ _ _ _ _ _ _ _ _ _ _ _ _ [b187, b172] h186 20 42 80 #[.val (.int p1), .val (.int p2), .val (.int p3), .val (.int p4), .val (.int p5), .val (.int p6), .val (.int (p1 &&& (3 : Int32))), .val (.int (((p1.toUInt32 >>> ((2 : Int32) &&& 31).toUInt32).toInt32) &&& (3 : Int32))), .val (.int (1 : Int32)), .val (.int (((p1.toUInt32 >>> ((5 : Int32) &&& 31).toUInt32).toInt32) &&& (3 : Int32))), .val .null, .val v164, .val (.ref b172), .unset, .unset] [(.ref b187)]
      refine Go.dup (pc' := 81) at_80 rfl rfl ?_
      refine Go.aload (pc' := 83) at_81 rfl rfl p168 ?_
      refine Go.aload (pc' := 85) at_83 rfl rfl rfl ?_
      refine Go.aload (pc' := 87) at_85 rfl rfl rfl ?_
      refine Go.callI (pc' := 90) (z := N_8) (a := b187) at_87 rfl rfl (w_7 hw) (w_8 hw) (w_9 hw) (by decide) (argsL := [v164, .null, (.ref b172)]) (rest := [(.ref b187)]) (Pays.of_met (W := 1) (len := 3) (m_ref hw hs b187 v164 .null (.ref b172) h186 E_b187 F_b187_type F_b187_variant F_b187_place p168 rfl rfl) (w_9 hw) (w_6 hw) (by decide) (by decide)) rfl rfl (lenOf pd_7 rfl) rfl (Nat.le_of_eq rfl) (memS (List.mem_of_getElem? (i := 0) rfl) mem0) (by decide) (by decide) ?_
      rintro _ h190 _ K191 le192 ⟨rfl, rfl, p193, p194⟩
      replace E_b172 := E_b172.keep K191
      replace E_b187 := E_b187.keep K191
      have F_b187_variant := p194
      change Go _ _ _ _ _ _ _ _ _ _ _ _ _ _ [b187, b172] h190 20 42 90 #[.val (.int p1), .val (.int p2), .val (.int p3), .val (.int p4), .val (.int p5), .val (.int p6), .val (.int (p1 &&& (3 : Int32))), .val (.int (((p1.toUInt32 >>> ((2 : Int32) &&& 31).toUInt32).toInt32) &&& (3 : Int32))), .val (.int (1 : Int32)), .val (.int (((p1.toUInt32 >>> ((5 : Int32) &&& 31).toUInt32).toInt32) &&& (3 : Int32))), .val .null, .val v164, .val (.ref b172), .unset, .unset] [(.ref b187)]
      refine Go.astore (pc' := 92) (Ls' := #[.val (.int p1), .val (.int p2), .val (.int p3), .val (.int p4), .val (.int p5), .val (.int p6), .val (.int (p1 &&& (3 : Int32))), .val (.int (((p1.toUInt32 >>> ((2 : Int32) &&& 31).toUInt32).toInt32) &&& (3 : Int32))), .val (.int (1 : Int32)), .val (.int (((p1.toUInt32 >>> ((5 : Int32) &&& 31).toUInt32).toInt32) &&& (3 : Int32))), .val .null, .val v164, .val (.ref b172), .val (.ref b187), .unset]) at_90 rfl rfl rfl ?_
      refine Go.iload (pc' := 94) at_92 rfl rfl ?_
      refine Go.ifY (pc' := 101) at_94 (by decide) (by decide) ((if0 _ _).trans (teq (hk : (p1 &&& (3 : Int32)) = (0 : Int32))).1) ?_
      refine Go.iconst (pc' := 102) at_101 rfl ic_0 ?_
      refine Go.istore (pc' := 104) (Ls' := #[.val (.int p1), .val (.int p2), .val (.int p3), .val (.int p4), .val (.int p5), .val (.int p6), .val (.int (p1 &&& (3 : Int32))), .val (.int (((p1.toUInt32 >>> ((2 : Int32) &&& 31).toUInt32).toInt32) &&& (3 : Int32))), .val (.int (1 : Int32)), .val (.int (((p1.toUInt32 >>> ((5 : Int32) &&& 31).toUInt32).toInt32) &&& (3 : Int32))), .val .null, .val v164, .val (.ref b172), .val (.ref b187), .val (.int (0 : Int32))]) at_102 rfl rfl ?_
      refine Go.aload (pc' := 106) at_104 rfl rfl rfl ?_
      refine Go.callV (pc' := 109) (u := N_9) (z := N_9) (a := b187) at_106 rfl (w_24 hw) (w_25 hw) (nf (w_27 hw) rfl) (w_27 hw) (w_26 hw) (by decide) E_b187 (argsL := []) (rest := []) (Pays.of_met (W := 0) (len := 3) (m_tov0 hw hs b187 h190 F_b187_variant) (w_28 hw) (w_6 hw) (by decide) (by decide)) rfl rfl (lenOf pd_8 rfl) rfl (Nat.le_of_eq rfl) mem0 (by decide) (by decide) ?_
      rintro _ _ _ - - ⟨rfl, rfl, rfl⟩
      change Go _ _ _ _ _ _ _ _ _ _ _ _ _ _ [b187, b172] h190 20 42 109 #[.val (.int p1), .val (.int p2), .val (.int p3), .val (.int p4), .val (.int p5), .val (.int p6), .val (.int (p1 &&& (3 : Int32))), .val (.int (((p1.toUInt32 >>> ((2 : Int32) &&& 31).toUInt32).toInt32) &&& (3 : Int32))), .val (.int (1 : Int32)), .val (.int (((p1.toUInt32 >>> ((5 : Int32) &&& 31).toUInt32).toInt32) &&& (3 : Int32))), .val .null, .val v164, .val (.ref b172), .val (.ref b187), .val (.int (0 : Int32))] [(.int (0 : Int32))]
      refine Go.iload (pc' := 111) at_109 rfl rfl ?_
      refine Go.icmpN (pc' := 114) at_111 rfl (teq (rfl : (0 : Int32) = (0 : Int32))).2 ?_
      refine Go.iconst (pc' := 115) at_114 rfl ic_1 ?_
      refine Go.goto (pc' := 119) at_115 (by decide) (by decide) ?_
      exact Go.retS (ty := .boolean) at_119 rfl (by simp) rfl (by decide) (by decide) [] sn0 ⟨rfl, rfl⟩
    · skip
      obtain ⟨bv, rfl⟩ := p163 hk
      refine Go.ifN (pc' := 58) at_55 rfl ((if0 _ _).trans (feq (by decide : ¬ ((1 : Int32) = (0 : Int32)))).1) ?_
      refine Go.newO (pc' := 61) at_58 rfl (w_60 hw) (w_61 hw) (w_62 hw) (by decide) (by decide) ?_
      intro h195 b196 g197 ge_b196 x198 E_b196 D_b196 U_b196
      have F_b196_file : Fld Z h195 b196 "com/example/sumgen/sumgen/model/Place" "file" "Ljava/lang/String;" .null := D_b196 (Or.inr (w_68 hw)) (ty := (.object "java/lang/String")) (by decide)
      have F_b196_line : Fld Z h195 b196 "com/example/sumgen/sumgen/model/Place" "line" "I" (.int (0 : Int32)) := D_b196 (Or.inr (w_70 hw)) (ty := .int) (by decide)
      have F_b196_column : Fld Z h195 b196 "com/example/sumgen/sumgen/model/Place" "column" "I" (.int (0 : Int32)) := D_b196 (Or.inr (w_72 hw)) (ty := .int) (by decide)
      change Go _ _ _ _ _ _ _ _ _ _ _ _ _ _ [b196] h195 13 27 61 #[.val (.int p1), .val (.int p2), .val (.int p3), .val (.int p4), .val (.int p5), .val (.int p6), .val (.int (p1 &&& (3 : Int32))), .val (.int (((p1.toUInt32 >>> ((2 : Int32) &&& 31).toUInt32).toInt32) &&& (3 : Int32))), .val (.int (1 : Int32)), .val (.int (((p1.toUInt32 >>> ((5 : Int32) &&& 31).toUInt32).toInt32) &&& (3 : Int32))), .val (.ref bv), .val v164, .val .null, .unset, .unset] [(.ref b196)]
      refine Go.dup (pc' := 62) at_61 rfl rfl ?_
      refine Go.iload (pc' := 64) at_62 rfl rfl ?_
      refine Go.iload_n (pc' := 65) at_64 rfl rfl ?_
      refine Go.callS (pc' := 68) (z := N_6) at_65 rfl (w_0 hw) (w_1 hw) (w_2 hw) (w_3 hw) (by decide) (argsL := [(.int (((p1.toUInt32 >>> ((5 : Int32) &&& 31).toUInt32).toInt32) &&& (3 : Int32))), (.int p4)]) (rest := [(.ref b196), (.ref b196)]) (Pays.of_met (W := 2) (len := 3) (m_draw hw hs (((p1.toUInt32 >>> ((5 : Int32) &&& 31).toUInt32).toInt32) &&& (3 : Int32)) p4 h195) (w_3 hw) (w_2 hw) (by decide) (by decide)) rfl rfl (lenOf pd_6 rfl) rfl (Nat.le_of_eq rfl) mem0 (by decide) (by decide) ?_
      rintro _ h200 _ K201 le202 ⟨v199, rfl, rfl, p203, p204, p205⟩
      replace E_b196 := E_b196.keep K201
      replace F_b196_file := F_b196_file.keep K201 nin0
      replace F_b196_line := F_b196_line.keep K201 nin0
      replace F_b196_column := F_b196_column.keep K201 nin0
      change Go _ _ _ _ _ _ _ _ _ _ _ _ _ _ [b196] h200 19 39 68 #[.val (.int p1), .val (.int p2), .val (.int p3), .val (.int p4), .val (.int p5), .val (.int p6), .val (.int (p1 &&& (3 : Int32))), .val (.int (((p1.toUInt32 >>> ((2 : Int32) &&& 31).toUInt32).toInt32) &&& (3 : Int32))), .val (.int (1 : Int32)), .val (.int (((p1.toUInt32 >>> ((5 : Int32) &&& 31).toUInt32).toInt32) &&& (3 : Int32))), .val (.ref bv), .val v164, .val .null, .unset, .unset] [v199, (.ref b196), (.ref b196)]
      refine Go.iload (pc' := 70) at_68 rfl rfl ?_
      refine Go.iload (pc' := 72) at_70 rfl rfl ?_
      refine Go.callI (pc' := 75) (z := N_7) (a := b196) at_72 rfl rfl (w_63 hw) (w_64 hw) (w_65 hw) (by decide) (argsL := [v199, (.int p5), (.int p6)]) (rest := [(.ref b196)]) (Pays.of_met (W := 1) (len := 3) (m_place hw hs b196 v199 p5 p6 h200 E_b196 F_b196_file F_b196_line F_b196_column p203) (w_65 hw) (w_62 hw) (by decide) (by decide)) rfl rfl (lenOf pd_9 rfl) rfl (Nat.le_of_eq rfl) (memS (List.mem_of_getElem? (i := 0) rfl) mem0) (by decide) (by decide) ?_
      rintro _ h206 _ K207 le208 ⟨rfl, rfl, p209⟩
      replace E_b196 := E_b196.keep K207
      change Go _ _ _ _ _ _ _ _ _ _ _ _ _ _ [b196] h206 19 39 75 #[.val (.int p1), .val (.int p2), .val (.int p3), .val (.int p4), .val (.int p5), .val (.int p6), .val (.int (p1 &&& (3 : Int32))), .val (.int (((p1.toUInt32 >>> ((2 : Int32) &&& 31).toUInt32).toInt32) &&& (3 : Int32))), .val (.int (1 : Int32)), .val (.int (((p1.toUInt32 >>> ((5 : Int32) &&& 31).toUInt32).toInt32) &&& (3 : Int32))), .val (.ref bv), .val v164, .val .null, .unset, .unset] [(.ref b196)]
      refine Go.astore (pc' := 77) (Ls' := #[.val (.int p1), .val (.int p2), .val (.int p3), .val (.int p4), .val (.int p5), .val (.int p6), .val (.int (p1 &&& (3 : Int32))), .val (.int (((p1.toUInt32 >>> ((2 : Int32) &&& 31).toUInt32).toInt32) &&& (3 : Int32))), .val (.int (1 : Int32)), .val (.int (((p1.toUInt32 >>> ((5 : Int32) &&& 31).toUInt32).toInt32) &&& (3 : Int32))), .val (.ref bv), .val v164, .val (.ref b196), .unset, .unset]) at_75 rfl rfl rfl ?_
      refine Go.newO (pc' := 80) at_77 rfl (w_4 hw) (w_5 hw) (w_6 hw) (by decide) (by decide) ?_
      intro h210 b211 g212 ge_b211 x213 E_b211 D_b211 U_b211
      have o_b196_b211 : b196 ≠ b211 := Nat.ne_of_lt (Nat.lt_of_lt_of_le E_b196.lt (Nat.le_of_eq g212))
      replace E_b196 := E_b196.ext x213
      have F_b211_type : Fld Z h210 b211 "com/example/sumgen/sumgen/model/Reference" "type" "Ljava/lang/String;" .null := D_b211 (Or.inr (w_19 hw)) (ty := (.object "java/lang/String")) (by decide)
      have F_b211_variant : Fld Z h210 b211 "com/example/sumgen/sumgen/model/Reference" "variant" "Ljava/lang/String;" .null := D_b211 (Or.inr (w_21 hw)) (ty := (.object "java/lang/String")) (by decide)
      have F_b211_place : Fld Z h210 b211 "com/example/sumgen/sumgen/model/Reference" "place" "Lcom/example/sumgen/sumgen/model/Place;" .null := D_b211 (Or.inr (w_23 hw)) (ty := (.object "com/example/sumgen/sumgen/model/Place")) (by decide)
      change Go _ _ _ _ _ _ _ _ _ _ _ _ _ _ [b211, b196] h210 20 42 80 #[.val (.int p1), .val (.int p2), .val (.int p3), .val (.int p4), .val (.int p5), .val (.int p6), .val (.int (p1 &&& (3 : Int32))), .val (.int (((p1.toUInt32 >>> ((2 : Int32) &&& 31).toUInt32).toInt32) &&& (3 : Int32))), .val (.int (1 : Int32)), .val (.int (((p1.toUInt32 >>> ((5 : Int32) &&& 31).toUInt32).toInt32) &&& (3 : Int32))), .val (.ref bv), .val v164, .val (.ref b196), .unset, .unset] [(.ref b211)]
      refine Go.dup (pc' := 81) at_80 rfl rfl ?_
      refine Go.aload (pc' := 83) at_81 rfl rfl p168 ?_
      refine Go.aload (pc' := 85) at_83 rfl rfl rfl ?_
      refine Go.aload (pc' := 87) at_85 rfl rfl rfl ?_
      refine Go.callI (pc' := 90) (z := N_8) (a := b211) at_87 rfl rfl (w_7 hw) (w_8 hw) (w_9 hw) (by decide) (argsL := [v164, (.ref bv), (.ref b196)]) (rest := [(.ref b211)]) (Pays.of_met (W := 1) (len := 3) (m_ref hw hs b211 v164 (.ref bv) (.ref b196) h210 E_b211 F_b211_type F_b211_variant F_b211_place p168 rfl rfl) (w_9 hw) (w_6 hw) (by decide) (by decide)) rfl rfl (lenOf pd_7 rfl) rfl (Nat.le_of_eq rfl) (memS (List.mem_of_getElem? (i := 0) rfl) mem0) (by decide) (by decide) ?_
      rintro _ h214 _ K215 le216 ⟨rfl, rfl, p217, p218⟩
      replace E_b196 := E_b196.keep K215
      replace E_b211 := E_b211.keep K215
      have F_b211_variant := p218
      change Go _ _ _ _ _ _ _ _ _ _ _ _ _ _ [b211, b196] h214 20 42 90 #[.val (.int p1), .val (.int p2), .val (.int p3), .val (.int p4), .val (.int p5), .val (.int p6), .val (.int (p1 &&& (3 : Int32))), .val (.int (((p1.toUInt32 >>> ((2 : Int32) &&& 31).toUInt32).toInt32) &&& (3 : Int32))), .val (.int (1 : Int32)), .val (.int (((p1.toUInt32 >>> ((5 : Int32) &&& 31).toUInt32).toInt32) &&& (3 : Int32))), .val (.ref bv), .val v164, .val (.ref b196), .unset, .unset] [(.ref b211)]
      refine Go.astore (pc' := 92) (Ls' := #[.val (.int p1), .val (.int p2), .val (.int p3), .val (.int p4), .val (.int p5), .val (.int p6), .val (.int (p1 &&& (3 : Int32))), .val (.int (((p1.toUInt32 >>> ((2 : Int32) &&& 31).toUInt32).toInt32) &&& (3 : Int32))), .val (.int (1 : Int32)), .val (.int (((p1.toUInt32 >>> ((5 : Int32) &&& 31).toUInt32).toInt32) &&& (3 : Int32))), .val (.ref bv), .val v164, .val (.ref b196), .val (.ref b211), .unset]) at_90 rfl rfl rfl ?_
      refine Go.iload (pc' := 94) at_92 rfl rfl ?_
      refine Go.ifN (pc' := 97) at_94 rfl ((if0 _ _).trans (feq (hk : ¬ ((p1 &&& (3 : Int32)) = (0 : Int32)))).1) ?_
      refine Go.iconst (pc' := 98) at_97 rfl ic_1 ?_
      refine Go.goto (pc' := 102) at_98 (by decide) (by decide) ?_
      refine Go.istore (pc' := 104) (Ls' := #[.val (.int p1), .val (.int p2), .val (.int p3), .val (.int p4), .val (.int p5), .val (.int p6), .val (.int (p1 &&& (3 : Int32))), .val (.int (((p1.toUInt32 >>> ((2 : Int32) &&& 31).toUInt32).toInt32) &&& (3 : Int32))), .val (.int (1 : Int32)), .val (.int (((p1.toUInt32 >>> ((5 : Int32) &&& 31).toUInt32).toInt32) &&& (3 : Int32))), .val (.ref bv), .val v164, .val (.ref b196), .val (.ref b211), .val (.int (1 : Int32))]) at_102 rfl rfl ?_
      refine Go.aload (pc' := 106) at_104 rfl rfl rfl ?_
      refine Go.callV (pc' := 109) (u := N_9) (z := N_9) (a := b211) at_106 rfl (w_24 hw) (w_25 hw) (nf (w_27 hw) rfl) (w_27 hw) (w_26 hw) (by decide) E_b211 (argsL := []) (rest := []) (Pays.of_met (W := 0) (len := 3) (m_tov1 hw hs b211 bv h214 F_b211_variant) (w_28 hw) (w_6 hw) (by decide) (by decide)) rfl rfl (lenOf pd_8 rfl) rfl (Nat.le_of_eq rfl) mem0 (by decide) (by decide) ?_
      rintro _ _ _ - - ⟨rfl, rfl, rfl⟩
      change Go _ _ _ _ _ _ _ _ _ _ _ _ _ _ [b211, b196] h214 20 42 109 #[.val (.int p1), .val (.int p2), .val (.int p3), .val (.int p4), .val (.int p5), .val (.int p6), .val (.int (p1 &&& (3 : Int32))), .val (.int (((p1.toUInt32 >>> ((2 : Int32) &&& 31).toUInt32).toInt32) &&& (3 : Int32))), .val (.int (1 : Int32)), .val (.int (((p1.toUInt32 >>> ((5 : Int32) &&& 31).toUInt32).toInt32) &&& (3 : Int32))), .val (.ref bv), .val v164, .val (.ref b196), .val (.ref b211), .val (.int (1 : Int32))] [(.int (1 : Int32))]
      refine Go.iload (pc' := 111) at_109 rfl rfl ?_
      refine Go.icmpN (pc' := 114) at_111 rfl (teq (rfl : (1 : Int32) = (1 : Int32))).2 ?_
      refine Go.iconst (pc' := 115) at_114 rfl ic_1 ?_
      refine Go.goto (pc' := 119) at_115 (by decide) (by decide) ?_
      exact Go.retS (ty := .boolean) at_119 rfl (by simp) rfl (by decide) (by decide) [] sn0 ⟨rfl, rfl⟩
set_option maxRecDepth 65536 in
set_option maxHeartbeats 40000000 in
theorem comes_1 {Post : Tables → Env → Array Value → State → Outcome → State → Prop} (hpost : ∀ tb e args s v u, (limb_1_1.after args s (.returned v) u = true ∧ limb_1_2.after args s (.returned v) u = true ∧ True) → Jvm.D.FramedW s (.returned v) u (Jvm.fieldLocs frame_1_writes args s ++ Jvm.arrayLocs frame_1_arrays args s ++ Jvm.staticLocs frame_1_statics s) 32 1152 → Post tb e args s (.returned v) u) :
    ArmFor flags0 classFile x code maxLocals ret World_1 tables_1 room_1 Calls_1 rest_1 Pre_1 Post := by
  intro l hfl _ _ p e ha hc hk s m args below hf hA hF happ hP
  obtain ⟨hcalls, hrest, hpre⟩ := hP
  obtain ⟨-, -, -, hnamed, -, -, -, hat⟩ := (Spec.applies_iff hf).mp happ
  obtain ⟨hg, hn⟩ := and_e (Cond.before_iff.mp (show (Jvm.Cond.and given_1 narrow_1).before args s = true from hpre))
  have hgn := hg
  obtain ⟨h_c, hg⟩ := and_e hg
  obtain ⟨w0, w1, w2, w3, w4, w5, rfl⟩ : ∃ w0 w1 w2 w3 w4 w5 : Value, args = #[w0, w1, w2, w3, w4, w5] := by
    have hs : args.size = 6 := by simpa [Cond.value, given_1] using h_c
    obtain ⟨L⟩ := args
    match L, hs with
    | [w0, w1, w2, w3, w4, w5], _ => exact ⟨w0, w1, w2, w3, w4, w5, rfl⟩
  obtain ⟨h_0, hg⟩ := and_e hg
  obtain ⟨i0, e_0⟩ := is_v h_0
  obtain rfl : w0 = (.int i0) := Option.some.inj e_0
  obtain ⟨h_1, hg⟩ := and_e hg
  obtain ⟨i1, e_1⟩ := is_v h_1
  obtain rfl : w1 = (.int i1) := Option.some.inj e_1
  obtain ⟨h_2, hg⟩ := and_e hg
  obtain ⟨i2, e_2⟩ := is_v h_2
  obtain rfl : w2 = (.int i2) := Option.some.inj e_2
  obtain ⟨h_3, hg⟩ := and_e hg
  obtain ⟨i3, e_3⟩ := is_v h_3
  obtain rfl : w3 = (.int i3) := Option.some.inj e_3
  obtain ⟨h_4, hg⟩ := and_e hg
  obtain ⟨i4, e_4⟩ := is_v h_4
  obtain rfl : w4 = (.int i4) := Option.some.inj e_4
  have h_5 := hg
  obtain ⟨i5, e_5⟩ := is_v h_5
  obtain rfl : w5 = (.int i5) := Option.some.inj e_5
  have hw := fun d (hd : d ∈ tables_1) => atoms_spec (ws := Jvm.Cond.code x code maxLocals ret :: tables_1) hat d (List.mem_cons_of_mem _ hd)
  have hfit : Fit s := fun {y c} hc i hi => by
    obtain ⟨ha, rfl⟩ := Array.getElem?_eq_some_iff.mp hc
    have q := List.all_eq_true.mp ((Array.all_eq_true_iff_forall_mem.mp hF) _ (Array.getElem_mem ha)) i (List.mem_range.mpr hi)
    simpa [Array.getElem?_eq_getElem hi] using q
  have hsets := (atoms_of jdkStatics_1 (show (jdkStatics_1.foldr Jvm.Cond.and restOwn_1).before _ s = true from hrest)).1
  obtain ⟨zc, e_zc⟩ := is_v (Cond.before_iff.mp (hsets _ (List.mem_of_getElem? (i := 1) rfl)))
  have n_zc := gotF (Cond.eq_ints e_zc (Term.int_eval (0))) (not_v (Cond.before_iff.mp (hsets _ (List.mem_of_getElem? (i := 2) rfl))))
  have s_zc := Sta.start e_zc (Or.inl (hsets _ (List.mem_of_getElem? (i := 0) rfl)))
  have hs : Stat s := ⟨⟨zc, s_zc, n_zc⟩, trivial⟩
  have hEL : EW s _ EL0 := (EW.cons (w_41 hw) lit_0.1 EW.nil)
  have hCH : CHv s EL0 s.vm s.heap := CHv.start hEL (fun p hp => hcalls.1 p hp) (hsets _ (List.mem_of_getElem? (i := 2) rfl)) (sA hw _ (by simp [Bundle.stringAtoms])) (sA hw _ (by simp [Bundle.stringAtoms, Bundle.sN]))
  obtain ⟨n, o, h1, h2, h3, v, L, SN, rfl, ⟨rfl, -⟩, hL, -, -, -, hN, hE⟩ := m_law hw hs i0 i1 i2 i3 i4 i5 s.heap tables_1 p e ha hc hk s m _ below hf ((Spec.applies_iff_loose hf).mp happ).1 ⟨rfl, State.Warmed39.refl s, rfl, hCH, (fun x hx => nomatch hx), ⟨rfl, Ext.refl _⟩, _, hEL⟩ (fun q => nomatch q)
  refine ⟨n, _, h1, h2, h3, hpost _ _ _ _ _ _ ⟨Cond.after_iff.mpr rfl, Cond.after_iff.mpr (eq_i res_at (Term.int_eval (1)) rfl), trivial⟩ ⟨hE.1, hE.2.1, hE.2.2.1, (hE.2.2.2.sift fun y hy => Or.inr (hL y hy)).mono (by decide) (by decide)⟩⟩
theorem main_1_1 : Claimed_1_1 := comes_1 fun _ _ _ _ _ _ h hF => ⟨h.1, hF⟩
theorem main_1_2 : Claimed_1_2 := comes_1 fun _ _ _ _ _ _ h hF => ⟨h.2.1, hF⟩
end Jvm.Pilot.@@N@@
namespace Jvm.Pilot.@@N@@
open Jvm Jvm.ClassFile Sem Op Lib Jvm.Free Jvm.Stand Jvm.Pilot.@@N@@.Jvm.D
/-! MADE BY PROGRAM (witnessworld.py) out of the Statement's table words and the real class files: 23 classes; the members and pool entries that the words name. The judged class is class 1, her method 2. -/
namespace start1
open Jvm.ClassFile
def u (s : String) : CpInfo := .utf8 (stringToUtf16 s)
/-- a pool by its gaps: so many unusable entries, then the entry; so many at the end -/
def gap : Nat → List CpInfo → List CpInfo
  | 0, r => r
  | n + 1, r => .unusable :: gap n r
def poolList (es : List (Nat × CpInfo)) (last : Nat) : List CpInfo := es.foldr (fun e r => gap e.1 (e.2 :: r)) (gap last [])
def pool (es : List (Nat × CpInfo)) (last : Nat) : Array CpInfo := ⟨poolList es last⟩
def fileOf (pool : Array CpInfo) (this : Nat) (attrs : Array Attribute := #[]) (ms : Array MethodInfo := #[]) (fl : Nat := 33) (sup : Nat := 0) (ifs : Array Nat := #[]) (fds : Array FieldInfo := #[]) : ClassFile where
  minorVersion := 0
  majorVersion := 65
  constantPool := pool
  accessFlags := fl
  thisClass := this
  superClass := sup
  interfaces := ifs
  fields := fds
  methods := ms
  attributes := attrs
def plain (name : String) (sup : Option ClassId) : Class where
  name := name
  kind := .ordinary
  loader := none
  accessFlags := 33
  super := sup
  interfaces := #[]
  cf := none
  fields := #[]
  methods := #[]
  instanceTypes := #[]
  staticTypes := #[]
  resolved := #[]
  callSites := []
  init := .initialized
  statics := none
  mirror := none

def pool0 : Array CpInfo := pool [(5, u "<init>"), (0, u "()V"), (1, .class_ 10), (1, u "java/lang/Object")] 113

def k0c0 : Code := { maxStack := 0, maxLocals := 1, code := object_method_1_code, exceptionTable := #[], attributes := #[] }
def k0m0 : Method := { name := "<init>", desc := "()V", sig := { parameters := [], returnType := none }, accessFlags := 1, code := some k0c0 }
/-- java/lang/Object -/
def k0 : Class := { plain "java/lang/Object" none with
  accessFlags := 33
  interfaces := #[]
  cf := some (fileOf pool0 8 #[] #[{ accessFlags := 1, nameIndex := 5, descriptorIndex := 6, attributes := #[] }] 33 0 #[] #[])
  fields := #[]
  methods := #[k0m0]
  instanceTypes := #[]
  staticTypes := #[]
  resolved := Array.replicate 124 none
  statics := none }

def pool1 : Array CpInfo := pool [(2, .class_ 4), (1, u "java/lang/Object"), (0, u "<init>"), (0, u "()V"), (0, .class_ 8), (0, u "java/lang/String"), (0, .methodref 7 10), (0, .nameAndType 5 11), (0, u "([C)V"), (0, .methodref 13 14), (0, .class_ 15), (0, .nameAndType 16 17), (0, u "com/example/sumgen/sumgen/model/ReferenceToOneVariantPinLaw"), (0, u "draw"), (0, u "(II)Ljava/lang/String;"), (0, .class_ 19), (0, u "com/example/sumgen/sumgen/model/Place"), (0, .methodref 18 21), (0, .nameAndType 5 22), (0, u "(Ljava/lang/String;II)V"), (0, .class_ 24), (0, u "com/example/sumgen/sumgen/model/Reference"), (0, .methodref 23 26), (0, .nameAndType 5 27), (0, u "(Ljava/lang/String;Ljava/lang/String;Lcom/example/sumgen/sumgen/model/Place;)V"), (0, .methodref 23 29), (0, .nameAndType 30 31), (0, u "toOneVariant"), (0, u "()Z"), (3, u "law"), (0, u "(IIIIII)Z")] 2

def k1m0 : Method := { name := "<init>", desc := "()V", sig := { parameters := [], returnType := none }, accessFlags := 1, code := none }
def k1c1 : Code := { maxStack := 7, maxLocals := 2, code := method_2_code, exceptionTable := #[], attributes := #[] }
def k1m1 : Method := { name := "draw", desc := "(II)Ljava/lang/String;", sig := { parameters := [.int, .int], returnType := some (.object "java/lang/String") }, accessFlags := 10, code := some k1c1 }
def k1c2 : Code := { maxStack := 5, maxLocals := 15, code := code, exceptionTable := #[], attributes := #[] }
def k1m2 : Method := { name := "law", desc := "(IIIIII)Z", sig := { parameters := [.int, .int, .int, .int, .int, .int], returnType := some .boolean }, accessFlags := 9, code := some k1c2 }
/-- com/example/sumgen/sumgen/model/ReferenceToOneVariantPinLaw -/
def k1 : Class := { plain "com/example/sumgen/sumgen/model/ReferenceToOneVariantPinLaw" (some 0) with
  accessFlags := 49
  interfaces := #[]
  cf := some (fileOf pool1 13 #[] #[{ accessFlags := 1, nameIndex := 5, descriptorIndex := 6, attributes := #[] }, { accessFlags := 10, nameIndex := 16, descriptorIndex := 17, attributes := #[] }, { accessFlags := 9, nameIndex := 35, descriptorIndex := 36, attributes := #[] }] 49 2 #[] #[])
  fields := #[]
  methods := #[k1m0, k1m1, k1m2]
  instanceTypes := #[]
  staticTypes := #[]
  resolved := Array.replicate 39 none
  statics := none }

def pool2 : Array CpInfo := pool [(1, .methodref 2 3), (0, .class_ 4), (0, .nameAndType 5 6), (0, u "java/lang/Object"), (0, u "<init>"), (0, u "()V"), (0, .class_ 8), (0, u "java/lang/Record")] 13

def k2c0 : Code := { maxStack := 1, maxLocals := 1, code := jdk_30_method_1_code, exceptionTable := #[], attributes := #[] }
def k2m0 : Method := { name := "<init>", desc := "()V", sig := { parameters := [], returnType := none }, accessFlags := 4, code := some k2c0 }
/-- java/lang/Record -/
def k2 : Class := { plain "java/lang/Record" (some 0) with
  accessFlags := 1057
  interfaces := #[]
  cf := some (fileOf pool2 7 #[] #[{ accessFlags := 4, nameIndex := 5, descriptorIndex := 6, attributes := #[] }] 1057 2 #[] #[])
  fields := #[]
  methods := #[k2m0]
  instanceTypes := #[]
  staticTypes := #[]
  resolved := Array.replicate 22 none
  statics := none }

def pool3 : Array CpInfo := pool [(1, .class_ 2), (0, u "com/example/sumgen/sumgen/model/FieldType"), (0, .class_ 4), (0, u "java/lang/Object")] 7

/-- com/example/sumgen/sumgen/model/FieldType -/
def k3 : Class := { plain "com/example/sumgen/sumgen/model/FieldType" (some 0) with
  accessFlags := 1537
  interfaces := #[]
  cf := some (fileOf pool3 1 #[] #[] 1537 3 #[] #[])
  fields := #[]
  methods := #[]
  instanceTypes := #[]
  staticTypes := #[]
  resolved := Array.replicate 12 none
  statics := none }

def pool4 : Array CpInfo := pool [(1, .methodref 2 3), (0, .class_ 4), (0, .nameAndType 5 6), (0, u "java/lang/Record"), (0, u "<init>"), (0, u "()V"), (0, .fieldref 8 9), (0, .class_ 10), (0, .nameAndType 11 12), (0, u "com/example/sumgen/sumgen/model/Reference"), (0, u "type"), (0, u "Ljava/lang/String;"), (0, .fieldref 8 14), (0, .nameAndType 15 12), (0, u "variant"), (0, .fieldref 8 17), (0, .nameAndType 18 19), (0, u "place"), (0, u "Lcom/example/sumgen/sumgen/model/Place;"), (12, .class_ 33), (0, u "com/example/sumgen/sumgen/model/FieldType"), (0, u "(Ljava/lang/String;Ljava/lang/String;Lcom/example/sumgen/sumgen/model/Place;)V"), (3, u "toOneVariant"), (0, u "()Z")] 27

def k4c0 : Code := { maxStack := 2, maxLocals := 4, code := prog_18_method_1_code, exceptionTable := #[], attributes := #[] }
def k4m0 : Method := { name := "<init>", desc := "(Ljava/lang/String;Ljava/lang/String;Lcom/example/sumgen/sumgen/model/Place;)V", sig := { parameters := [(.object "java/lang/String"), (.object "java/lang/String"), (.object "com/example/sumgen/sumgen/model/Place")], returnType := none }, accessFlags := 1, code := some k4c0 }
def k4c1 : Code := { maxStack := 1, maxLocals := 1, code := prog_18_method_2_code, exceptionTable := #[], attributes := #[] }
def k4m1 : Method := { name := "toOneVariant", desc := "()Z", sig := { parameters := [], returnType := some .boolean }, accessFlags := 1, code := some k4c1 }
/-- com/example/sumgen/sumgen/model/Reference -/
def k4 : Class := { plain "com/example/sumgen/sumgen/model/Reference" (some 2) with
  accessFlags := 49
  interfaces := #[3]
  cf := some (fileOf pool4 8 #[] #[{ accessFlags := 1, nameIndex := 5, descriptorIndex := 34, attributes := #[] }, { accessFlags := 1, nameIndex := 38, descriptorIndex := 39, attributes := #[] }] 49 2 #[32] #[{ accessFlags := 18, nameIndex := 11, descriptorIndex := 12, attributes := #[] }, { accessFlags := 18, nameIndex := 15, descriptorIndex := 12, attributes := #[] }, { accessFlags := 18, nameIndex := 18, descriptorIndex := 19, attributes := #[] }])
  fields := #[{ name := "type", type := (.object "java/lang/String"), accessFlags := 18, slot := 0, constantValue := 0 }, { name := "variant", type := (.object "java/lang/String"), accessFlags := 18, slot := 1, constantValue := 0 }, { name := "place", type := (.object "com/example/sumgen/sumgen/model/Place"), accessFlags := 18, slot := 2, constantValue := 0 }]
  methods := #[k4m0, k4m1]
  instanceTypes := #[(.object "java/lang/String"), (.object "java/lang/String"), (.object "com/example/sumgen/sumgen/model/Place")]
  staticTypes := #[]
  resolved := Array.replicate 67 none
  statics := none }

def pool5 : Array CpInfo := pool [(1, .class_ 2), (0, u "java/io/Serializable"), (0, .class_ 4), (0, u "java/lang/Object")] 2

/-- java/io/Serializable -/
def k5 : Class := { plain "java/io/Serializable" (some 0) with
  accessFlags := 1537
  interfaces := #[]
  cf := some (fileOf pool5 1 #[] #[] 1537 3 #[] #[])
  fields := #[]
  methods := #[]
  instanceTypes := #[]
  staticTypes := #[]
  resolved := Array.replicate 7 none
  statics := none }

def pool6 : Array CpInfo := pool [(1, .class_ 2), (0, u "java/lang/Comparable"), (0, .class_ 4), (0, u "java/lang/Object")] 7

/-- java/lang/Comparable -/
def k6 : Class := { plain "java/lang/Comparable" (some 0) with
  accessFlags := 1537
  interfaces := #[]
  cf := some (fileOf pool6 1 #[] #[] 1537 3 #[] #[])
  fields := #[]
  methods := #[]
  instanceTypes := #[]
  staticTypes := #[]
  resolved := Array.replicate 12 none
  statics := none }

def pool7 : Array CpInfo := pool [(2, .class_ 4), (1, u "java/lang/CharSequence"), (42, .class_ 48), (0, u "java/lang/CharSequence$1CodePointIterator"), (10, .class_ 60), (0, u "java/lang/CharSequence$1CharIterator"), (5, .class_ 67), (0, u "java/lang/Object")] 63

/-- java/lang/CharSequence -/
def k7 : Class := { plain "java/lang/CharSequence" (some 0) with
  accessFlags := 1537
  interfaces := #[]
  cf := some (fileOf pool7 2 #[.nestMembers #[47, 59]] #[] 1537 66 #[] #[])
  fields := #[]
  methods := #[]
  instanceTypes := #[]
  staticTypes := #[]
  resolved := Array.replicate 131 none
  statics := none }

def pool8 : Array CpInfo := pool [(1, .class_ 2), (0, u "java/lang/constant/Constable"), (0, .class_ 4), (0, u "java/lang/Object")] 6

/-- java/lang/constant/Constable -/
def k8 : Class := { plain "java/lang/constant/Constable" (some 0) with
  accessFlags := 1537
  interfaces := #[]
  cf := some (fileOf pool8 1 #[] #[] 1537 3 #[] #[])
  fields := #[]
  methods := #[]
  instanceTypes := #[]
  staticTypes := #[]
  resolved := Array.replicate 11 none
  statics := none }

def pool9 : Array CpInfo := pool [(1, .class_ 2), (0, u "java/lang/constant/ConstantDesc"), (0, .class_ 4), (0, u "java/lang/Object")] 32

/-- java/lang/constant/ConstantDesc -/
def k9 : Class := { plain "java/lang/constant/ConstantDesc" (some 0) with
  accessFlags := 1537
  interfaces := #[]
  cf := some (fileOf pool9 1 #[] #[] 1537 3 #[] #[])
  fields := #[]
  methods := #[]
  instanceTypes := #[]
  staticTypes := #[]
  resolved := Array.replicate 37 none
  statics := none }

def pool10 : Array CpInfo := pool [(1, .methodref 2 3), (0, .class_ 4), (0, .nameAndType 5 6), (0, u "java/lang/Object"), (0, u "<init>"), (0, u "()V"), (0, .string 8), (0, u ""), (0, .fieldref 10 11), (0, .class_ 12), (0, .nameAndType 13 14), (0, u "java/lang/String"), (0, u "value"), (0, u "[B"), (0, .fieldref 10 16), (0, .nameAndType 17 18), (0, u "coder"), (0, u "B"), (2, u "hash"), (0, u "I"), (2, u "hashIsZero"), (0, u "Z"), (0, .methodref 10 28), (0, .nameAndType 5 29), (0, u "([CIILjava/lang/Void;)V"), (8, .fieldref 10 39), (0, .nameAndType 40 26), (0, u "COMPACT_STRINGS"), (1, .class_ 44), (1, u "java/lang/StringUTF16"), (0, u "compress"), (1, .methodref 42 48), (0, .nameAndType 49 50), (0, u "coderFromArrayLen"), (0, u "([BI)B"), (126, .methodref 42 178), (0, .nameAndType 45 179), (0, u "([CII)[B"), (395, .class_ 576), (0, u "java/lang/CharSequence"), (22, u "CASE_INSENSITIVE_ORDER"), (0, u "Ljava/util/Comparator;"), (409, u "([C)V"), (90, u "serialPersistentFields"), (0, u "[Ljava/io/ObjectStreamField;"), (0, .class_ 1104), (0, u "java/lang/String$CaseInsensitiveComparator"), (1, .class_ 1107), (0, u "java/io/Serializable"), (0, .class_ 1109), (0, u "java/lang/Comparable"), (0, .class_ 1111), (0, u "java/lang/constant/Constable"), (0, .class_ 1113), (0, u "java/lang/constant/ConstantDesc"), (2, u "serialVersionUID"), (0, u "J"), (3, u "REPL"), (0, u "C"), (2, u "LATIN1"), (1, u "UTF16")] 323

def k10m0 : Method := { name := "<init>", desc := "()V", sig := { parameters := [], returnType := none }, accessFlags := 1, code := none }
def k10c1 : Code := { maxStack := 5, maxLocals := 2, code := jdk_42_method_3_code, exceptionTable := #[], attributes := #[] }
def k10m1 : Method := { name := "<init>", desc := "([C)V", sig := { parameters := [(.array .char)], returnType := none }, accessFlags := 1, code := some k10c1 }
def k10c2 : Code := { maxStack := 4, maxLocals := 6, code := jdk_42_method_149_code, exceptionTable := #[], attributes := #[] }
def k10m2 : Method := { name := "<init>", desc := "([CIILjava/lang/Void;)V", sig := { parameters := [(.array .char), .int, .int, (.object "java/lang/Void")], returnType := none }, accessFlags := 2, code := some k10c2 }
/-- java/lang/String -/
def k10 : Class := { plain "java/lang/String" (some 0) with
  accessFlags := 49
  interfaces := #[5, 6, 7, 8, 9]
  cf := some (fileOf pool10 10 #[.nestMembers #[1103]] #[{ accessFlags := 1, nameIndex := 5, descriptorIndex := 6, attributes := #[] }, { accessFlags := 1, nameIndex := 5, descriptorIndex := 1010, attributes := #[] }, { accessFlags := 2, nameIndex := 5, descriptorIndex := 29, attributes := #[] }] 49 2 #[1106, 1108, 575, 1110, 1112] #[{ accessFlags := 18, nameIndex := 13, descriptorIndex := 14, attributes := #[] }, { accessFlags := 18, nameIndex := 17, descriptorIndex := 18, attributes := #[] }, { accessFlags := 2, nameIndex := 21, descriptorIndex := 22, attributes := #[] }, { accessFlags := 2, nameIndex := 25, descriptorIndex := 26, attributes := #[] }, { accessFlags := 26, nameIndex := 1116, descriptorIndex := 1117, attributes := #[] }, { accessFlags := 24, nameIndex := 40, descriptorIndex := 26, attributes := #[] }, { accessFlags := 26, nameIndex := 1101, descriptorIndex := 1102, attributes := #[] }, { accessFlags := 26, nameIndex := 1121, descriptorIndex := 1122, attributes := #[] }, { accessFlags := 25, nameIndex := 599, descriptorIndex := 600, attributes := #[] }, { accessFlags := 24, nameIndex := 1125, descriptorIndex := 18, attributes := #[] }, { accessFlags := 24, nameIndex := 1127, descriptorIndex := 18, attributes := #[] }])
  fields := #[{ name := "value", type := (.array .byte), accessFlags := 18, slot := 0, constantValue := 0 }, { name := "coder", type := .byte, accessFlags := 18, slot := 1, constantValue := 0 }, { name := "hash", type := .int, accessFlags := 2, slot := 2, constantValue := 0 }, { name := "hashIsZero", type := .boolean, accessFlags := 2, slot := 3, constantValue := 0 }, { name := "serialVersionUID", type := .long, accessFlags := 26, slot := 0, constantValue := 0 }, { name := "COMPACT_STRINGS", type := .boolean, accessFlags := 24, slot := 1, constantValue := 0 }, { name := "serialPersistentFields", type := (.array (.object "java/io/ObjectStreamField")), accessFlags := 26, slot := 2, constantValue := 0 }, { name := "REPL", type := .char, accessFlags := 26, slot := 3, constantValue := 0 }, { name := "CASE_INSENSITIVE_ORDER", type := (.object "java/util/Comparator"), accessFlags := 25, slot := 4, constantValue := 0 }, { name := "LATIN1", type := .byte, accessFlags := 24, slot := 5, constantValue := 0 }, { name := "UTF16", type := .byte, accessFlags := 24, slot := 6, constantValue := 0 }]
  methods := #[k10m0, k10m1, k10m2]
  instanceTypes := #[(.array .byte), .byte, .int, .boolean]
  staticTypes := #[.long, .boolean, (.array (.object "java/io/ObjectStreamField")), .char, (.object "java/util/Comparator"), .byte, .byte]
  resolved := Array.replicate 1451 none
  statics := some 0 }

def pool11 : Array CpInfo := pool [(6, .class_ 8), (1, u "java/lang/Object"), (0, u "<init>"), (0, u "()V"), (1, .class_ 14), (1, u "java/lang/StringUTF16"), (31, u "$assertionsDisabled"), (0, u "Z"), (13, u "HI_BYTE_SHIFT"), (0, u "I"), (2, u "LO_BYTE_SHIFT"), (49, .methodref 12 116), (0, .nameAndType 117 118), (0, u "compress"), (0, u "([CI[BII)I"), (3, u "([CII)[B"), (138, u "coderFromArrayLen"), (0, u "([BI)B"), (106, .class_ 371), (1, u "java/lang/StringUTF16$LinesSpliterator"), (58, u "MAX_LENGTH"), (196, .class_ 628), (0, u "java/lang/StringUTF16$CodePointsSpliterator"), (0, .class_ 630), (0, u "java/lang/StringUTF16$CharsSpliterator")] 4

def k11m0 : Method := { name := "<init>", desc := "()V", sig := { parameters := [], returnType := none }, accessFlags := 0, code := none }
def k11c1 : Code := { maxStack := 2, maxLocals := 2, code := jdk_52_method_15_code, exceptionTable := #[], attributes := #[] }
def k11m1 : Method := { name := "coderFromArrayLen", desc := "([BI)B", sig := { parameters := [(.array .byte), .int], returnType := some .byte }, accessFlags := 8, code := some k11c1 }
def k11c2 : Code := { maxStack := 5, maxLocals := 6, code := jdk_52_method_16_code, exceptionTable := #[], attributes := #[] }
def k11m2 : Method := { name := "compress", desc := "([CII)[B", sig := { parameters := [(.array .char), .int, .int], returnType := some (.array .byte) }, accessFlags := 9, code := some k11c2 }
def k11c3 : Code := { maxStack := 3, maxLocals := 7, code := jdk_52_method_21_code, exceptionTable := #[], attributes := #[] }
def k11m3 : Method := { name := "compress", desc := "([CI[BII)I", sig := { parameters := [(.array .char), .int, (.array .byte), .int, .int], returnType := some .int }, accessFlags := 9, code := some k11c3 }
/-- java/lang/StringUTF16 -/
def k11 : Class := { plain "java/lang/StringUTF16" (some 0) with
  accessFlags := 48
  interfaces := #[]
  cf := some (fileOf pool11 12 #[.nestMembers #[627, 629, 369]] #[{ accessFlags := 0, nameIndex := 9, descriptorIndex := 10, attributes := #[] }, { accessFlags := 8, nameIndex := 261, descriptorIndex := 262, attributes := #[] }, { accessFlags := 9, nameIndex := 117, descriptorIndex := 122, attributes := #[] }, { accessFlags := 9, nameIndex := 117, descriptorIndex := 118, attributes := #[] }] 48 6 #[] #[{ accessFlags := 26, nameIndex := 61, descriptorIndex := 62, attributes := #[] }, { accessFlags := 26, nameIndex := 65, descriptorIndex := 62, attributes := #[] }, { accessFlags := 24, nameIndex := 430, descriptorIndex := 62, attributes := #[] }, { accessFlags := 4120, nameIndex := 46, descriptorIndex := 47, attributes := #[] }])
  fields := #[{ name := "HI_BYTE_SHIFT", type := .int, accessFlags := 26, slot := 0, constantValue := 0 }, { name := "LO_BYTE_SHIFT", type := .int, accessFlags := 26, slot := 1, constantValue := 0 }, { name := "MAX_LENGTH", type := .int, accessFlags := 24, slot := 2, constantValue := 0 }, { name := "$assertionsDisabled", type := .boolean, accessFlags := 4120, slot := 3, constantValue := 0 }]
  methods := #[k11m0, k11m1, k11m2, k11m3]
  instanceTypes := #[]
  staticTypes := #[.int, .int, .int, .boolean]
  resolved := Array.replicate 635 none
  statics := none }

def pool12 : Array CpInfo := pool [(1, .methodref 2 3), (0, .class_ 4), (0, .nameAndType 5 6), (0, u "java/lang/Record"), (0, u "<init>"), (0, u "()V"), (0, .fieldref 8 9), (0, .class_ 10), (0, .nameAndType 11 12), (0, u "com/example/sumgen/sumgen/model/Place"), (0, u "file"), (0, u "Ljava/lang/String;"), (0, .fieldref 8 14), (0, .nameAndType 15 16), (0, u "line"), (0, u "I"), (0, .fieldref 8 18), (0, .nameAndType 19 16), (0, u "column"), (19, u "(Ljava/lang/String;II)V")] 36

def k12c0 : Code := { maxStack := 2, maxLocals := 4, code := prog_17_method_1_code, exceptionTable := #[], attributes := #[] }
def k12m0 : Method := { name := "<init>", desc := "(Ljava/lang/String;II)V", sig := { parameters := [(.object "java/lang/String"), .int, .int], returnType := none }, accessFlags := 1, code := some k12c0 }
/-- com/example/sumgen/sumgen/model/Place -/
def k12 : Class := { plain "com/example/sumgen/sumgen/model/Place" (some 2) with
  accessFlags := 49
  interfaces := #[]
  cf := some (fileOf pool12 8 #[] #[{ accessFlags := 1, nameIndex := 5, descriptorIndex := 39, attributes := #[] }] 49 2 #[] #[{ accessFlags := 18, nameIndex := 11, descriptorIndex := 12, attributes := #[] }, { accessFlags := 18, nameIndex := 15, descriptorIndex := 16, attributes := #[] }, { accessFlags := 18, nameIndex := 19, descriptorIndex := 16, attributes := #[] }])
  fields := #[{ name := "file", type := (.object "java/lang/String"), accessFlags := 18, slot := 0, constantValue := 0 }, { name := "line", type := .int, accessFlags := 18, slot := 1, constantValue := 0 }, { name := "column", type := .int, accessFlags := 18, slot := 2, constantValue := 0 }]
  methods := #[k12m0]
  instanceTypes := #[(.object "java/lang/String"), .int, .int]
  staticTypes := #[]
  resolved := Array.replicate 76 none
  statics := none }

def pool13 : Array CpInfo := pool [(4, .class_ 6), (1, u "java/lang/Object"), (0, u "<init>"), (0, u "()V"), (5, .class_ 16), (1, u "java/lang/StringLatin1"), (104, u "$assertionsDisabled"), (0, u "Z"), (98, .class_ 223), (1, u "java/lang/StringLatin1$LinesSpliterator"), (166, .class_ 391), (0, u "java/lang/StringLatin1$CharsSpliterator")] 3

def k13m0 : Method := { name := "<init>", desc := "()V", sig := { parameters := [], returnType := none }, accessFlags := 0, code := none }
/-- java/lang/StringLatin1 -/
def k13 : Class := { plain "java/lang/StringLatin1" (some 0) with
  accessFlags := 48
  interfaces := #[]
  cf := some (fileOf pool13 14 #[.nestMembers #[390, 221]] #[{ accessFlags := 0, nameIndex := 7, descriptorIndex := 8, attributes := #[] }] 48 4 #[] #[{ accessFlags := 4120, nameIndex := 121, descriptorIndex := 122, attributes := #[] }])
  fields := #[{ name := "$assertionsDisabled", type := .boolean, accessFlags := 4120, slot := 0, constantValue := 0 }]
  methods := #[k13m0]
  instanceTypes := #[]
  staticTypes := #[.boolean]
  resolved := Array.replicate 395 none
  statics := none }

def pool14 : Array CpInfo := pool [(2, .class_ 4), (1, u "java/lang/Object"), (0, u "<init>"), (0, u "()V"), (17, .class_ 26), (1, u "jdk/internal/util/Preconditions"), (28, .class_ 56), (0, u "jdk/internal/util/Preconditions$4"), (57, .class_ 115), (0, u "jdk/internal/util/Preconditions$1"), (7, u "SIOOBE_FORMATTER"), (0, u "Ljava/util/function/BiFunction;"), (0, .class_ 126), (0, u "jdk/internal/util/Preconditions$2"), (3, u "AIOOBE_FORMATTER"), (0, .class_ 132), (0, u "jdk/internal/util/Preconditions$3"), (3, u "IOOBE_FORMATTER")] 57

def k14m0 : Method := { name := "<init>", desc := "()V", sig := { parameters := [], returnType := none }, accessFlags := 1, code := none }
/-- jdk/internal/util/Preconditions -/
def k14 : Class := { plain "jdk/internal/util/Preconditions" (some 0) with
  accessFlags := 33
  interfaces := #[]
  cf := some (fileOf pool14 24 #[.nestMembers #[55, 131, 125, 114]] #[{ accessFlags := 1, nameIndex := 5, descriptorIndex := 6, attributes := #[] }] 33 2 #[] #[{ accessFlags := 25, nameIndex := 123, descriptorIndex := 124, attributes := #[] }, { accessFlags := 25, nameIndex := 130, descriptorIndex := 124, attributes := #[] }, { accessFlags := 25, nameIndex := 136, descriptorIndex := 124, attributes := #[] }])
  fields := #[{ name := "SIOOBE_FORMATTER", type := (.object "java/util/function/BiFunction"), accessFlags := 25, slot := 0, constantValue := 0 }, { name := "AIOOBE_FORMATTER", type := (.object "java/util/function/BiFunction"), accessFlags := 25, slot := 1, constantValue := 0 }, { name := "IOOBE_FORMATTER", type := (.object "java/util/function/BiFunction"), accessFlags := 25, slot := 2, constantValue := 0 }]
  methods := #[k14m0]
  instanceTypes := #[]
  staticTypes := #[(.object "java/util/function/BiFunction"), (.object "java/util/function/BiFunction"), (.object "java/util/function/BiFunction")]
  resolved := Array.replicate 194 none
  statics := some 1 }

def pool15 : Array CpInfo := pool [(9, u "<init>"), (6, .class_ 18), (1, u "java/lang/Object"), (0, u "()V"), (1, .class_ 23), (1, u "jdk/internal/util/ArraysSupport"), (0, u "LOG2_ARRAY_LONG_INDEX_SCALE"), (0, u "I"), (2, u "U"), (0, u "Ljdk/internal/misc/Unsafe;"), (8, u "BIG_ENDIAN"), (0, u "Z"), (8, u "LOG2_BYTE_BIT_SIZE"), (4, u "LOG2_ARRAY_INT_INDEX_SCALE"), (54, u "JLA"), (0, u "Ljdk/internal/access/JavaLangAccess;"), (11, u "LOG2_ARRAY_BOOLEAN_INDEX_SCALE"), (9, u "LOG2_ARRAY_BYTE_INDEX_SCALE"), (5, u "LOG2_ARRAY_CHAR_INDEX_SCALE"), (5, u "LOG2_ARRAY_SHORT_INDEX_SCALE"), (18, u "LOG2_ARRAY_FLOAT_INDEX_SCALE"), (24, u "LOG2_ARRAY_DOUBLE_INDEX_SCALE"), (89, u "T_BOOLEAN"), (2, u "T_CHAR"), (1, u "T_FLOAT"), (1, u "T_DOUBLE"), (1, u "T_BYTE"), (1, u "T_SHORT"), (1, u "T_INT"), (1, u "T_LONG"), (1, u "SOFT_MAX_ARRAY_LENGTH")] 83

def k15m0 : Method := { name := "<init>", desc := "()V", sig := { parameters := [], returnType := none }, accessFlags := 2, code := none }
/-- jdk/internal/util/ArraysSupport -/
def k15 : Class := { plain "jdk/internal/util/ArraysSupport" (some 0) with
  accessFlags := 33
  interfaces := #[]
  cf := some (fileOf pool15 21 #[] #[{ accessFlags := 2, nameIndex := 9, descriptorIndex := 19, attributes := #[] }] 33 16 #[] #[{ accessFlags := 24, nameIndex := 28, descriptorIndex := 29, attributes := #[] }, { accessFlags := 26, nameIndex := 38, descriptorIndex := 39, attributes := #[] }, { accessFlags := 25, nameIndex := 121, descriptorIndex := 25, attributes := #[] }, { accessFlags := 25, nameIndex := 131, descriptorIndex := 25, attributes := #[] }, { accessFlags := 25, nameIndex := 137, descriptorIndex := 25, attributes := #[] }, { accessFlags := 25, nameIndex := 143, descriptorIndex := 25, attributes := #[] }, { accessFlags := 25, nameIndex := 53, descriptorIndex := 25, attributes := #[] }, { accessFlags := 25, nameIndex := 24, descriptorIndex := 25, attributes := #[] }, { accessFlags := 25, nameIndex := 162, descriptorIndex := 25, attributes := #[] }, { accessFlags := 25, nameIndex := 187, descriptorIndex := 25, attributes := #[] }, { accessFlags := 26, nameIndex := 48, descriptorIndex := 25, attributes := #[] }, { accessFlags := 25, nameIndex := 277, descriptorIndex := 25, attributes := #[] }, { accessFlags := 25, nameIndex := 280, descriptorIndex := 25, attributes := #[] }, { accessFlags := 25, nameIndex := 282, descriptorIndex := 25, attributes := #[] }, { accessFlags := 25, nameIndex := 284, descriptorIndex := 25, attributes := #[] }, { accessFlags := 25, nameIndex := 286, descriptorIndex := 25, attributes := #[] }, { accessFlags := 25, nameIndex := 288, descriptorIndex := 25, attributes := #[] }, { accessFlags := 25, nameIndex := 290, descriptorIndex := 25, attributes := #[] }, { accessFlags := 25, nameIndex := 292, descriptorIndex := 25, attributes := #[] }, { accessFlags := 26, nameIndex := 108, descriptorIndex := 109, attributes := #[] }, { accessFlags := 25, nameIndex := 294, descriptorIndex := 25, attributes := #[] }])
  fields := #[{ name := "U", type := (.object "jdk/internal/misc/Unsafe"), accessFlags := 24, slot := 0, constantValue := 0 }, { name := "BIG_ENDIAN", type := .boolean, accessFlags := 26, slot := 1, constantValue := 0 }, { name := "LOG2_ARRAY_BOOLEAN_INDEX_SCALE", type := .int, accessFlags := 25, slot := 2, constantValue := 0 }, { name := "LOG2_ARRAY_BYTE_INDEX_SCALE", type := .int, accessFlags := 25, slot := 3, constantValue := 0 }, { name := "LOG2_ARRAY_CHAR_INDEX_SCALE", type := .int, accessFlags := 25, slot := 4, constantValue := 0 }, { name := "LOG2_ARRAY_SHORT_INDEX_SCALE", type := .int, accessFlags := 25, slot := 5, constantValue := 0 }, { name := "LOG2_ARRAY_INT_INDEX_SCALE", type := .int, accessFlags := 25, slot := 6, constantValue := 0 }, { name := "LOG2_ARRAY_LONG_INDEX_SCALE", type := .int, accessFlags := 25, slot := 7, constantValue := 0 }, { name := "LOG2_ARRAY_FLOAT_INDEX_SCALE", type := .int, accessFlags := 25, slot := 8, constantValue := 0 }, { name := "LOG2_ARRAY_DOUBLE_INDEX_SCALE", type := .int, accessFlags := 25, slot := 9, constantValue := 0 }, { name := "LOG2_BYTE_BIT_SIZE", type := .int, accessFlags := 26, slot := 10, constantValue := 0 }, { name := "T_BOOLEAN", type := .int, accessFlags := 25, slot := 11, constantValue := 0 }, { name := "T_CHAR", type := .int, accessFlags := 25, slot := 12, constantValue := 0 }, { name := "T_FLOAT", type := .int, accessFlags := 25, slot := 13, constantValue := 0 }, { name := "T_DOUBLE", type := .int, accessFlags := 25, slot := 14, constantValue := 0 }, { name := "T_BYTE", type := .int, accessFlags := 25, slot := 15, constantValue := 0 }, { name := "T_SHORT", type := .int, accessFlags := 25, slot := 16, constantValue := 0 }, { name := "T_INT", type := .int, accessFlags := 25, slot := 17, constantValue := 0 }, { name := "T_LONG", type := .int, accessFlags := 25, slot := 18, constantValue := 0 }, { name := "JLA", type := (.object "jdk/internal/access/JavaLangAccess"), accessFlags := 26, slot := 19, constantValue := 0 }, { name := "SOFT_MAX_ARRAY_LENGTH", type := .int, accessFlags := 25, slot := 20, constantValue := 0 }]
  methods := #[k15m0]
  instanceTypes := #[]
  staticTypes := #[(.object "jdk/internal/misc/Unsafe"), .boolean, .int, .int, .int, .int, .int, .int, .int, .int, .int, .int, .int, .int, .int, .int, .int, .int, .int, (.object "jdk/internal/access/JavaLangAccess"), .int]
  resolved := Array.replicate 378 none
  statics := none }

def pool16 : Array CpInfo := pool [(1, u "java/lang/Cloneable"), (0, .class_ 1), (0, u "java/lang/Object"), (0, .class_ 3)] 3

/-- java/lang/Cloneable -/
def k16 : Class := { plain "java/lang/Cloneable" (some 0) with
  accessFlags := 1537
  interfaces := #[]
  cf := some (fileOf pool16 2 #[] #[] 1537 4 #[] #[])
  fields := #[]
  methods := #[]
  instanceTypes := #[]
  staticTypes := #[]
  resolved := Array.replicate 8 none
  statics := none }

/-- the primitive byte -/
def k17 : Class := { plain "byte" none with kind := .primitive 'B', accessFlags := 0x411 }
/-- [B -/
def k18 : Class := { plain "[B" (some 0) with kind := .array 17 .byte, interfaces := #[16, 5], accessFlags := 1041 }

/-- the primitive char -/
def k19 : Class := { plain "char" none with kind := .primitive 'C', accessFlags := 0x411 }
/-- [C -/
def k20 : Class := { plain "[C" (some 0) with kind := .array 19 .char, interfaces := #[16, 5], accessFlags := 1041 }

/-- the primitive int -/
def k21 : Class := { plain "int" none with kind := .primitive 'I', accessFlags := 0x411 }
/-- [I -/
def k22 : Class := { plain "[I" (some 0) with kind := .array 21 .int, interfaces := #[16, 5], accessFlags := 1041 }

def heap : Heap := #[{ cls := 10, slots := #[.long 0, .int 1, .null, .int 0, .null, .int 0, .int 0], vm := .statics 10 },
  { cls := 14, slots := #[.null, .null, .null], vm := .statics 14 }]
def classes : Array Class := #[k0, k1, k2, k3, k4, k5, k6, k7, k8, k9, k10, k11, k12, k13, k14, k15, k16, k17, k18, k19, k20, k21, k22]
def interned : List (Array UInt16 × Addr) := []
def slotsUsed : Nat := 10
def theMethod : MethodId := ⟨1, 2⟩
def args0 : Array Value := #[.int 21, .int 5, .int 7, .int 9, .int 1, .int 2]
def aboutOver (below : List Frame) : State where
  vm := { classes := classes, interned := interned.toArray }
  heap := heap
  slotsUsed := slotsUsed
  threads := #[{ frames := .invoking theMethod args0 :: below }]
def below0 : List Frame := [.native { method := ⟨0, 0⟩, args := #[] }]
def about1 : State := aboutOver below0
def p0 : Program := .bare "" "" ""
def e0 : Env := launch0.env 0 0 0
theorem w_frames : about1.frames = Frame.invoking theMethod args0 :: below0 := rfl
set_option maxRecDepth 65536 in
theorem w_args : argsFit about1.vm theMethod args0 = true := by decide +kernel
set_option maxRecDepth 65536 in
theorem w_heap : heapFits about1 = true := by decide +kernel
set_option maxRecDepth 65536 in
theorem w_runnable : about1.curStatus? = some .runnable := by decide +kernel
set_option maxRecDepth 65536 in
theorem w_alone : about1.alone = true := by decide +kernel
set_option maxRecDepth 65536 in
theorem w_named : about1.methodNamed? x = some theMethod := by decide +kernel
set_option maxRecDepth 65536 in
theorem w_hears : about1.hears theMethod below0 = true := by decide +kernel
set_option maxRecDepth 65536 in
theorem w_ripe : about1.ripe theMethod args0 below0 = true := by decide +kernel
theorem w_running : about1.status = .running := rfl
set_option maxRecDepth 65536 in
theorem w_room : about1.hasRoom e0.platform room_1 = true :=
  launch0.hasRoom_least _ room_1 (by decide +kernel) (by decide +kernel) (by decide +kernel) (by decide +kernel) (by decide +kernel) (by decide +kernel)
theorem allAtoms_all (ts : List Jvm.Cond) (a : Array Jvm.Value) (st : Jvm.State) : (allAtoms ts).before a st = ts.all (fun c => c.before a st) := by
  induction ts with
  | nil => rfl
  | cons c t ih =>
    show (Jvm.Cond.and c (allAtoms t)).before a st = _
    rw [Jvm.Cond.before_and, ih, List.all_cons]
def words1 : List Jvm.Cond := Jvm.Cond.code x code maxLocals ret :: tables_1
/-- a 'code' word, met by the world's own term for the bytes: nothing is compared byte by byte -/
theorem code_word {y : MethodName} {bytes : ByteArray} {mx : Nat} {rt : Option FieldType} {a : Array Value} {s : State} {m : MethodId} {meth : Method} {c : Code} (h1 : s.methodNamed? y = some m) (h2 : s.vm.method? m = some meth) (h3 : meth.code = some c) (h4 : c.code = bytes)
    (h5 : (c.maxLocals == mx && c.exceptionTable.isEmpty && decide (c.maxStack ≤ mostOperands) && decide (meth.sig.returnType = rt) && !meth.locks && decide (parseMethodDescriptor y.desc = some meth.sig)) = true) : (Jvm.Cond.code y bytes mx rt).before a s = true := by
  simp only [Bool.and_eq_true, beq_iff_eq, Bool.not_eq_true', decide_eq_true_eq] at h5
  obtain ⟨⟨⟨⟨⟨g1, g2⟩, g3⟩, g4⟩, g5⟩, g6⟩ := h5
  simp [Cond.before, Cond.holds, Cond.value, h1, h2, h3, h4, g1, g2, g3, g4, g5, g6]
def isCode : Jvm.Cond → Bool
  | .code _ _ _ _ => true
  | _ => false
theorem all_split {L : List Jvm.Cond} {P : Jvm.Cond → Bool} (h1 : L.all (fun c => isCode c || P c) = true) (h2 : ∀ c ∈ L.filter isCode, P c = true) : L.all P = true := by
  refine List.all_eq_true.mpr fun c hc => ?_
  have h := List.all_eq_true.mp h1 c hc
  rcases Bool.eq_false_or_eq_true (isCode c) with hi | hi
  · exact h2 c (List.mem_filter.mpr ⟨hc, hi⟩)
  · simpa [hi] using h
set_option maxRecDepth 65536 in
theorem w_c0 : (Jvm.Cond.code x code maxLocals ret).before args0 about1 = true := code_word (m := ⟨1, 2⟩) (meth := k1m2) (c := k1c2) (by decide +kernel) rfl rfl rfl (by decide +kernel)
set_option maxRecDepth 65536 in
theorem w_c1 : (Jvm.Cond.code ({ cls := "com/example/sumgen/sumgen/model/ReferenceToOneVariantPinLaw", name := "draw", desc := "(II)Ljava/lang/String;" } : Jvm.MethodName) method_2_code (2 : Nat) (Option.some (Jvm.ClassFile.FieldType.object "java/lang/String"))).before args0 about1 = true := code_word (m := ⟨1, 1⟩) (meth := k1m1) (c := k1c1) (by decide +kernel) rfl rfl rfl (by decide +kernel)
set_option maxRecDepth 65536 in
theorem w_c2 : (Jvm.Cond.code ({ cls := "com/example/sumgen/sumgen/model/Reference", name := "<init>", desc := "(Ljava/lang/String;Ljava/lang/String;Lcom/example/sumgen/sumgen/model/Place;)V" } : Jvm.MethodName) prog_18_method_1_code (4 : Nat) (Option.none : Option Jvm.ClassFile.FieldType)).before args0 about1 = true := code_word (m := ⟨4, 0⟩) (meth := k4m0) (c := k4c0) (by decide +kernel) rfl rfl rfl (by decide +kernel)
set_option maxRecDepth 65536 in
theorem w_c3 : (Jvm.Cond.code ({ cls := "java/lang/Record", name := "<init>", desc := "()V" } : Jvm.MethodName) jdk_30_method_1_code (1 : Nat) (Option.none : Option Jvm.ClassFile.FieldType)).before args0 about1 = true := code_word (m := ⟨2, 0⟩) (meth := k2m0) (c := k2c0) (by decide +kernel) rfl rfl rfl (by decide +kernel)
set_option maxRecDepth 65536 in
theorem w_c4 : (Jvm.Cond.code ({ cls := "java/lang/Object", name := "<init>", desc := "()V" } : Jvm.MethodName) object_method_1_code (1 : Nat) (Option.none : Option Jvm.ClassFile.FieldType)).before args0 about1 = true := code_word (m := ⟨0, 0⟩) (meth := k0m0) (c := k0c0) (by decide +kernel) rfl rfl rfl (by decide +kernel)
set_option maxRecDepth 65536 in
theorem w_c5 : (Jvm.Cond.code ({ cls := "com/example/sumgen/sumgen/model/Reference", name := "toOneVariant", desc := "()Z" } : Jvm.MethodName) prog_18_method_2_code (1 : Nat) (Option.some Jvm.ClassFile.FieldType.boolean)).before args0 about1 = true := code_word (m := ⟨4, 1⟩) (meth := k4m1) (c := k4c1) (by decide +kernel) rfl rfl rfl (by decide +kernel)
set_option maxRecDepth 65536 in
theorem w_c6 : (Jvm.Cond.code ({ cls := "java/lang/String", name := "<init>", desc := "([C)V" } : Jvm.MethodName) jdk_42_method_3_code (2 : Nat) (Option.none : Option Jvm.ClassFile.FieldType)).before args0 about1 = true := code_word (m := ⟨10, 1⟩) (meth := k10m1) (c := k10c1) (by decide +kernel) rfl rfl rfl (by decide +kernel)
set_option maxRecDepth 65536 in
theorem w_c7 : (Jvm.Cond.code ({ cls := "java/lang/String", name := "<init>", desc := "([CIILjava/lang/Void;)V" } : Jvm.MethodName) jdk_42_method_149_code (6 : Nat) (Option.none : Option Jvm.ClassFile.FieldType)).before args0 about1 = true := code_word (m := ⟨10, 2⟩) (meth := k10m2) (c := k10c2) (by decide +kernel) rfl rfl rfl (by decide +kernel)
set_option maxRecDepth 65536 in
theorem w_c8 : (Jvm.Cond.code ({ cls := "java/lang/StringUTF16", name := "compress", desc := "([CII)[B" } : Jvm.MethodName) jdk_52_method_16_code (6 : Nat) (Option.some (Jvm.ClassFile.FieldType.array Jvm.ClassFile.FieldType.byte))).before args0 about1 = true := code_word (m := ⟨11, 2⟩) (meth := k11m2) (c := k11c2) (by decide +kernel) rfl rfl rfl (by decide +kernel)
set_option maxRecDepth 65536 in
theorem w_c9 : (Jvm.Cond.code ({ cls := "java/lang/StringUTF16", name := "compress", desc := "([CI[BII)I" } : Jvm.MethodName) jdk_52_method_21_code (7 : Nat) (Option.some Jvm.ClassFile.FieldType.int)).before args0 about1 = true := code_word (m := ⟨11, 3⟩) (meth := k11m3) (c := k11c3) (by decide +kernel) rfl rfl rfl (by decide +kernel)
set_option maxRecDepth 65536 in
theorem w_c10 : (Jvm.Cond.code ({ cls := "java/lang/StringUTF16", name := "coderFromArrayLen", desc := "([BI)B" } : Jvm.MethodName) jdk_52_method_15_code (2 : Nat) (Option.some Jvm.ClassFile.FieldType.byte)).before args0 about1 = true := code_word (m := ⟨11, 1⟩) (meth := k11m1) (c := k11c1) (by decide +kernel) rfl rfl rfl (by decide +kernel)
set_option maxRecDepth 65536 in
theorem w_c11 : (Jvm.Cond.code ({ cls := "com/example/sumgen/sumgen/model/Place", name := "<init>", desc := "(Ljava/lang/String;II)V" } : Jvm.MethodName) prog_17_method_1_code (4 : Nat) (Option.none : Option Jvm.ClassFile.FieldType)).before args0 about1 = true := code_word (m := ⟨12, 0⟩) (meth := k12m0) (c := k12c0) (by decide +kernel) rfl rfl rfl (by decide +kernel)
def codes1 : List Jvm.Cond := [Jvm.Cond.code x code maxLocals ret, Jvm.Cond.code ({ cls := "com/example/sumgen/sumgen/model/ReferenceToOneVariantPinLaw", name := "draw", desc := "(II)Ljava/lang/String;" } : Jvm.MethodName) method_2_code (2 : Nat) (Option.some (Jvm.ClassFile.FieldType.object "java/lang/String")), Jvm.Cond.code ({ cls := "com/example/sumgen/sumgen/model/Reference", name := "<init>", desc := "(Ljava/lang/String;Ljava/lang/String;Lcom/example/sumgen/sumgen/model/Place;)V" } : Jvm.MethodName) prog_18_method_1_code (4 : Nat) (Option.none : Option Jvm.ClassFile.FieldType), Jvm.Cond.code ({ cls := "java/lang/Record", name := "<init>", desc := "()V" } : Jvm.MethodName) jdk_30_method_1_code (1 : Nat) (Option.none : Option Jvm.ClassFile.FieldType), Jvm.Cond.code ({ cls := "java/lang/Object", name := "<init>", desc := "()V" } : Jvm.MethodName) object_method_1_code (1 : Nat) (Option.none : Option Jvm.ClassFile.FieldType), Jvm.Cond.code ({ cls := "com/example/sumgen/sumgen/model/Reference", name := "toOneVariant", desc := "()Z" } : Jvm.MethodName) prog_18_method_2_code (1 : Nat) (Option.some Jvm.ClassFile.FieldType.boolean), Jvm.Cond.code ({ cls := "java/lang/String", name := "<init>", desc := "([C)V" } : Jvm.MethodName) jdk_42_method_3_code (2 : Nat) (Option.none : Option Jvm.ClassFile.FieldType), Jvm.Cond.code ({ cls := "java/lang/String", name := "<init>", desc := "([CIILjava/lang/Void;)V" } : Jvm.MethodName) jdk_42_method_149_code (6 : Nat) (Option.none : Option Jvm.ClassFile.FieldType), Jvm.Cond.code ({ cls := "java/lang/StringUTF16", name := "compress", desc := "([CII)[B" } : Jvm.MethodName) jdk_52_method_16_code (6 : Nat) (Option.some (Jvm.ClassFile.FieldType.array Jvm.ClassFile.FieldType.byte)), Jvm.Cond.code ({ cls := "java/lang/StringUTF16", name := "compress", desc := "([CI[BII)I" } : Jvm.MethodName) jdk_52_method_21_code (7 : Nat) (Option.some Jvm.ClassFile.FieldType.int), Jvm.Cond.code ({ cls := "java/lang/StringUTF16", name := "coderFromArrayLen", desc := "([BI)B" } : Jvm.MethodName) jdk_52_method_15_code (2 : Nat) (Option.some Jvm.ClassFile.FieldType.byte), Jvm.Cond.code ({ cls := "com/example/sumgen/sumgen/model/Place", name := "<init>", desc := "(Ljava/lang/String;II)V" } : Jvm.MethodName) prog_17_method_1_code (4 : Nat) (Option.none : Option Jvm.ClassFile.FieldType)]
set_option maxRecDepth 65536 in
theorem codes_eq : words1.filter isCode = codes1 := rfl
theorem w_codes : ∀ c ∈ words1.filter isCode, c.before args0 about1 = true := by
  rw [codes_eq]
  intro c hc
  simp only [codes1, List.mem_cons, List.not_mem_nil, or_false] at hc
  rcases hc with rfl | rfl | rfl | rfl | rfl | rfl | rfl | rfl | rfl | rfl | rfl | rfl
  · exact w_c0
  · exact w_c1
  · exact w_c2
  · exact w_c3
  · exact w_c4
  · exact w_c5
  · exact w_c6
  · exact w_c7
  · exact w_c8
  · exact w_c9
  · exact w_c10
  · exact w_c11
set_option maxRecDepth 65536 in
theorem w_t1 : (words1.take 24).all (fun c => isCode c || c.before args0 about1) = true := by decide +kernel
set_option maxRecDepth 65536 in
theorem w_t2 : ((words1.drop 24).take 24).all (fun c => isCode c || c.before args0 about1) = true := by decide +kernel
set_option maxRecDepth 65536 in
theorem w_t3 : (((words1.drop 24).drop 24).take 24).all (fun c => isCode c || c.before args0 about1) = true := by decide +kernel
set_option maxRecDepth 65536 in
theorem w_t4 : (((words1.drop 24).drop 24).drop 24).all (fun c => isCode c || c.before args0 about1) = true := by decide +kernel
theorem w_tables : (allAtoms (Jvm.Cond.code x code maxLocals ret :: tables_1)).before args0 about1 = true := by
  rw [allAtoms_all]
  show words1.all (fun c => c.before args0 about1) = true
  refine all_split ?_ w_codes
  rw [← List.take_append_drop 24 words1, List.all_append, w_t1, ← List.take_append_drop 24 (words1.drop 24), List.all_append, w_t2, ← List.take_append_drop 24 ((words1.drop 24).drop 24), List.all_append, w_t3, w_t4]
  rfl
set_option maxRecDepth 65536 in
theorem w_rest : rest_1_c.before args0 about1 = true := by decide +kernel
set_option maxRecDepth 65536 in
theorem w_case : (Jvm.Cond.and given_1 narrow_1).before args0 about1 = true := by decide +kernel
set_option maxRecDepth 65536 in
theorem w_consts : constsHeld consts_1 about1 := Jvm.Lit.constsHeldB_iff.mp (by decide +kernel)
theorem w_applies : (headSpec (Jvm.Cond.code x code maxLocals ret :: tables_1) room_1).applies x e0.platform about1 = true :=
  (Spec.applies_iff w_frames).mpr ⟨w_running, w_runnable, w_alone, w_named, w_hears, w_ripe, w_room, w_tables⟩
theorem atStart : AtStart classFile x code maxLocals ret World_1 tables_1 room_1 Calls_1 rest_1 Pre_1 launch0 p0 e0 about1 theMethod args0 below0 :=
  ⟨lists_1, trivial, launch0.admits_env _ _ _, launch0.least_env, fairChoices_fair.cas, fairChoices_fair.clock, w_frames, w_args, w_heap, w_applies, ⟨w_consts, trivial⟩, w_rest, w_case⟩
end start1
theorem witness_1 : WitnessClaimed_1 := ⟨start1.p0, start1.e0, start1.about1, start1.theMethod, start1.args0, start1.below0, start1.atStart⟩
end Jvm.Pilot.@@N@@
