import JvmDerived
import JvmDerived.Pilot.@@N@@Statement
import JvmDerived.Pilot.@@N@@Code
set_option linter.unusedVariables false
set_option linter.unusedSimpArgs false
namespace Jvm.OwnK
open Jvm Sem ClassFile Op Lib Jvm.Free Jvm.Stand Jvm.LawKit Jvm.RoadKit Bundle
/-! OwnK: a body's walk as a judgement. 'Go .. SF h k n pc Ls st': from the place pc, with the locals Ls and the operands st, over the heap h (SF: what this walk may write; k cells and n slots made so far), the body ends, and Q holds of what it returns and of the heap. One rule a step; a callee by 'Met'. -/
def Own (Z : State) (EL : List (String × Nat)) (n0 : Nat) (h0 : Heap) (WS : List Addr) (vm : Vm) (h : Heap) (SF : List Addr) : Prop := ∀ x ∈ SF, (n0 ≤ x ∧ x < h.size ∧ (x ∈ WS ∨ h0.size ≤ x)) ∧ Safe Z EL vm h x
def Cor (Z : State) (EL : List (String × Nat)) (n0 : Nat) (nr : Bool) (h0 : Heap) (WS SF : List Addr) (h : Heap) (s : State) (vm0 : Vm) (k0 : Nat) (locs : List Loc) : Prop :=
  Z.Warmed39 vm0 ∧ (s.Since vm0 k0 ∧ k0 ≤ h.size) ∧ Fr n0 locs ∧ CHr Z EL s.vm h0 vm0 h ∧ Own Z EL n0 h0 WS vm0 h SF ∧ (nr = true → s.WarmedH vm0) ∧ (Z.heap.size = n0 ∧ Ext Z.heap h) ∧ Keep h0 h WS ∧ s.heap = h0 ∧ ∃ a0, EW Z a0 EL
def Pst (Z : State) (EL : List (String × Nat)) (n0 : Nat) (nr : Bool) (R : Room) (h0 : Heap) (WS : List Addr) (Q : Option Value → Heap → List Addr → Prop) (s : State) (o : Outcome) (t : State) : Prop :=
  ∃ v L SN, o = .returned v ∧ Q v t.heap SN ∧ Fr n0 L ∧ Keep h0 t.heap WS ∧ (∀ x ∈ SN, (h0.size ≤ x ∧ x < t.heap.size) ∧ Safe Z EL t.vm t.heap x) ∧ CHr Z EL s.vm h0 t.vm t.heap ∧ (nr = true → s.WarmedH t.vm) ∧ ReturnedEndW s o t L R.cells R.slots
def Run (l : Launch) (Z : State) (EL : List (String × Nat)) (n0 : Nat) (nr kn : Bool) (y : MethodName) (bytes : ByteArray) (mL : Nat) (ret : Option FieldType) (R : Room) (h0 : Heap) (WS SF : List Addr) (h : Heap) (k n : Nat)
    (p : Program) (e : Env) (s : State) (m : MethodId) (args : Array Value) (below : List Frame) (meth : Method) (c : Code) (T : State) : Prop :=
  (p.tables.exec = Jvm.exec ∧ c.code = bytes ∧ c.maxLocals = mL ∧ s.vm.findClass y.cls = some m.cls ∧ meth.name = y.name ∧ meth.sig.returnType = ret ∧ meth.locks = false ∧ (kn = true → s.vm.MethodsKnown ∧ s.vm.FramesKnown below)) ∧
  ∃ vm0 k0 locs, Stand p l e R (s.setVm vm0) m args below meth c T locs k n ∧ T.heap = h ∧ Cor Z EL n0 nr h0 WS SF h s vm0 k0 locs
def Go (l : Launch) (Z : State) (EL : List (String × Nat)) (n0 : Nat) (nr kn : Bool) (y : MethodName) (bytes : ByteArray) (mL : Nat) (ret : Option FieldType) (R : Room) (h0 : Heap) (WS : List Addr) (Q : Option Value → Heap → List Addr → Prop)
    (SF : List Addr) (h : Heap) (k n : Nat) (pc : Nat) (Ls : Array Slot) (st : List Value) : Prop :=
  ∀ (p : Program) (e : Env) (s : State) (m : MethodId) (args : Array Value) (below : List Frame) (meth : Method) (c : Code) (T : State), Run l Z EL n0 nr kn y bytes mL ret R h0 WS SF h k n p e s m args below meth c T →
    ∃ t o, Steps p.tables e below (T.setTop (mkF m pc Ls st)) t ∧ t.status = .running ∧ Ended t below o ∧ Pst Z EL n0 nr R h0 WS Q s o t
def Met (l : Launch) (Z : State) (EL : List (String × Nat)) (n0 : Nat) (nr kn : Bool) (y : MethodName) (bytes : ByteArray) (mL : Nat) (ret : Option FieldType) (R : Room) (WS : List Addr) (as' : Array Value) (h : Heap) (Q : Option Value → Heap → List Addr → Prop) : Prop :=
  ∀ ws : List Jvm.Cond, MetFree l y (head1 (Jvm.Cond.code y bytes mL ret :: ws) R)
    (fun a U => a = as' ∧ Z.Warmed39 U.vm ∧ U.heap = h ∧ CHv Z EL U.vm h ∧ (∀ x ∈ WS, (n0 ≤ x ∧ x < h.size) ∧ Safe Z EL U.vm h x) ∧ (Z.heap.size = n0 ∧ Ext Z.heap h) ∧ ∃ a0, EW Z a0 EL)
    (fun _ _ bl s _ => kn = true → s.vm.MethodsKnown ∧ s.vm.FramesKnown bl) (fun _ U o U' => Pst Z EL n0 nr R h WS Q U o U')
def Pays (l : Launch) (Z : State) (EL : List (String × Nat)) (n0 : Nat) (nr kn : Bool) (R : Room) (len : Nat) (z : MethodName) (W ck cn : Nat) (ws : List Addr) (as' : Array Value) (h : Heap) (Q : Option Value → Heap → List Addr → Prop) : Prop :=
  ∀ (p : Program) (e : Env) (below : List Frame) (s : State) (args : Array Value) (vm0 : Vm), p.tables.exec = Jvm.exec → Z.Warmed39 vm0 → CHv Z EL vm0 h → (∀ x ∈ ws, (n0 ≤ x ∧ x < h.size) ∧ Safe Z EL vm0 h x) → (Z.heap.size = n0 ∧ Ext Z.heap h) → (∃ a0, EW Z a0 EL) →
    (kn = true → vm0.MethodsKnown ∧ vm0.FramesKnown below) →
    BackS l R p e below (s.setVm vm0) args z len W (fun A a => a = as' ∧ A.U.heap = h ∧ A.cells + ck ≤ R.cells ∧ A.slots + cn ≤ R.slots)
      (fun A _ v B => ∃ L SN, Q v B.U.heap SN ∧ Fr n0 L ∧ Keep h B.U.heap ws ∧ (∀ x ∈ SN, (h.size ≤ x ∧ x < B.U.heap.size) ∧ Safe Z EL B.U.vm B.U.heap x) ∧ CHr Z EL vm0 h B.U.vm B.U.heap ∧ (nr = true → (s.setVm vm0).WarmedH B.U.vm) ∧ B.locs = A.locs ++ L ∧ B.cells = A.cells + ck ∧ B.slots = A.slots + cn)
def Mr (Z : State) (CC : String) (m : Addr) : Prop := ∃ (c : ClassId) (k : Class), Z.vm.findClass CC = some c ∧ Z.vm.classes[c]? = some k ∧ k.mirror = some m
section Rules
variable {l : Launch} {Z : State} {EL : List (String × Nat)} {n0 : Nat} {nr kn : Bool} {y : MethodName} {bytes : ByteArray} {mL : Nat} {ret : Option FieldType} {R : Room} {h0 : Heap} {WS : List Addr} {Q : Option Value → Heap → List Addr → Prop} {SF : List Addr} {h h' : Heap} {k n : Nat} {pc pc' : Nat} {Ls Ls' : Array Slot} {st rest : List Value} {a0 : Array Value} {s : State} {vm0 vm1 : Vm} {k0 : Nat} {locs : List Loc}
theorem Cor.ext (C : Cor Z EL n0 nr h0 WS SF h s vm0 k0 locs) (E : Ext h h') : Cor Z EL n0 nr h0 WS SF h' s vm0 k0 locs := by
  obtain ⟨c1, ⟨c2, c2'⟩, c3, c4, c5, c6, ⟨c7, c7'⟩, c8, c9, c10⟩ := C
  exact ⟨c1, ⟨c2, Nat.le_trans c2' E.1⟩, c3, c4.trans (CHr.ext E c4.1), fun x hx => ⟨⟨(c5 x hx).1.1, Nat.lt_of_lt_of_le (c5 x hx).1.2.1 E.1, (c5 x hx).1.2.2⟩, Safe.ext E c4.1 (c5 x hx).2⟩, c6, ⟨c7, Nat.le_trans c7'.1 E.1, fun a c q => E.2 a c (c7'.2 a c q)⟩, c8.ext E, c9, c10⟩
theorem Cor.push (C : Cor Z EL n0 nr h0 WS SF h s vm0 k0 locs) (E : Ext h h') (hlt : h.size < h'.size) : Cor Z EL n0 nr h0 WS (h.size :: SF) h' s vm0 k0 locs := by
  have D := C.ext E
  obtain ⟨c1, c2, c3, c4, c5, c6, ⟨c7, c7'⟩, c8, c9, c10⟩ := C
  obtain ⟨d1, d2, d3, d4, d5, d6, d7, d8, d9, d10⟩ := D
  refine ⟨d1, d2, d3, d4, fun x hx => ?_, d6, d7, d8, d9, d10⟩
  rcases List.mem_cons.mp hx with rfl | hx
  · exact ⟨⟨c7 ▸ c7'.1, hlt, Or.inr c8.1⟩, Safe.ext E c4.1 (Safe.new (Nat.le_refl _))⟩
  · exact d5 x hx
theorem Cor.wr {a : Addr} {sl : Nat} {v : Value} (C : Cor Z EL n0 nr h0 WS SF h s vm0 k0 locs) (W : Wr h h' a sl v) (ha : a ∈ SF) : Cor Z EL n0 nr h0 WS SF h' s vm0 k0 (locs ++ [⟨a, sl⟩]) := by
  obtain ⟨c1, ⟨c2, c2'⟩, c3, c4, c5, c6, ⟨c7, c7'⟩, c8, c9, c10⟩ := C
  have S := (c5 a ha).2
  have O : Old Z n0 h := ⟨c7, c7'⟩
  refine ⟨c1, ⟨c2, by rw [W.size]; exact c2'⟩, c3.app fun z hz => by cases List.mem_singleton.mp hz; exact (c5 a ha).1.1, c4.trans (CHr.wr W S c4.1), fun x hx => ⟨⟨(c5 x hx).1.1, by rw [W.size]; exact (c5 x hx).1.2.1, (c5 x hx).1.2.2⟩, Safe.wr W S c4.1 (c5 x hx).2⟩, c6, O.wr W (c5 a ha).1.1, c8.wr W (c5 a ha).1.2.2, c9, c10⟩
theorem Cor.keep {ws SN : List Addr} {L : List Loc} {k1 : Nat} (C : Cor Z EL n0 nr h0 WS SF h s vm0 k0 locs) (K : Keep h h' ws) (hws : ∀ x ∈ ws, x ∈ SF) (hL : Fr n0 L) (hC : CHr Z EL vm0 h vm1 h') (hZ : Z.Warmed39 vm1) (hS : s.Since vm1 k1) (hk : k1 ≤ h'.size) (hN : nr = true → s.WarmedH vm1)
    (hSN : ∀ x ∈ SN, (h.size ≤ x ∧ x < h'.size) ∧ Safe Z EL vm1 h' x) : Cor Z EL n0 nr h0 WS (SN ++ SF) h' s vm1 k1 (locs ++ L) := by
  obtain ⟨c1, ⟨c2, c2'⟩, c3, c4, c5, c6, ⟨c7, c7'⟩, c8, c9, c10⟩ := C
  have O : Old Z n0 h := ⟨c7, c7'⟩
  refine ⟨hZ, ⟨hS, hk⟩, c3.app hL, c4.trans hC, fun x hx => ?_, hN, O.keep K fun x hx => (c5 x (hws x hx)).1.1, c8.trans K fun x hx => (c5 x (hws x hx)).1.2.2, c9, c10⟩
  rcases List.mem_append.mp hx with hx | hx
  · obtain ⟨⟨q1, q2⟩, q3⟩ := hSN x hx
    exact ⟨⟨Nat.le_trans (c7 ▸ c7'.1) q1, q2, Or.inr (Nat.le_trans c8.1 q1)⟩, q3⟩
  · exact ⟨⟨(c5 x hx).1.1, Nat.lt_of_lt_of_le (c5 x hx).1.2.1 K.1, (c5 x hx).1.2.2⟩, hC.safe (c5 x hx).1.2.1 (c5 x hx).2⟩
theorem Go.inv (K : (Z.heap.size = n0 ∧ Ext Z.heap h) → Keep h0 h WS → (∀ x ∈ SF, n0 ≤ x ∧ x < h.size ∧ (x ∈ WS ∨ h0.size ≤ x)) → Go l Z EL n0 nr kn y bytes mL ret R h0 WS Q SF h k n pc Ls st) : Go l Z EL n0 nr kn y bytes mL ret R h0 WS Q SF h k n pc Ls st := by
  intro p e s m args below meth c T hR
  obtain ⟨hA, vm0, k0, locs, X, e0, C⟩ := hR
  exact K C.2.2.2.2.2.2.1 C.2.2.2.2.2.2.2.1 (fun x hx => (C.2.2.2.2.1 x hx).1) p e s m args below meth c T ⟨hA, vm0, k0, locs, X, e0, C⟩
theorem Go.more {k' n' : Nat} (hk : k ≤ k') (hn : n ≤ n') (K : Go l Z EL n0 nr kn y bytes mL ret R h0 WS Q SF h k' n' pc Ls st) : Go l Z EL n0 nr kn y bytes mL ret R h0 WS Q SF h k n pc Ls st := by
  intro p e s m args below meth c T hR
  obtain ⟨hA, vm0, k0, locs, X, e0, C⟩ := hR
  exact K p e s m args below meth c T ⟨hA, vm0, k0, locs, X.more hk hn, e0, C⟩
theorem Go.fewer {SF' : List Addr} (hs : ∀ x ∈ SF', x ∈ SF) (K : Go l Z EL n0 nr kn y bytes mL ret R h0 WS Q SF' h k n pc Ls st) : Go l Z EL n0 nr kn y bytes mL ret R h0 WS Q SF h k n pc Ls st := by
  intro p e s m args below meth c T hR
  obtain ⟨hA, vm0, k0, locs, X, e0, c1, c2, c3, c4, c5, r⟩ := hR
  exact K p e s m args below meth c T ⟨hA, vm0, k0, locs, X, e0, c1, c2, c3, c4, fun x hx => c5 x (hs x hx), r⟩
theorem Go.plain {st' : List Value} (H : ∀ (p : Program) (e : Env) (below : List Frame) (T : State) (m : MethodId) (c : Code) (target : State), At T m c below → p.tables.exec = Jvm.exec → c.code = bytes → Steps p.tables e below (T.setTop (mkF m pc' Ls' st')) target → Steps p.tables e below (T.setTop (mkF m pc Ls st)) target)
    (K : Go l Z EL n0 nr kn y bytes mL ret R h0 WS Q SF h k n pc' Ls' st') : Go l Z EL n0 nr kn y bytes mL ret R h0 WS Q SF h k n pc Ls st := by
  intro p e s m args below meth c T hR
  obtain ⟨t, o, hs, r⟩ := K p e s m args below meth c T hR
  obtain ⟨⟨hx, hb, -⟩, vm0, k0, locs, X, -⟩ := hR
  exact ⟨t, o, H p e below T m c t X.here hx hb hs, r⟩

theorem Go.aload_n {i : Fin 4} {v : Value} (hd : decode bytes pc = .ok (.aload_n i, 1)) (hq : pc + 1 = pc') (hl : Ls[i.val]? = some (.val v)) (hv : v.isRef = true) (K : Go l Z EL n0 nr kn y bytes mL ret R h0 WS Q SF h k n pc' Ls (v :: st)) : Go l Z EL n0 nr kn y bytes mL ret R h0 WS Q SF h k n pc Ls st :=
  Go.plain (fun p e below T m c target hA hx hb hk => XS.aloadN hA hx rfl (hb ▸ hd) hl hv (by subst hq; exact hk)) K
theorem Go.aload {i : Nat} {v : Value} (hd : decode bytes pc = .ok (.aload i, 2)) (hq : pc + 2 = pc') (hl : Ls[i]? = some (.val v)) (hv : v.isRef = true) (K : Go l Z EL n0 nr kn y bytes mL ret R h0 WS Q SF h k n pc' Ls (v :: st)) : Go l Z EL n0 nr kn y bytes mL ret R h0 WS Q SF h k n pc Ls st :=
  Go.plain (fun p e below T m c target hA hx hb hk => XS.aload hA hx rfl (hb ▸ hd) hl hv (by subst hq; exact hk)) K
theorem Go.iload_n {i : Fin 4} {v : Int32} (hd : decode bytes pc = .ok (.iload_n i, 1)) (hq : pc + 1 = pc') (hl : Ls[i.val]? = some (.val (.int v))) (K : Go l Z EL n0 nr kn y bytes mL ret R h0 WS Q SF h k n pc' Ls (.int v :: st)) : Go l Z EL n0 nr kn y bytes mL ret R h0 WS Q SF h k n pc Ls st :=
  Go.plain (fun p e below T m c target hA hx hb hk => XS.iloadN hA hx rfl (hb ▸ hd) hl (by subst hq; exact hk)) K
theorem Go.iload {i : Nat} {v : Int32} (hd : decode bytes pc = .ok (.iload i, 2)) (hq : pc + 2 = pc') (hl : Ls[i]? = some (.val (.int v))) (K : Go l Z EL n0 nr kn y bytes mL ret R h0 WS Q SF h k n pc' Ls (.int v :: st)) : Go l Z EL n0 nr kn y bytes mL ret R h0 WS Q SF h k n pc Ls st :=
  Go.plain (fun p e below T m c target hA hx hb hk => XS.iload hA hx rfl (hb ▸ hd) hl (by subst hq; exact hk)) K
theorem Go.lload_n {i : Fin 4} {v : Int64} (hd : decode bytes pc = .ok (.lload_n i, 1)) (hq : pc + 1 = pc') (hl : Ls[i.val]? = some (.val (.long v))) (K : Go l Z EL n0 nr kn y bytes mL ret R h0 WS Q SF h k n pc' Ls (.long v :: st)) : Go l Z EL n0 nr kn y bytes mL ret R h0 WS Q SF h k n pc Ls st :=
  Go.plain (fun p e below T m c target hA hx hb hk => XS.lloadN hA hx rfl (hb ▸ hd) hl (by subst hq; exact hk)) K
theorem Go.iconst {i : Int} {v : Int32} (hd : decode bytes pc = .ok (.iconst i, 1)) (hq : pc + 1 = pc') (hv : Int32.ofInt i = v) (K : Go l Z EL n0 nr kn y bytes mL ret R h0 WS Q SF h k n pc' Ls (.int v :: st)) : Go l Z EL n0 nr kn y bytes mL ret R h0 WS Q SF h k n pc Ls st :=
  Go.plain (fun p e below T m c target hA hx hb hk => XS.iconst hA hx rfl (hb ▸ hd) (by subst hq; subst hv; exact hk)) K
theorem Go.bipush {i : Int} {v : Int32} (hd : decode bytes pc = .ok (.bipush i, 2)) (hq : pc + 2 = pc') (hv : (Int8.ofInt i).toInt32 = v) (K : Go l Z EL n0 nr kn y bytes mL ret R h0 WS Q SF h k n pc' Ls (.int v :: st)) : Go l Z EL n0 nr kn y bytes mL ret R h0 WS Q SF h k n pc Ls st :=
  Go.plain (fun p e below T m c target hA hx hb hk => XS.bipush hA hx rfl (hb ▸ hd) (by subst hq; subst hv; exact hk)) K
theorem Go.sipush {i : Int} {v : Int32} (hd : decode bytes pc = .ok (.sipush i, 3)) (hq : pc + 3 = pc') (hv : (Int16.ofInt i).toInt32 = v) (K : Go l Z EL n0 nr kn y bytes mL ret R h0 WS Q SF h k n pc' Ls (.int v :: st)) : Go l Z EL n0 nr kn y bytes mL ret R h0 WS Q SF h k n pc Ls st :=
  Go.plain (fun p e below T m c target hA hx hb hk => XS.sipush hA hx rfl (hb ▸ hd) (by subst hq; subst hv; exact hk)) K
theorem Go.aconst_null (hd : decode bytes pc = .ok (.aconst_null, 1)) (hq : pc + 1 = pc') (K : Go l Z EL n0 nr kn y bytes mL ret R h0 WS Q SF h k n pc' Ls (.null :: st)) : Go l Z EL n0 nr kn y bytes mL ret R h0 WS Q SF h k n pc Ls st :=
  Go.plain (fun p e below T m c target hA hx hb hk => XS.aconstNull hA hx rfl (hb ▸ hd) (by subst hq; exact hk)) K
theorem Go.iadd {x z : Int32} (hd : decode bytes pc = .ok (.iadd, 1)) (hq : pc + 1 = pc') (K : Go l Z EL n0 nr kn y bytes mL ret R h0 WS Q SF h k n pc' Ls (.int (x + z) :: st)) : Go l Z EL n0 nr kn y bytes mL ret R h0 WS Q SF h k n pc Ls (.int z :: .int x :: st) :=
  Go.plain (fun p e below T m c target hA hx hb hk => XS.iadd hA hx rfl (hb ▸ hd) rfl (by subst hq; exact hk)) K
theorem Go.isub {x z : Int32} (hd : decode bytes pc = .ok (.isub, 1)) (hq : pc + 1 = pc') (K : Go l Z EL n0 nr kn y bytes mL ret R h0 WS Q SF h k n pc' Ls (.int (x - z) :: st)) : Go l Z EL n0 nr kn y bytes mL ret R h0 WS Q SF h k n pc Ls (.int z :: .int x :: st) :=
  Go.plain (fun p e below T m c target hA hx hb hk => XS.isub hA hx rfl (hb ▸ hd) rfl (by subst hq; exact hk)) K
theorem Go.iand {x z : Int32} (hd : decode bytes pc = .ok (.iand, 1)) (hq : pc + 1 = pc') (K : Go l Z EL n0 nr kn y bytes mL ret R h0 WS Q SF h k n pc' Ls (.int (x &&& z) :: st)) : Go l Z EL n0 nr kn y bytes mL ret R h0 WS Q SF h k n pc Ls (.int z :: .int x :: st) :=
  Go.plain (fun p e below T m c target hA hx hb hk => XS.iand hA hx rfl (hb ▸ hd) rfl (by subst hq; exact hk)) K
theorem Go.imul {x z : Int32} (hd : decode bytes pc = .ok (.imul, 1)) (hq : pc + 1 = pc') (K : Go l Z EL n0 nr kn y bytes mL ret R h0 WS Q SF h k n pc' Ls (.int (x * z) :: st)) : Go l Z EL n0 nr kn y bytes mL ret R h0 WS Q SF h k n pc Ls (.int z :: .int x :: st) :=
  Go.plain (fun p e below T m c target hA hx hb hk => XS.imul hA hx rfl (hb ▸ hd) rfl (by subst hq; exact hk)) K
theorem Go.ior {x z : Int32} (hd : decode bytes pc = .ok (.ior, 1)) (hq : pc + 1 = pc') (K : Go l Z EL n0 nr kn y bytes mL ret R h0 WS Q SF h k n pc' Ls (.int (x ||| z) :: st)) : Go l Z EL n0 nr kn y bytes mL ret R h0 WS Q SF h k n pc Ls (.int z :: .int x :: st) :=
  Go.plain (fun p e below T m c target hA hx hb hk => XS.ior hA hx rfl (hb ▸ hd) rfl (by subst hq; exact hk)) K
theorem Go.ixor {x z : Int32} (hd : decode bytes pc = .ok (.ixor, 1)) (hq : pc + 1 = pc') (K : Go l Z EL n0 nr kn y bytes mL ret R h0 WS Q SF h k n pc' Ls (.int (x ^^^ z) :: st)) : Go l Z EL n0 nr kn y bytes mL ret R h0 WS Q SF h k n pc Ls (.int z :: .int x :: st) :=
  Go.plain (fun p e below T m c target hA hx hb hk => XS.ixor hA hx rfl (hb ▸ hd) rfl (by subst hq; exact hk)) K
theorem Go.ishl {x z : Int32} (hd : decode bytes pc = .ok (.ishl, 1)) (hq : pc + 1 = pc') (K : Go l Z EL n0 nr kn y bytes mL ret R h0 WS Q SF h k n pc' Ls (.int (x <<< (z &&& 31)) :: st)) : Go l Z EL n0 nr kn y bytes mL ret R h0 WS Q SF h k n pc Ls (.int z :: .int x :: st) :=
  Go.plain (fun p e below T m c target hA hx hb hk => XS.ishl hA hx rfl (hb ▸ hd) rfl (by subst hq; exact hk)) K
theorem Go.ishr {x z : Int32} (hd : decode bytes pc = .ok (.ishr, 1)) (hq : pc + 1 = pc') (K : Go l Z EL n0 nr kn y bytes mL ret R h0 WS Q SF h k n pc' Ls (.int (x >>> (z &&& 31)) :: st)) : Go l Z EL n0 nr kn y bytes mL ret R h0 WS Q SF h k n pc Ls (.int z :: .int x :: st) :=
  Go.plain (fun p e below T m c target hA hx hb hk => XS.ishr hA hx rfl (hb ▸ hd) rfl (by subst hq; exact hk)) K
theorem Go.iushr {x z : Int32} (hd : decode bytes pc = .ok (.iushr, 1)) (hq : pc + 1 = pc') (K : Go l Z EL n0 nr kn y bytes mL ret R h0 WS Q SF h k n pc' Ls (.int ((x.toUInt32 >>> (z &&& 31).toUInt32).toInt32) :: st)) : Go l Z EL n0 nr kn y bytes mL ret R h0 WS Q SF h k n pc Ls (.int z :: .int x :: st) :=
  Go.plain (fun p e below T m c target hA hx hb hk => XS.iushr hA hx rfl (hb ▸ hd) rfl (by subst hq; exact hk)) K
theorem Go.ineg {x : Int32} (hd : decode bytes pc = .ok (.ineg, 1)) (hq : pc + 1 = pc') (K : Go l Z EL n0 nr kn y bytes mL ret R h0 WS Q SF h k n pc' Ls (.int (-x) :: st)) : Go l Z EL n0 nr kn y bytes mL ret R h0 WS Q SF h k n pc Ls (.int x :: st) :=
  Go.plain (fun p e below T m c target hA hx hb hk => XS.ineg hA hx rfl (hb ▸ hd) rfl (by subst hq; exact hk)) K
theorem Go.i2b {x : Int32} (hd : decode bytes pc = .ok (.i2b, 1)) (hq : pc + 1 = pc') (K : Go l Z EL n0 nr kn y bytes mL ret R h0 WS Q SF h k n pc' Ls (.int x.toInt8.toInt32 :: st)) : Go l Z EL n0 nr kn y bytes mL ret R h0 WS Q SF h k n pc Ls (.int x :: st) :=
  Go.plain (fun p e below T m c target hA hx hb hk => XS.i2b hA hx rfl (hb ▸ hd) rfl (by subst hq; exact hk)) K
theorem Go.i2c {x : Int32} (hd : decode bytes pc = .ok (.i2c, 1)) (hq : pc + 1 = pc') (K : Go l Z EL n0 nr kn y bytes mL ret R h0 WS Q SF h k n pc' Ls (.int x.toUInt32.toUInt16.toUInt32.toInt32 :: st)) : Go l Z EL n0 nr kn y bytes mL ret R h0 WS Q SF h k n pc Ls (.int x :: st) :=
  Go.plain (fun p e below T m c target hA hx hb hk => XS.i2c hA hx rfl (hb ▸ hd) rfl (by subst hq; exact hk)) K
theorem Go.i2l {x : Int32} (hd : decode bytes pc = .ok (.i2l, 1)) (hq : pc + 1 = pc') (K : Go l Z EL n0 nr kn y bytes mL ret R h0 WS Q SF h k n pc' Ls (.long x.toInt64 :: st)) : Go l Z EL n0 nr kn y bytes mL ret R h0 WS Q SF h k n pc Ls (.int x :: st) :=
  Go.plain (fun p e below T m c target hA hx hb hk => XS.i2l hA hx rfl (hb ▸ hd) rfl (by subst hq; exact hk)) K
theorem Go.l2i {x : Int64} (hd : decode bytes pc = .ok (.l2i, 1)) (hq : pc + 1 = pc') (K : Go l Z EL n0 nr kn y bytes mL ret R h0 WS Q SF h k n pc' Ls (.int x.toInt32 :: st)) : Go l Z EL n0 nr kn y bytes mL ret R h0 WS Q SF h k n pc Ls (.long x :: st) :=
  Go.plain (fun p e below T m c target hA hx hb hk => XS.l2i hA hx rfl (hb ▸ hd) rfl (by subst hq; exact hk)) K
theorem Go.ladd {x z : Int64} (hd : decode bytes pc = .ok (.ladd, 1)) (hq : pc + 1 = pc') (K : Go l Z EL n0 nr kn y bytes mL ret R h0 WS Q SF h k n pc' Ls (.long (x + z) :: st)) : Go l Z EL n0 nr kn y bytes mL ret R h0 WS Q SF h k n pc Ls (.long z :: .long x :: st) :=
  Go.plain (fun p e below T m c target hA hx hb hk => XS.ladd hA hx rfl (hb ▸ hd) rfl (by subst hq; exact hk)) K
theorem Go.lsub {x z : Int64} (hd : decode bytes pc = .ok (.lsub, 1)) (hq : pc + 1 = pc') (K : Go l Z EL n0 nr kn y bytes mL ret R h0 WS Q SF h k n pc' Ls (.long (x - z) :: st)) : Go l Z EL n0 nr kn y bytes mL ret R h0 WS Q SF h k n pc Ls (.long z :: .long x :: st) :=
  Go.plain (fun p e below T m c target hA hx hb hk => XS.lsub hA hx rfl (hb ▸ hd) rfl (by subst hq; exact hk)) K
theorem Go.lmul {x z : Int64} (hd : decode bytes pc = .ok (.lmul, 1)) (hq : pc + 1 = pc') (K : Go l Z EL n0 nr kn y bytes mL ret R h0 WS Q SF h k n pc' Ls (.long (x * z) :: st)) : Go l Z EL n0 nr kn y bytes mL ret R h0 WS Q SF h k n pc Ls (.long z :: .long x :: st) :=
  Go.plain (fun p e below T m c target hA hx hb hk => XS.lmul hA hx rfl (hb ▸ hd) rfl (by subst hq; exact hk)) K
theorem Go.lcmp {x z : Int64} (hd : decode bytes pc = .ok (.lcmp, 1)) (hq : pc + 1 = pc') (K : Go l Z EL n0 nr kn y bytes mL ret R h0 WS Q SF h k n pc' Ls (.int (lcmpW x z) :: st)) : Go l Z EL n0 nr kn y bytes mL ret R h0 WS Q SF h k n pc Ls (.long z :: .long x :: st) :=
  Go.plain (fun p e below T m c target hA hx hb hk => XS.lcmp hA hx rfl (hb ▸ hd) rfl (by subst hq; exact hk)) K
theorem Go.dup {v : Value} (hd : decode bytes pc = .ok (.dup, 1)) (hq : pc + 1 = pc') (hc : v.category = 1) (K : Go l Z EL n0 nr kn y bytes mL ret R h0 WS Q SF h k n pc' Ls (v :: v :: st)) : Go l Z EL n0 nr kn y bytes mL ret R h0 WS Q SF h k n pc Ls (v :: st) :=
  Go.plain (fun p e below T m c target hA hx hb hk => XS.dup hA hx rfl (hb ▸ hd) rfl hc (by subst hq; exact hk)) K
theorem Go.pop {v : Value} (hd : decode bytes pc = .ok (.pop, 1)) (hq : pc + 1 = pc') (hc : v.category = 1) (K : Go l Z EL n0 nr kn y bytes mL ret R h0 WS Q SF h k n pc' Ls st) : Go l Z EL n0 nr kn y bytes mL ret R h0 WS Q SF h k n pc Ls (v :: st) :=
  Go.plain (fun p e below T m c target hA hx hb hk => XS.pop hA hx rfl (hb ▸ hd) rfl hc (by subst hq; exact hk)) K
theorem Go.dup_x1 {v u : Value} (hd : decode bytes pc = .ok (.dup_x1, 1)) (hq : pc + 1 = pc') (hc : v.category = 1) (hc' : u.category = 1) (K : Go l Z EL n0 nr kn y bytes mL ret R h0 WS Q SF h k n pc' Ls (v :: u :: v :: st)) : Go l Z EL n0 nr kn y bytes mL ret R h0 WS Q SF h k n pc Ls (v :: u :: st) :=
  Go.plain (fun p e below T m c target hA hx hb hk => XS.dupX1 hA hx rfl (hb ▸ hd) rfl hc hc' (by subst hq; exact hk)) K
theorem Go.istore_n {i : Fin 4} {x : Int32} (hd : decode bytes pc = .ok (.istore_n i, 1)) (hq : pc + 1 = pc') (hl : storeLocals Ls i.val (.int x) = some Ls') (K : Go l Z EL n0 nr kn y bytes mL ret R h0 WS Q SF h k n pc' Ls' st) : Go l Z EL n0 nr kn y bytes mL ret R h0 WS Q SF h k n pc Ls (.int x :: st) :=
  Go.plain (fun p e below T m c target hA hx hb hk => XS.istoreN hA hx rfl (hb ▸ hd) rfl hl (by subst hq; exact hk)) K
theorem Go.istore {i : Nat} {x : Int32} (hd : decode bytes pc = .ok (.istore i, 2)) (hq : pc + 2 = pc') (hl : storeLocals Ls i (.int x) = some Ls') (K : Go l Z EL n0 nr kn y bytes mL ret R h0 WS Q SF h k n pc' Ls' st) : Go l Z EL n0 nr kn y bytes mL ret R h0 WS Q SF h k n pc Ls (.int x :: st) :=
  Go.plain (fun p e below T m c target hA hx hb hk => XS.istore hA hx rfl (hb ▸ hd) rfl hl (by subst hq; exact hk)) K
theorem Go.istoreS {i : Nat} {x : Int32} {o : Slot} (hd : decode bytes pc = .ok (.istore i, 2)) (hq : pc + 2 = pc') (hold : Ls[i]? = some o) (ho : One o) (hl : Ls.setIfInBounds i (.val (.int x)) = Ls') (K : Go l Z EL n0 nr kn y bytes mL ret R h0 WS Q SF h k n pc' Ls' st) : Go l Z EL n0 nr kn y bytes mL ret R h0 WS Q SF h k n pc Ls (.int x :: st) :=
  Go.plain (fun p e below T m c target hA hx hb hk => XS.istoreS hA hx rfl (hb ▸ hd) rfl hold ho (by subst hq; subst hl; exact hk)) K
theorem Go.lstore_n {i : Fin 4} {x : Int64} (hd : decode bytes pc = .ok (.lstore_n i, 1)) (hq : pc + 1 = pc') (hl : storeLocals Ls i.val (.long x) = some Ls') (K : Go l Z EL n0 nr kn y bytes mL ret R h0 WS Q SF h k n pc' Ls' st) : Go l Z EL n0 nr kn y bytes mL ret R h0 WS Q SF h k n pc Ls (.long x :: st) :=
  Go.plain (fun p e below T m c target hA hx hb hk => XS.lstoreN hA hx rfl (hb ▸ hd) rfl hl (by subst hq; exact hk)) K
theorem Go.astore_n {i : Fin 4} {v : Value} (hd : decode bytes pc = .ok (.astore_n i, 1)) (hq : pc + 1 = pc') (hv : v.isRef = true) (hl : storeLocals Ls i.val v = some Ls') (K : Go l Z EL n0 nr kn y bytes mL ret R h0 WS Q SF h k n pc' Ls' st) : Go l Z EL n0 nr kn y bytes mL ret R h0 WS Q SF h k n pc Ls (v :: st) :=
  Go.plain (fun p e below T m c target hA hx hb hk => XS.astoreN hA hx rfl (hb ▸ hd) rfl hv hl (by subst hq; exact hk)) K
theorem Go.astore {i : Nat} {v : Value} (hd : decode bytes pc = .ok (.astore i, 2)) (hq : pc + 2 = pc') (hv : v.isRef = true) (hl : storeLocals Ls i v = some Ls') (K : Go l Z EL n0 nr kn y bytes mL ret R h0 WS Q SF h k n pc' Ls' st) : Go l Z EL n0 nr kn y bytes mL ret R h0 WS Q SF h k n pc Ls (v :: st) :=
  Go.plain (fun p e below T m c target hA hx hb hk => XS.astore hA hx rfl (hb ▸ hd) rfl hv hl (by subst hq; exact hk)) K
theorem Go.iinc {i : Nat} {cst : Int} {x cv : Int32} (hd : decode bytes pc = .ok (.iinc i cst, 3)) (hq : pc + 3 = pc') (hv : Int32.ofInt cst = cv) (hl : Ls[i]? = some (.val (.int x))) (hl' : storeLocals Ls i (.int (x + cv)) = some Ls') (K : Go l Z EL n0 nr kn y bytes mL ret R h0 WS Q SF h k n pc' Ls' st) : Go l Z EL n0 nr kn y bytes mL ret R h0 WS Q SF h k n pc Ls st :=
  Go.plain (fun p e below T m c target hA hx hb hk => XS.iinc hA hx rfl (hb ▸ hd) hl (by subst hv; exact hl') (by subst hq; exact hk)) K
theorem Go.irem {x z : Int32} (hd : decode bytes pc = .ok (.irem, 1)) (hq : pc + 1 = pc') (hz : z ≠ 0) (K : Go l Z EL n0 nr kn y bytes mL ret R h0 WS Q SF h k n pc' Ls (.int (x % z) :: st)) : Go l Z EL n0 nr kn y bytes mL ret R h0 WS Q SF h k n pc Ls (.int z :: .int x :: st) :=
  Go.plain (fun p e below T m c target hA hx hb hk => XS.irem hA hx rfl (hb ▸ hd) rfl hz (by rw [show x - x / z * z = x % z from irem_eq_mod x z]; subst hq; exact hk)) K
theorem Go.idiv {x z : Int32} (hd : decode bytes pc = .ok (.idiv, 1)) (hq : pc + 1 = pc') (hz : z ≠ 0) (K : Go l Z EL n0 nr kn y bytes mL ret R h0 WS Q SF h k n pc' Ls (.int (x / z) :: st)) : Go l Z EL n0 nr kn y bytes mL ret R h0 WS Q SF h k n pc Ls (.int z :: .int x :: st) :=
  Go.plain (fun p e below T m c target hA hx hb hk => XS.idiv hA hx rfl (hb ▸ hd) rfl hz (by subst hq; exact hk)) K
theorem Go.goto {o : Int} (hd : decode bytes pc = .ok (.goto o, 3)) (ho : 0 ≤ (pc : Int) + o) (hq : ((pc : Int) + o).toNat = pc') (K : Go l Z EL n0 nr kn y bytes mL ret R h0 WS Q SF h k n pc' Ls st) : Go l Z EL n0 nr kn y bytes mL ret R h0 WS Q SF h k n pc Ls st :=
  Go.plain (fun p e below T m c target hA hx hb hk => XS.goto hA hx rfl (pc0 := pc) (pc' := pc') rfl (hb ▸ hd) ho hq hk) K
theorem Go.ifY {cd : ClassFile.Cond} {x : Int32} {o : Int} (hd : decode bytes pc = .ok (.ifCond cd o, 3)) (ho : 0 ≤ (pc : Int) + o) (hq : ((pc : Int) + o).toNat = pc') (hc : ifCond.holds cd x = true) (K : Go l Z EL n0 nr kn y bytes mL ret R h0 WS Q SF h k n pc' Ls st) : Go l Z EL n0 nr kn y bytes mL ret R h0 WS Q SF h k n pc Ls (.int x :: st) :=
  Go.plain (fun p e below T m c target hA hx hb hk => XS.ifYes hA hx rfl (pc0 := pc) (pc' := pc') rfl (hb ▸ hd) rfl hc ho hq hk) K
theorem Go.icmpY {cd : ClassFile.Cond} {x z : Int32} {o : Int} (hd : decode bytes pc = .ok (.if_icmp cd o, 3)) (ho : 0 ≤ (pc : Int) + o) (hq : ((pc : Int) + o).toNat = pc') (hc : if_icmp.holds cd x z = true) (K : Go l Z EL n0 nr kn y bytes mL ret R h0 WS Q SF h k n pc' Ls st) : Go l Z EL n0 nr kn y bytes mL ret R h0 WS Q SF h k n pc Ls (.int z :: .int x :: st) :=
  Go.plain (fun p e below T m c target hA hx hb hk => XS.icmpYes hA hx rfl (pc0 := pc) (pc' := pc') rfl (hb ▸ hd) rfl hc ho hq hk) K
theorem Go.ifnullY {o : Int} (hd : decode bytes pc = .ok (.ifnull o, 3)) (ho : 0 ≤ (pc : Int) + o) (hq : ((pc : Int) + o).toNat = pc') (K : Go l Z EL n0 nr kn y bytes mL ret R h0 WS Q SF h k n pc' Ls st) : Go l Z EL n0 nr kn y bytes mL ret R h0 WS Q SF h k n pc Ls (.null :: st) :=
  Go.plain (fun p e below T m c target hA hx hb hk => XS.ifnullYes hA hx rfl (pc0 := pc) (pc' := pc') rfl (hb ▸ hd) rfl ho hq hk) K
theorem Go.ifnonnullY {b : Addr} {o : Int} (hd : decode bytes pc = .ok (.ifnonnull o, 3)) (ho : 0 ≤ (pc : Int) + o) (hq : ((pc : Int) + o).toNat = pc') (K : Go l Z EL n0 nr kn y bytes mL ret R h0 WS Q SF h k n pc' Ls st) : Go l Z EL n0 nr kn y bytes mL ret R h0 WS Q SF h k n pc Ls (.ref b :: st) :=
  Go.plain (fun p e below T m c target hA hx hb hk => XS.ifnonnullYes hA hx rfl (pc0 := pc) (pc' := pc') rfl (hb ▸ hd) rfl ho hq hk) K
theorem Go.ifN {cd : ClassFile.Cond} {o : Int} {x : Int32} (hd : decode bytes pc = .ok (.ifCond cd o, 3)) (hq : pc + 3 = pc') (hc : ifCond.holds cd x = false) (K : Go l Z EL n0 nr kn y bytes mL ret R h0 WS Q SF h k n pc' Ls st) : Go l Z EL n0 nr kn y bytes mL ret R h0 WS Q SF h k n pc Ls (.int x :: st) :=
  Go.plain (fun p e below T m c target hA hx hb hk => XS.ifNo hA hx rfl (hb ▸ hd) rfl hc (by subst hq; exact hk)) K
theorem Go.icmpN {cd : ClassFile.Cond} {o : Int} {x z : Int32} (hd : decode bytes pc = .ok (.if_icmp cd o, 3)) (hq : pc + 3 = pc') (hc : if_icmp.holds cd x z = false) (K : Go l Z EL n0 nr kn y bytes mL ret R h0 WS Q SF h k n pc' Ls st) : Go l Z EL n0 nr kn y bytes mL ret R h0 WS Q SF h k n pc Ls (.int z :: .int x :: st) :=
  Go.plain (fun p e below T m c target hA hx hb hk => XS.icmpNo hA hx rfl (hb ▸ hd) rfl hc (by subst hq; exact hk)) K
theorem Go.ifnullN {o : Int} {b : Addr} (hd : decode bytes pc = .ok (.ifnull o, 3)) (hq : pc + 3 = pc') (K : Go l Z EL n0 nr kn y bytes mL ret R h0 WS Q SF h k n pc' Ls st) : Go l Z EL n0 nr kn y bytes mL ret R h0 WS Q SF h k n pc Ls (.ref b :: st) :=
  Go.plain (fun p e below T m c target hA hx hb hk => XS.ifnullNo hA hx rfl (hb ▸ hd) rfl (by subst hq; exact hk)) K
theorem Go.ifnonnullN {o : Int} (hd : decode bytes pc = .ok (.ifnonnull o, 3)) (hq : pc + 3 = pc') (K : Go l Z EL n0 nr kn y bytes mL ret R h0 WS Q SF h k n pc' Ls st) : Go l Z EL n0 nr kn y bytes mL ret R h0 WS Q SF h k n pc Ls (.null :: st) :=
  Go.plain (fun p e below T m c target hA hx hb hk => XS.ifnonnullNo hA hx rfl (hb ▸ hd) rfl (by subst hq; exact hk)) K
theorem Go.acmp {cd : ACond} {v u : Value} {o : Int} {same : Bool} (hd : decode bytes pc = .ok (.if_acmp cd o, 3)) (hv : v.isRef = true) (hu : u.isRef = true) (hs : decide (v = u) = same) (ho : 0 ≤ (pc : Int) + o) (hq : pc' = if acV cd same = true then ((pc : Int) + o).toNat else pc + 3) (K : Go l Z EL n0 nr kn y bytes mL ret R h0 WS Q SF h k n pc' Ls st) : Go l Z EL n0 nr kn y bytes mL ret R h0 WS Q SF h k n pc Ls (u :: v :: st) := by
  intro p e s m args below meth c T hR
  obtain ⟨t, o, hs', r⟩ := K p e s m args below meth c T hR
  obtain ⟨⟨hx, hb, -⟩, vm0, k0, locs, X, -⟩ := hR
  exact ⟨t, o, Jvm.RoadKit.acmp (g := mkF m pc Ls (u :: v :: st)) X hx rfl hv hu (pc0 := pc) (pc' := pc') (same := same) rfl (hb ▸ hd) rfl hs ho hq hs', r⟩
theorem Go.getF {R0 O nf d host : String} {index : Nat} {a : Addr} {v : Value} (hd : decode bytes pc = .ok (.getfield index, 3)) (hq : pc + 3 = pc') (w : (Jvm.Cond.fieldLink y.cls index R0 nf d).before a0 Z = true ∨ (Jvm.Cond.fieldLinkNest y.cls index R0 nf d host).before a0 Z = true) (via : Via Z R0 O nf d) (F : Fld Z h a O nf d v) (K : Go l Z EL n0 nr kn y bytes mL ret R h0 WS Q SF h k n pc' Ls (v :: st)) : Go l Z EL n0 nr kn y bytes mL ret R h0 WS Q SF h k n pc Ls (.ref a :: st) := by
  intro p e s m args below meth c T hR
  obtain ⟨⟨hx, hby, hml, hown, hnm, hret, hlk, hkn⟩, vm0, k0, locs, X, e0, C⟩ := hR
  have hZ : Z.Warmed39 (s.setVm vm0).vm := C.1
  have hown' : (s.setVm vm0).vm.findClass y.cls = some m.cls := by rw [show (s.setVm vm0).vm = vm0 from rfl, C.2.1.1.1.alike.findClass]; exact hown
  obtain ⟨T', X', e', st'⟩ := Jvm.RoadKit.getF X hx hZ hown' w via e0 F (g := mkF m pc Ls (.ref a :: st)) rfl rfl (hb hby hd)
  obtain ⟨t, o, hs, r⟩ := K p e s m args below meth c T' ⟨⟨hx, hby, hml, hown, hnm, hret, hlk, hkn⟩, vm0, k0, locs, X', e', C⟩
  exact ⟨t, o, st' _ (by subst hq; exact hs), r⟩
theorem Go.getS {R0 O nf d host : String} {index : Nat} {v : Value} (hd : decode bytes pc = .ok (.getstatic index, 3)) (hq : pc + 3 = pc') (w : (Jvm.Cond.fieldLink y.cls index R0 nf d).before a0 Z = true ∨ (Jvm.Cond.fieldLinkNest y.cls index R0 nf d host).before a0 Z = true) (via : Via Z R0 O nf d) (F : Sta Z Z.heap O nf d v) (K : Go l Z EL n0 nr kn y bytes mL ret R h0 WS Q SF h k n pc' Ls (v :: st)) : Go l Z EL n0 nr kn y bytes mL ret R h0 WS Q SF h k n pc Ls st := by
  intro p e s m args below meth c T hR
  obtain ⟨⟨hx, hby, hml, hown, hnm, hret, hlk, hkn⟩, vm0, k0, locs, X, e0, C⟩ := hR
  have hZ : Z.Warmed39 (s.setVm vm0).vm := C.1
  have hown' : (s.setVm vm0).vm.findClass y.cls = some m.cls := by rw [show (s.setVm vm0).vm = vm0 from rfl, C.2.1.1.1.alike.findClass]; exact hown
  obtain ⟨T', X', e', st'⟩ := Jvm.RoadKit.getS2 X hx hZ hown' w via e0 (F.ext C.2.2.2.2.2.2.1.2) (g := mkF m pc Ls st) rfl (hb hby hd)
  obtain ⟨t, o, hs, r⟩ := K p e s m args below meth c T' ⟨⟨hx, hby, hml, hown, hnm, hret, hlk, hkn⟩, vm0, k0, locs, X', e', C⟩
  exact ⟨t, o, st' _ (by subst hq; exact hs), r⟩
theorem Go.castY {D : String} {index : Nat} {a : Addr} (hd : decode bytes pc = .ok (.checkcast index, 3)) (hq : pc + 3 = pc') (w : (Jvm.Cond.classLink y.cls index D).before a0 Z = true) (F : Ins Z h a D true) (K : Go l Z EL n0 nr kn y bytes mL ret R h0 WS Q SF h k n pc' Ls (.ref a :: st)) : Go l Z EL n0 nr kn y bytes mL ret R h0 WS Q SF h k n pc Ls (.ref a :: st) := by
  intro p e s m args below meth c T hR
  obtain ⟨⟨hx, hby, hml, hown, hnm, hret, hlk, hkn⟩, vm0, k0, locs, X, e0, C⟩ := hR
  have hZ : Z.Warmed39 (s.setVm vm0).vm := C.1
  have hown' : (s.setVm vm0).vm.findClass y.cls = some m.cls := by rw [show (s.setVm vm0).vm = vm0 from rfl, C.2.1.1.1.alike.findClass]; exact hown
  obtain ⟨T', X', e', st'⟩ := Jvm.RoadKit.castY X hx hZ hown' w e0 F (g := mkF m pc Ls (.ref a :: st)) rfl rfl (hb hby hd)
  obtain ⟨t, o, hs, r⟩ := K p e s m args below meth c T' ⟨⟨hx, hby, hml, hown, hnm, hret, hlk, hkn⟩, vm0, k0, locs, X', e', C⟩
  exact ⟨t, o, st' _ (by subst hq; exact hs), r⟩
theorem Go.instY {D : String} {index : Nat} {a : Addr} (hd : decode bytes pc = .ok (.instanceof index, 3)) (hq : pc + 3 = pc') (w : (Jvm.Cond.classLink y.cls index D).before a0 Z = true) (F : Ins Z h a D true) (K : Go l Z EL n0 nr kn y bytes mL ret R h0 WS Q SF h k n pc' Ls (.int 1 :: st)) : Go l Z EL n0 nr kn y bytes mL ret R h0 WS Q SF h k n pc Ls (.ref a :: st) := by
  intro p e s m args below meth c T hR
  obtain ⟨⟨hx, hby, hml, hown, hnm, hret, hlk, hkn⟩, vm0, k0, locs, X, e0, C⟩ := hR
  have hZ : Z.Warmed39 (s.setVm vm0).vm := C.1
  have hown' : (s.setVm vm0).vm.findClass y.cls = some m.cls := by rw [show (s.setVm vm0).vm = vm0 from rfl, C.2.1.1.1.alike.findClass]; exact hown
  obtain ⟨T', X', e', st'⟩ := Jvm.RoadKit.instY X hx hZ hown' w e0 F (g := mkF m pc Ls (.ref a :: st)) rfl rfl (hb hby hd)
  obtain ⟨t, o, hs, r⟩ := K p e s m args below meth c T' ⟨⟨hx, hby, hml, hown, hnm, hret, hlk, hkn⟩, vm0, k0, locs, X', e', C⟩
  exact ⟨t, o, st' _ (by subst hq; exact hs), r⟩
theorem Go.instNo {D CC : String} {index : Nat} {a : Addr} (hd : decode bytes pc = .ok (.instanceof index, 3)) (hq : pc + 3 = pc') (w : (Jvm.Cond.classLink y.cls index D).before a0 Z = true) (E : Exa Z h a CC) (F : ∃ c t, Z.vm.findClass CC = some c ∧ Z.vm.findClass D = some t ∧ Z.vm.assignable c t = false) (K : Go l Z EL n0 nr kn y bytes mL ret R h0 WS Q SF h k n pc' Ls (.int 0 :: st)) : Go l Z EL n0 nr kn y bytes mL ret R h0 WS Q SF h k n pc Ls (.ref a :: st) := by
  intro p e s m args below meth c T hR
  obtain ⟨⟨hx, hby, hml, hown, hnm, hret, hlk, hkn⟩, vm0, k0, locs, X, e0, C⟩ := hR
  have hZ : Z.Warmed39 (s.setVm vm0).vm := C.1
  have hown' : (s.setVm vm0).vm.findClass y.cls = some m.cls := by rw [show (s.setVm vm0).vm = vm0 from rfl, C.2.1.1.1.alike.findClass]; exact hown
  obtain ⟨T', X', e', st'⟩ := Jvm.RoadKit.instNo X hx hZ hown' w e0 E F (g := mkF m pc Ls (.ref a :: st)) rfl rfl (hb hby hd)
  obtain ⟨t, o, hs, r⟩ := K p e s m args below meth c T' ⟨⟨hx, hby, hml, hown, hnm, hret, hlk, hkn⟩, vm0, k0, locs, X', e', C⟩
  exact ⟨t, o, st' _ (by subst hq; exact hs), r⟩
theorem Go.initO {index W : Nat} {a : Addr} (hd : decode bytes pc = .ok (.invokespecial index, 3)) (hq : pc + 3 = pc') (w1 : (Jvm.Cond.methodLink y.cls index Lib.objectInit).before a0 Z = true) (w2 : (Jvm.Cond.instanceMethod Lib.objectInit).before a0 Z = true) (w3 : (Jvm.Cond.code Lib.objectInit ⟨#[0xb1]⟩ 1 none).before a0 Z = true) (hsz : Ls.size = mL) (hf : 1 ≤ R.frames) (hW : (st.map fun v => v.category).sum ≤ W) (hl : W + 12 ≤ R.locals) (K : Go l Z EL n0 nr kn y bytes mL ret R h0 WS Q SF h k n pc' Ls st) : Go l Z EL n0 nr kn y bytes mL ret R h0 WS Q SF h k n pc Ls (.ref a :: st) := by
  intro p e s m args below meth c T hR
  obtain ⟨⟨hx, hby, hml, hown, hnm, hret, hlk, hkn⟩, vm0, k0, locs, X, e0, C⟩ := hR
  have hZ : Z.Warmed39 (s.setVm vm0).vm := C.1
  have hown' : (s.setVm vm0).vm.findClass y.cls = some m.cls := by rw [show (s.setVm vm0).vm = vm0 from rfl, C.2.1.1.1.alike.findClass]; exact hown
  obtain ⟨T', X', e', st'⟩ := Jvm.RoadKit.initO X hx hZ hown' w1 w2 w3 e0 (g := mkF m pc Ls (.ref a :: st)) rfl (by rw [hml]; exact hsz) rfl (hb hby hd) hf (W := W) (by show 2 * 0 + _ ≤ _; rw [Nat.mul_zero, Nat.zero_add]; exact hW) hl
  obtain ⟨t, o, hs, r⟩ := K p e s m args below meth c T' ⟨⟨hx, hby, hml, hown, hnm, hret, hlk, hkn⟩, vm0, k0, locs, X', e', C⟩
  exact ⟨t, o, st' _ (by subst hq; exact hs), r⟩
theorem Go.gcls {index W : Nat} {CC : String} {a mr : Addr} (hd : decode bytes pc = .ok (.invokevirtual index, 3)) (hq : pc + 3 = pc') (w1 : (Jvm.Cond.methodLink y.cls index ⟨"java/lang/Object", "getClass", "()Ljava/lang/Class;"⟩).before a0 Z = true) (w2 : (Jvm.Cond.declares ⟨"java/lang/Object", "getClass", "()Ljava/lang/Class;"⟩).before a0 Z = true) (w3 : (Jvm.Cond.noSuperclass "java/lang/Object").before a0 Z = true) (w4 : (Jvm.Cond.selects CC ⟨"java/lang/Object", "getClass", "()Ljava/lang/Class;"⟩ ⟨"java/lang/Object", "getClass", "()Ljava/lang/Class;"⟩).before a0 Z = true)
    (w5 : (Jvm.Cond.instanceMethod ⟨"java/lang/Object", "getClass", "()Ljava/lang/Class;"⟩).before a0 Z = true) (w6 : (Jvm.Cond.native ⟨"java/lang/Object", "getClass", "()Ljava/lang/Class;"⟩).before a0 Z = true) (E : Exa Z h a CC) (M : Mr Z CC mr) (hsz : Ls.size = mL) (hf : 1 ≤ R.frames) (hW : (st.map fun v => v.category).sum ≤ W) (hl : W + (nativeFrameWords "java/lang/Object" "getClass" 1 + 11) ≤ R.locals) (K : Go l Z EL n0 nr kn y bytes mL ret R h0 WS Q SF h k n pc' Ls (.ref mr :: st)) : Go l Z EL n0 nr kn y bytes mL ret R h0 WS Q SF h k n pc Ls (.ref a :: st) := by
  intro p e s m args below meth c T hR
  obtain ⟨⟨hx, hby, hml, hown, hnm, hret, hlk, hkn⟩, vm0, k0, locs, X, e0, C⟩ := hR
  have hZ : Z.Warmed39 (s.setVm vm0).vm := C.1
  have hown' : (s.setVm vm0).vm.findClass y.cls = some m.cls := by rw [show (s.setVm vm0).vm = vm0 from rfl, C.2.1.1.1.alike.findClass]; exact hown
  obtain ⟨cB, kB, i1, i2, i3⟩ := isOf hZ e0 E
  obtain ⟨cc, kc, m1, m2, m3⟩ := M
  rw [hZ.alike.findClass] at i1
  cases i1.symm.trans m1
  obtain ⟨k', q, ek⟩ := hZ.alike.2.2 _ _ m2
  obtain ⟨vm', X', st'⟩ := X.getClassOf hx hown' (mvT hZ w1) (mvT hZ w2) (nf_top (args := #[]) (mvT hZ w3)) (mvT hZ w4) (mvT hZ w5) (mvT hZ w6) (by rw [hZ.alike.findClass]; exact m1) i3 q (by rw [ek]; exact m3) (g := mkF m pc Ls (.ref a :: st)) rfl (by rw [hml]; exact hsz) rfl (hb hby hd) hf (by show 2 * 0 + _ + _ ≤ _; omega)
  obtain ⟨t, o, hs, r⟩ := K p e s m args below meth c _ ⟨⟨hx, hby, hml, hown, hnm, hret, hlk, hkn⟩, vm0, k0, locs, X', e0, C⟩
  exact ⟨t, o, st' _ (by subst hq; exact hs), r⟩
theorem Go.ldcM {index : Nat} {CC : String} {mr : Addr} (hd : decode bytes pc = .ok (.ldc index, 2)) (hq : pc + 2 = pc') (w : (Jvm.Cond.classLink y.cls index CC).before a0 Z = true) (M : Mr Z CC mr) (K : Go l Z EL n0 nr kn y bytes mL ret R h0 WS Q SF h k n pc' Ls (.ref mr :: st)) : Go l Z EL n0 nr kn y bytes mL ret R h0 WS Q SF h k n pc Ls st := by
  intro p e s m args below meth c T hR
  obtain ⟨⟨hx, hby, hml, hown, hnm, hret, hlk, hkn⟩, vm0, k0, locs, X, e0, C⟩ := hR
  have hZ : Z.Warmed39 (s.setVm vm0).vm := C.1
  have hown' : (s.setVm vm0).vm.findClass y.cls = some m.cls := by rw [show (s.setVm vm0).vm = vm0 from rfl, C.2.1.1.1.alike.findClass]; exact hown
  obtain ⟨cc, kc, m1, m2, m3⟩ := M
  obtain ⟨k', q, ek⟩ := hZ.alike.2.2 _ _ m2
  have hev : (Term.mirror CC).eval args (s.setVm vm0) none [] (s.setVm vm0) = some (.ref mr) := by
    have q1 : (s.setVm vm0).vm.findClass CC = some cc := by rw [hZ.alike.findClass]; exact m1
    have q2 : k'.mirror = some mr := by rw [ek]; exact m3
    simp only [Term.eval, q1, q, q2, Option.bind_eq_bind, Option.bind_some, Option.pure_def]
  obtain ⟨vm', X', st'⟩ := X.ldcMirror hx hown' (mvT hZ w) hev (g := mkF m pc Ls st) rfl (hb hby hd)
  obtain ⟨t, o, hs, r⟩ := K p e s m args below meth c _ ⟨⟨hx, hby, hml, hown, hnm, hret, hlk, hkn⟩, vm0, k0, locs, X', e0, C⟩
  exact ⟨t, o, st' _ (by subst hq; exact hs), r⟩
theorem Go.ldcInt {index : Nat} {v : Int32} (hd : decode bytes pc = .ok (.ldc index, 2)) (hq : pc + 2 = pc') (w : (Jvm.Cond.constant y.cls index v).before a0 Z = true) (K : Go l Z EL n0 nr kn y bytes mL ret R h0 WS Q SF h k n pc' Ls (.int v :: st)) : Go l Z EL n0 nr kn y bytes mL ret R h0 WS Q SF h k n pc Ls st := by
  intro p e s m args below meth c T hR
  obtain ⟨⟨hx, hby, hml, hown, hnm, hret, hlk, hkn⟩, vm0, k0, locs, X, e0, C⟩ := hR
  have hZ : Z.Warmed39 (s.setVm vm0).vm := C.1
  have hown' : (s.setVm vm0).vm.findClass y.cls = some m.cls := by rw [show (s.setVm vm0).vm = vm0 from rfl, C.2.1.1.1.alike.findClass]; exact hown
  obtain ⟨t, o, hs, r⟩ := K p e s m args below meth c T ⟨⟨hx, hby, hml, hown, hnm, hret, hlk, hkn⟩, vm0, k0, locs, X, e0, C⟩
  exact ⟨t, o, X.ldcInt hx hown' (mvT hZ w) (g := mkF m pc Ls st) rfl (hb hby hd) _ (by subst hq; exact hs), r⟩
theorem Go.ldc2Long {index : Nat} {v : Int64} (hd : decode bytes pc = .ok (.ldc2_w index, 3)) (hq : pc + 3 = pc') (w : (Jvm.Cond.constantLong y.cls index v).before a0 Z = true) (K : Go l Z EL n0 nr kn y bytes mL ret R h0 WS Q SF h k n pc' Ls (.long v :: st)) : Go l Z EL n0 nr kn y bytes mL ret R h0 WS Q SF h k n pc Ls st := by
  intro p e s m args below meth c T hR
  obtain ⟨⟨hx, hby, hml, hown, hnm, hret, hlk, hkn⟩, vm0, k0, locs, X, e0, C⟩ := hR
  have hZ : Z.Warmed39 (s.setVm vm0).vm := C.1
  have hown' : (s.setVm vm0).vm.findClass y.cls = some m.cls := by rw [show (s.setVm vm0).vm = vm0 from rfl, C.2.1.1.1.alike.findClass]; exact hown
  obtain ⟨t, o, hs, r⟩ := K p e s m args below meth c T ⟨⟨hx, hby, hml, hown, hnm, hret, hlk, hkn⟩, vm0, k0, locs, X, e0, C⟩
  exact ⟨t, o, X.ldc2Long hx hown' (mvT hZ w) (g := mkF m pc Ls st) rfl (hb hby hd) _ (by subst hq; exact hs), r⟩
theorem Go.arraylength {a : Addr} {cl : Cell} {ty : FieldType} {z : Int32} (hd : decode bytes pc = .ok (.arraylength, 1)) (hq : pc + 1 = pc') (F : Arr Z h a cl ty) (hz : cl.slots.size.toInt32 = z) (K : Go l Z EL n0 nr kn y bytes mL ret R h0 WS Q SF h k n pc' Ls (.int z :: st)) : Go l Z EL n0 nr kn y bytes mL ret R h0 WS Q SF h k n pc Ls (.ref a :: st) := by
  intro p e s m args below meth c T hR
  obtain ⟨⟨hx, hby, hml, hown, hnm, hret, hlk, hkn⟩, vm0, k0, locs, X, e0, C⟩ := hR
  have hZ : Z.Warmed39 (s.setVm vm0).vm := C.1
  have hown' : (s.setVm vm0).vm.findClass y.cls = some m.cls := by rw [show (s.setVm vm0).vm = vm0 from rfl, C.2.1.1.1.alike.findClass]; exact hown
  obtain ⟨t, o, hs, r⟩ := K p e s m args below meth c T ⟨⟨hx, hby, hml, hown, hnm, hret, hlk, hkn⟩, vm0, k0, locs, X, e0, C⟩
  exact ⟨t, o, X.arraylength hx (by rw [e0]; exact F.1) (State.isArrayOf_alike hZ.alike F.2.1) (g := mkF m pc Ls (.ref a :: st)) rfl rfl (hb hby hd) _ (by subst hq; rw [hz]; exact hs), r⟩
theorem Go.lenV {a : Addr} {kk : ClassId} {ty : FieldType} {z : Int32} {vs : List Value} {dv : Value} (hd : decode bytes pc = .ok (.arraylength, 1)) (hq : pc + 1 = pc') (F : Arv Z h a kk ty z vs dv) (K : Go l Z EL n0 nr kn y bytes mL ret R h0 WS Q SF h k n pc' Ls (.int z :: st)) : Go l Z EL n0 nr kn y bytes mL ret R h0 WS Q SF h k n pc Ls (.ref a :: st) := by
  intro p e s m args below meth c T hR
  obtain ⟨⟨hx, hby, hml, hown, hnm, hret, hlk, hkn⟩, vm0, k0, locs, X, e0, C⟩ := hR
  have hZ : Z.Warmed39 (s.setVm vm0).vm := C.1
  have hown' : (s.setVm vm0).vm.findClass y.cls = some m.cls := by rw [show (s.setVm vm0).vm = vm0 from rfl, C.2.1.1.1.alike.findClass]; exact hown
  obtain ⟨cl, F, -, S, N, -, -⟩ := F
  obtain ⟨t, o, hs, r⟩ := K p e s m args below meth c T ⟨⟨hx, hby, hml, hown, hnm, hret, hlk, hkn⟩, vm0, k0, locs, X, e0, C⟩
  exact ⟨t, o, X.arraylength hx (by rw [e0]; exact F.1) (State.isArrayOf_alike hZ.alike F.2.1) (g := mkF m pc Ls (.ref a :: st)) rfl rfl (hb hby hd) _ (by subst hq; rw [len_of S N]; exact hs), r⟩
theorem Go.caload {a : Addr} {cl : Cell} {j : Int32} {v : Value} (hd : decode bytes pc = .ok (.caload, 1)) (hq : pc + 1 = pc') (F : Arr Z h a cl .char) (hin : ¬ (j < 0 ∨ cl.slots.size ≤ j.toNatClampNeg)) (hv : cl.slots[j.toNatClampNeg]? = some v) (K : Go l Z EL n0 nr kn y bytes mL ret R h0 WS Q SF h k n pc' Ls (v :: st)) : Go l Z EL n0 nr kn y bytes mL ret R h0 WS Q SF h k n pc Ls (.int j :: .ref a :: st) := by
  intro p e s m args below meth c T hR
  obtain ⟨⟨hx, hby, hml, hown, hnm, hret, hlk, hkn⟩, vm0, k0, locs, X, e0, C⟩ := hR
  have hZ : Z.Warmed39 (s.setVm vm0).vm := C.1
  have hown' : (s.setVm vm0).vm.findClass y.cls = some m.cls := by rw [show (s.setVm vm0).vm = vm0 from rfl, C.2.1.1.1.alike.findClass]; exact hown
  obtain ⟨t, o, hs, r⟩ := K p e s m args below meth c T ⟨⟨hx, hby, hml, hown, hnm, hret, hlk, hkn⟩, vm0, k0, locs, X, e0, C⟩
  exact ⟨t, o, X.caload hx (by rw [e0]; exact F.1) (State.isArrayOf_alike hZ.alike F.2.1) F.2.2 hin hv (g := mkF m pc Ls (.int j :: .ref a :: st)) rfl rfl (hb hby hd) _ (by subst hq; exact hs), r⟩
theorem Go.caloadV {a : Addr} {kk : ClassId} {z j : Int32} {vs : List Value} {v dv : Value} (hd : decode bytes pc = .ok (.caload, 1)) (hq : pc + 1 = pc') (F : Arv Z h a kk .char z vs dv) (hj : ¬ j < 0 ∧ j < z) (hv : vs.getD j.toNatClampNeg dv = v) (K : Go l Z EL n0 nr kn y bytes mL ret R h0 WS Q SF h k n pc' Ls (v :: st)) : Go l Z EL n0 nr kn y bytes mL ret R h0 WS Q SF h k n pc Ls (.int j :: .ref a :: st) := by
  intro p e s m args below meth c T hR
  obtain ⟨⟨hx, hby, hml, hown, hnm, hret, hlk, hkn⟩, vm0, k0, locs, X, e0, C⟩ := hR
  have hZ : Z.Warmed39 (s.setVm vm0).vm := C.1
  have hown' : (s.setVm vm0).vm.findClass y.cls = some m.cls := by rw [show (s.setVm vm0).vm = vm0 from rfl, C.2.1.1.1.alike.findClass]; exact hown
  obtain ⟨cl, F, -, S, N, H, -⟩ := F
  have hin := inb_of S hj
  have hv := Has.at H hin hv
  obtain ⟨t, o, hs, r⟩ := K p e s m args below meth c T ⟨⟨hx, hby, hml, hown, hnm, hret, hlk, hkn⟩, vm0, k0, locs, X, e0, C⟩
  exact ⟨t, o, X.caload hx (by rw [e0]; exact F.1) (State.isArrayOf_alike hZ.alike F.2.1) F.2.2 hin hv (g := mkF m pc Ls (.int j :: .ref a :: st)) rfl rfl (hb hby hd) _ (by subst hq; exact hs), r⟩
theorem Go.baload {a : Addr} {cl : Cell} {j : Int32} {v : Value} (hd : decode bytes pc = .ok (.baload, 1)) (hq : pc + 1 = pc') (F : Arr Z h a cl .byte) (hin : ¬ (j < 0 ∨ cl.slots.size ≤ j.toNatClampNeg)) (hv : cl.slots[j.toNatClampNeg]? = some v) (K : Go l Z EL n0 nr kn y bytes mL ret R h0 WS Q SF h k n pc' Ls (v :: st)) : Go l Z EL n0 nr kn y bytes mL ret R h0 WS Q SF h k n pc Ls (.int j :: .ref a :: st) := by
  intro p e s m args below meth c T hR
  obtain ⟨⟨hx, hby, hml, hown, hnm, hret, hlk, hkn⟩, vm0, k0, locs, X, e0, C⟩ := hR
  have hZ : Z.Warmed39 (s.setVm vm0).vm := C.1
  have hown' : (s.setVm vm0).vm.findClass y.cls = some m.cls := by rw [show (s.setVm vm0).vm = vm0 from rfl, C.2.1.1.1.alike.findClass]; exact hown
  obtain ⟨t, o, hs, r⟩ := K p e s m args below meth c T ⟨⟨hx, hby, hml, hown, hnm, hret, hlk, hkn⟩, vm0, k0, locs, X, e0, C⟩
  exact ⟨t, o, X.baloadBytes hx (by rw [e0]; exact F.1) (State.isArrayOf_alike hZ.alike F.2.1) F.2.2 hin hv (g := mkF m pc Ls (.int j :: .ref a :: st)) rfl rfl (hb hby hd) _ (by subst hq; exact hs), r⟩
theorem Go.baloadV {a : Addr} {kk : ClassId} {z j : Int32} {vs : List Value} {v dv : Value} (hd : decode bytes pc = .ok (.baload, 1)) (hq : pc + 1 = pc') (F : Arv Z h a kk .byte z vs dv) (hj : ¬ j < 0 ∧ j < z) (hv : vs.getD j.toNatClampNeg dv = v) (K : Go l Z EL n0 nr kn y bytes mL ret R h0 WS Q SF h k n pc' Ls (v :: st)) : Go l Z EL n0 nr kn y bytes mL ret R h0 WS Q SF h k n pc Ls (.int j :: .ref a :: st) := by
  intro p e s m args below meth c T hR
  obtain ⟨⟨hx, hby, hml, hown, hnm, hret, hlk, hkn⟩, vm0, k0, locs, X, e0, C⟩ := hR
  have hZ : Z.Warmed39 (s.setVm vm0).vm := C.1
  have hown' : (s.setVm vm0).vm.findClass y.cls = some m.cls := by rw [show (s.setVm vm0).vm = vm0 from rfl, C.2.1.1.1.alike.findClass]; exact hown
  obtain ⟨cl, F, -, S, N, H, -⟩ := F
  have hin := inb_of S hj
  have hv := Has.at H hin hv
  obtain ⟨t, o, hs, r⟩ := K p e s m args below meth c T ⟨⟨hx, hby, hml, hown, hnm, hret, hlk, hkn⟩, vm0, k0, locs, X, e0, C⟩
  exact ⟨t, o, X.baloadBytes hx (by rw [e0]; exact F.1) (State.isArrayOf_alike hZ.alike F.2.1) F.2.2 hin hv (g := mkF m pc Ls (.int j :: .ref a :: st)) rfl rfl (hb hby hd) _ (by subst hq; exact hs), r⟩
theorem Go.iaload {a : Addr} {cl : Cell} {j : Int32} {v : Value} (hd : decode bytes pc = .ok (.iaload, 1)) (hq : pc + 1 = pc') (F : Arr Z h a cl .int) (hin : ¬ (j < 0 ∨ cl.slots.size ≤ j.toNatClampNeg)) (hv : cl.slots[j.toNatClampNeg]? = some v) (K : Go l Z EL n0 nr kn y bytes mL ret R h0 WS Q SF h k n pc' Ls (v :: st)) : Go l Z EL n0 nr kn y bytes mL ret R h0 WS Q SF h k n pc Ls (.int j :: .ref a :: st) := by
  intro p e s m args below meth c T hR
  obtain ⟨⟨hx, hby, hml, hown, hnm, hret, hlk, hkn⟩, vm0, k0, locs, X, e0, C⟩ := hR
  have hZ : Z.Warmed39 (s.setVm vm0).vm := C.1
  have hown' : (s.setVm vm0).vm.findClass y.cls = some m.cls := by rw [show (s.setVm vm0).vm = vm0 from rfl, C.2.1.1.1.alike.findClass]; exact hown
  obtain ⟨t, o, hs, r⟩ := K p e s m args below meth c T ⟨⟨hx, hby, hml, hown, hnm, hret, hlk, hkn⟩, vm0, k0, locs, X, e0, C⟩
  exact ⟨t, o, X.iaload hx (by rw [e0]; exact F.1) (State.isArrayOf_alike hZ.alike F.2.1) F.2.2 hin hv (g := mkF m pc Ls (.int j :: .ref a :: st)) rfl rfl (hb hby hd) _ (by subst hq; exact hs), r⟩
theorem Go.ialoadV {a : Addr} {kk : ClassId} {z j : Int32} {vs : List Value} {v dv : Value} (hd : decode bytes pc = .ok (.iaload, 1)) (hq : pc + 1 = pc') (F : Arv Z h a kk .int z vs dv) (hj : ¬ j < 0 ∧ j < z) (hv : vs.getD j.toNatClampNeg dv = v) (K : Go l Z EL n0 nr kn y bytes mL ret R h0 WS Q SF h k n pc' Ls (v :: st)) : Go l Z EL n0 nr kn y bytes mL ret R h0 WS Q SF h k n pc Ls (.int j :: .ref a :: st) := by
  intro p e s m args below meth c T hR
  obtain ⟨⟨hx, hby, hml, hown, hnm, hret, hlk, hkn⟩, vm0, k0, locs, X, e0, C⟩ := hR
  have hZ : Z.Warmed39 (s.setVm vm0).vm := C.1
  have hown' : (s.setVm vm0).vm.findClass y.cls = some m.cls := by rw [show (s.setVm vm0).vm = vm0 from rfl, C.2.1.1.1.alike.findClass]; exact hown
  obtain ⟨cl, F, -, S, N, H, -⟩ := F
  have hin := inb_of S hj
  have hv := Has.at H hin hv
  obtain ⟨t, o, hs, r⟩ := K p e s m args below meth c T ⟨⟨hx, hby, hml, hown, hnm, hret, hlk, hkn⟩, vm0, k0, locs, X, e0, C⟩
  exact ⟨t, o, X.iaload hx (by rw [e0]; exact F.1) (State.isArrayOf_alike hZ.alike F.2.1) F.2.2 hin hv (g := mkF m pc Ls (.int j :: .ref a :: st)) rfl rfl (hb hby hd) _ (by subst hq; exact hs), r⟩
theorem Go.aaload {ty : FieldType} {a : Addr} {cl : Cell} {j : Int32} {v : Value} (hd : decode bytes pc = .ok (.aaload, 1)) (hq : pc + 1 = pc') (F : Arr Z h a cl ty) (hty : ty.isReference = true) (hin : ¬ (j < 0 ∨ cl.slots.size ≤ j.toNatClampNeg)) (hv : cl.slots[j.toNatClampNeg]? = some v) (K : Go l Z EL n0 nr kn y bytes mL ret R h0 WS Q SF h k n pc' Ls (v :: st)) : Go l Z EL n0 nr kn y bytes mL ret R h0 WS Q SF h k n pc Ls (.int j :: .ref a :: st) := by
  intro p e s m args below meth c T hR
  obtain ⟨⟨hx, hby, hml, hown, hnm, hret, hlk, hkn⟩, vm0, k0, locs, X, e0, C⟩ := hR
  have hZ : Z.Warmed39 (s.setVm vm0).vm := C.1
  have hown' : (s.setVm vm0).vm.findClass y.cls = some m.cls := by rw [show (s.setVm vm0).vm = vm0 from rfl, C.2.1.1.1.alike.findClass]; exact hown
  obtain ⟨t, o, hs, r⟩ := K p e s m args below meth c T ⟨⟨hx, hby, hml, hown, hnm, hret, hlk, hkn⟩, vm0, k0, locs, X, e0, C⟩
  exact ⟨t, o, X.aaload hx (by rw [e0]; exact F.1) (State.isArrayOf_alike hZ.alike F.2.1) hty F.2.2 hin hv (g := mkF m pc Ls (.int j :: .ref a :: st)) rfl rfl (hb hby hd) _ (by subst hq; exact hs), r⟩
theorem Go.aaloadV {ty : FieldType} {a : Addr} {kk : ClassId} {z j : Int32} {vs : List Value} {v dv : Value} (hd : decode bytes pc = .ok (.aaload, 1)) (hq : pc + 1 = pc') (F : Arv Z h a kk ty z vs dv) (hty : ty.isReference = true) (hj : ¬ j < 0 ∧ j < z) (hv : vs.getD j.toNatClampNeg dv = v) (K : Go l Z EL n0 nr kn y bytes mL ret R h0 WS Q SF h k n pc' Ls (v :: st)) : Go l Z EL n0 nr kn y bytes mL ret R h0 WS Q SF h k n pc Ls (.int j :: .ref a :: st) := by
  intro p e s m args below meth c T hR
  obtain ⟨⟨hx, hby, hml, hown, hnm, hret, hlk, hkn⟩, vm0, k0, locs, X, e0, C⟩ := hR
  have hZ : Z.Warmed39 (s.setVm vm0).vm := C.1
  have hown' : (s.setVm vm0).vm.findClass y.cls = some m.cls := by rw [show (s.setVm vm0).vm = vm0 from rfl, C.2.1.1.1.alike.findClass]; exact hown
  obtain ⟨cl, F, -, S, N, H, -⟩ := F
  have hin := inb_of S hj
  have hv := Has.at H hin hv
  obtain ⟨t, o, hs, r⟩ := K p e s m args below meth c T ⟨⟨hx, hby, hml, hown, hnm, hret, hlk, hkn⟩, vm0, k0, locs, X, e0, C⟩
  exact ⟨t, o, X.aaload hx (by rw [e0]; exact F.1) (State.isArrayOf_alike hZ.alike F.2.1) hty F.2.2 hin hv (g := mkF m pc Ls (.int j :: .ref a :: st)) rfl rfl (hb hby hd) _ (by subst hq; exact hs), r⟩
theorem Go.newO {CC : String} {index nn : Nat} (hd : decode bytes pc = .ok (.new index, 3)) (hq : pc + 3 = pc') (w : (Jvm.Cond.classLink y.cls index CC).before a0 Z = true) (wi : (Jvm.Cond.instantiable CC nn).before a0 Z = true) (wz : (Jvm.Cond.initialized CC).before a0 Z = true) (hc : k + 1 ≤ R.cells) (hl : n + nn ≤ R.slots)
    (K : ∀ h' a, h.size = a → h0.size ≤ a → Ext h h' → Exa Z h' a CC → (∀ {O nm d : String} {ty : FieldType}, Laid Z a0 CC O nm d → parseFieldDescriptor d = some ty → Fld Z h' a O nm d (defaultValue ty)) → Unt h' a → Go l Z EL n0 nr kn y bytes mL ret R h0 WS Q (a :: SF) h' (k + 1) (n + nn) pc' Ls (.ref a :: st)) : Go l Z EL n0 nr kn y bytes mL ret R h0 WS Q SF h k n pc Ls st := by
  intro p e s m args below meth c T hR
  obtain ⟨⟨hx, hby, hml, hown, hnm, hret, hlk, hkn⟩, vm0, k0, locs, X, e0, C⟩ := hR
  have hZ : Z.Warmed39 (s.setVm vm0).vm := C.1
  have hown' : (s.setVm vm0).vm.findClass y.cls = some m.cls := by rw [show (s.setVm vm0).vm = vm0 from rfl, C.2.1.1.1.alike.findClass]; exact hown
  obtain ⟨T', h', X', e', E, AA, D, U, st'⟩ := Jvm.RoadKit.newO X hx hZ hown' w wi wz e0 (g := mkF m pc Ls st) rfl (hb hby hd) hc hl
  have hlt : h.size < h'.size := AA.lt
  obtain ⟨t, o, hs, r⟩ := K h' h.size rfl C.2.2.2.2.2.2.2.1.1 E AA D U p e s m args below meth c T' ⟨⟨hx, hby, hml, hown, hnm, hret, hlk, hkn⟩, vm0, k0, locs, X', e', C.push E hlt⟩
  exact ⟨t, o, st' _ (by subst hq; exact hs), r⟩
theorem Go.newP {aty : ArrayType} {z : Int32} {cap : Nat} {ad : String} (hd : decode bytes pc = .ok (.newarray aty, 2)) (hq : pc + 2 = pc') (w : (Jvm.Cond.arrayClass (newarray.typeOf aty)).before a0 Z = true) (had : "[" ++ (newarray.typeOf aty).toString = ad) (hz : ¬ z < 0) (hcap : z.toNatClampNeg ≤ cap) (hbig : cap * 8 ≤ 536870912) (hc : k + 1 ≤ R.cells) (hl : n + cap ≤ R.slots)
    (K : ∀ h' a, h.size = a → h0.size ≤ a → ∀ cA, Ext h h' → Arv Z h' a cA (newarray.typeOf aty) z [] (defaultValue (newarray.typeOf aty)) → Exa Z h' a ad → Go l Z EL n0 nr kn y bytes mL ret R h0 WS Q (a :: SF) h' (k + 1) (n + cap) pc' Ls (.ref a :: st)) : Go l Z EL n0 nr kn y bytes mL ret R h0 WS Q SF h k n pc Ls (.int z :: st) := by
  intro p e s m args below meth c T hR
  obtain ⟨⟨hx, hby, hml, hown, hnm, hret, hlk, hkn⟩, vm0, k0, locs, X, e0, C⟩ := hR
  have hZ : Z.Warmed39 (s.setVm vm0).vm := C.1
  have hown' : (s.setVm vm0).vm.findClass y.cls = some m.cls := by rw [show (s.setVm vm0).vm = vm0 from rfl, C.2.1.1.1.alike.findClass]; exact hown
  obtain ⟨T', h', cA, X', e', E, AA, EE, st'⟩ := Jvm.RoadKit.newPE X hx hZ w e0 (g := mkF m pc Ls (.int z :: st)) rfl (hb hby hd) rfl hz hcap hbig hc hl had
  have hlt : h.size < h'.size := AA.lt
  obtain ⟨t, o, hs, r⟩ := K h' h.size rfl C.2.2.2.2.2.2.2.1.1 cA E (Arv.new AA hz) EE p e s m args below meth c T' ⟨⟨hx, hby, hml, hown, hnm, hret, hlk, hkn⟩, vm0, k0, locs, X', e', C.push E hlt⟩
  exact ⟨t, o, st' _ (by subst hq; exact hs), r⟩
theorem Go.newR {CC : String} {index : Nat} {z : Int32} {cap : Nat} {ad : String} (hd : decode bytes pc = .ok (.anewarray index, 3)) (hq : pc + 3 = pc') (w1 : (Jvm.Cond.classLink y.cls index CC).before a0 Z = true) (w2 : (Jvm.Cond.arrayOver (.object CC)).before a0 Z = true) (had : "[" ++ (FieldType.object CC).toString = ad) (hz : ¬ z < 0) (hcap : z.toNatClampNeg ≤ cap) (hbig : cap * 8 ≤ 536870912) (hc : k + 1 ≤ R.cells) (hl : n + cap ≤ R.slots)
    (K : ∀ h' a, h.size = a → h0.size ≤ a → ∀ cA, Ext h h' → Arv Z h' a cA (.object CC) z [] .null → Exa Z h' a ad → Ovr Z cA CC → Go l Z EL n0 nr kn y bytes mL ret R h0 WS Q (a :: SF) h' (k + 1) (n + cap) pc' Ls (.ref a :: st)) : Go l Z EL n0 nr kn y bytes mL ret R h0 WS Q SF h k n pc Ls (.int z :: st) := by
  intro p e s m args below meth c T hR
  obtain ⟨⟨hx, hby, hml, hown, hnm, hret, hlk, hkn⟩, vm0, k0, locs, X, e0, C⟩ := hR
  have hZ : Z.Warmed39 (s.setVm vm0).vm := C.1
  have hown' : (s.setVm vm0).vm.findClass y.cls = some m.cls := by rw [show (s.setVm vm0).vm = vm0 from rfl, C.2.1.1.1.alike.findClass]; exact hown
  obtain ⟨T', h', cA, X', e', E, AA, EE, OO, st'⟩ := Jvm.RoadKit.newRE X hx hZ hown' w1 w2 e0 (g := mkF m pc Ls (.int z :: st)) rfl (hb hby hd) rfl hz hcap hbig hc hl had
  have hlt : h.size < h'.size := AA.lt
  obtain ⟨t, o, hs, r⟩ := K h' h.size rfl C.2.2.2.2.2.2.2.1.1 cA E (Arv.new AA hz) EE OO p e s m args below meth c T' ⟨⟨hx, hby, hml, hown, hnm, hret, hlk, hkn⟩, vm0, k0, locs, X', e', C.push E hlt⟩
  exact ⟨t, o, st' _ (by subst hq; exact hs), r⟩
theorem Go.clone {index W : Nat} {ad : String} {a : Addr} {ty : FieldType} {kk : ClassId} {z : Int32} {hs0 : List (Int32 × Value)} {vs : List Value} {dv : Value} {cap : Nat} (hd : decode bytes pc = .ok (.invokevirtual index, 3)) (hq : pc + 3 = pc') (w1 : (Jvm.Cond.methodLink y.cls index ⟨ad, "clone", "()Ljava/lang/Object;"⟩).before a0 Z = true) (w2 : (Jvm.Cond.sameMethod ad "java/lang/Object" "clone" "()Ljava/lang/Object;").before a0 Z = true) (w3 : (Jvm.Cond.native ⟨"java/lang/Object", "clone", "()Ljava/lang/Object;"⟩).before a0 Z = true)
    (w4 : (Jvm.Cond.instanceMethod ⟨"java/lang/Object", "clone", "()Ljava/lang/Object;"⟩).before a0 Z = true) (w5 : (Jvm.Cond.selects ad ⟨ad, "clone", "()Ljava/lang/Object;"⟩ ⟨"java/lang/Object", "clone", "()Ljava/lang/Object;"⟩).before a0 Z = true) (w6 : (Jvm.Cond.castable ad "java/lang/Cloneable").before a0 Z = true) (F : Arh Z h a kk ty z hs0 vs dv) (E0 : Exa Z h a ad) (hsz : Ls.size = mL) (hf : 1 ≤ R.frames) (hW : (st.map fun v => v.category).sum ≤ W) (hl : W + 14 ≤ R.locals) (hcap : z.toNatClampNeg ≤ cap) (hc : k + 1 ≤ R.cells) (hsl : n + cap ≤ R.slots)
    (K : ∀ h' a, h.size = a → h0.size ≤ a → Ext h h' → Arh Z h' a kk ty z hs0 vs dv → Exa Z h' a ad → Go l Z EL n0 nr kn y bytes mL ret R h0 WS Q (a :: SF) h' (k + 1) (n + cap) pc' Ls (.ref a :: st)) : Go l Z EL n0 nr kn y bytes mL ret R h0 WS Q SF h k n pc Ls (.ref a :: st) := by
  intro p e s m args below meth c T hR
  obtain ⟨⟨hx, hby, hml, hown, hnm, hret, hlk, hkn⟩, vm0, k0, locs, X, e0, C⟩ := hR
  have hZ : Z.Warmed39 (s.setVm vm0).vm := C.1
  have hown' : (s.setVm vm0).vm.findClass y.cls = some m.cls := by rw [show (s.setVm vm0).vm = vm0 from rfl, C.2.1.1.1.alike.findClass]; exact hown
  obtain ⟨T', h', X', e', E, AA, EE, st'⟩ := Jvm.RoadKit.cloneH X hx hZ hown' w1 w2 w3 w4 w5 w6 e0 F E0 (g := mkF m pc Ls (.ref a :: st)) rfl (by rw [hml]; exact hsz) rfl (hb hby hd) hf (W := W) (cap := cap) (by show 2 * 0 + _ ≤ _; rw [Nat.mul_zero, Nat.zero_add]; exact hW) hl hcap hc hsl
  have hlt : h.size < h'.size := EE.lt
  obtain ⟨t, o, hs, r⟩ := K h' h.size rfl C.2.2.2.2.2.2.2.1.1 E AA EE p e s m args below meth c T' ⟨⟨hx, hby, hml, hown, hnm, hret, hlk, hkn⟩, vm0, k0, locs, X', e', C.push E hlt⟩
  exact ⟨t, o, st' _ (by subst hq; exact hs), r⟩
theorem Go.putF {R0 O nf d host CC : String} {index kk : Nat} {ty : FieldType} {a : Addr} {v old : Value} (hd : decode bytes pc = .ok (.putfield index, 3)) (hq : pc + 3 = pc') (ha : a ∈ SF) (w : (Jvm.Cond.fieldLink y.cls index R0 nf d).before a0 Z = true ∨ (Jvm.Cond.fieldLinkNest y.cls index R0 nf d host).before a0 Z = true) (via : Via Z R0 O nf d) (F : Fld Z h a O nf d old) (E : Exa Z h a CC) (L : (Jvm.Cond.lays CC O nf d).before a0 Z = true ∨ ((Jvm.Cond.laysFinal CC O nf d).before a0 Z = true ∧ y.cls = O ∧ y.name = "<init>")) (wi : (Jvm.Cond.instantiable CC kk).before a0 Z = true) (hty : parseFieldDescriptor d = some ty) (hn : narrow ty v = v) (hf : fits ty v = true)
    (K : ∀ h', Wr h h' a (Jvm.RoadKit.slotOf Z O nf d) v → Go l Z EL n0 nr kn y bytes mL ret R h0 WS Q SF h' k n pc' Ls st) : Go l Z EL n0 nr kn y bytes mL ret R h0 WS Q SF h k n pc Ls (v :: .ref a :: st) := by
  intro p e s m args below meth c T hR
  obtain ⟨⟨hx, hby, hml, hown, hnm, hret, hlk, hkn⟩, vm0, k0, locs, X, e0, C⟩ := hR
  have hZ : Z.Warmed39 (s.setVm vm0).vm := C.1
  have hown' : (s.setVm vm0).vm.findClass y.cls = some m.cls := by rw [show (s.setVm vm0).vm = vm0 from rfl, C.2.1.1.1.alike.findClass]; exact hown
  have L' := L.imp id (fun q => (⟨q.1, q.2.1, hnm.trans q.2.2⟩ : _ ∧ _ ∧ meth.name = "<init>"))
  obtain ⟨T', h', X', e', W', st'⟩ := Jvm.RoadKit.putF X hx hZ hown' w via e0 F E L' wi hty hn hf (g := mkF m pc Ls (v :: .ref a :: st)) rfl rfl (hb hby hd)
  obtain ⟨t, o, hs, r⟩ := K h' W' p e s m args below meth c T' ⟨⟨hx, hby, hml, hown, hnm, hret, hlk, hkn⟩, vm0, k0, _, X', e', C.wr W' ha⟩
  exact ⟨t, o, st' _ (by subst hq; exact hs), r⟩
theorem Go.putFN {R0 O nf d CC : String} {index kk : Nat} {ty : FieldType} {a : Addr} {v v' old : Value} (hd : decode bytes pc = .ok (.putfield index, 3)) (hq : pc + 3 = pc') (ha : a ∈ SF) (w : (Jvm.Cond.fieldLink y.cls index R0 nf d).before a0 Z = true) (via : Via Z R0 O nf d) (F : Fld Z h a O nf d old) (E : Exa Z h a CC) (L : (Jvm.Cond.lays CC O nf d).before a0 Z = true ∨ ((Jvm.Cond.laysFinal CC O nf d).before a0 Z = true ∧ y.cls = O ∧ y.name = "<init>")) (wi : (Jvm.Cond.instantiable CC kk).before a0 Z = true) (hty : parseFieldDescriptor d = some ty) (hn : narrow ty v = v') (hf : fits ty v' = true)
    (K : ∀ h', Wr h h' a (Jvm.RoadKit.slotOf Z O nf d) v' → Go l Z EL n0 nr kn y bytes mL ret R h0 WS Q SF h' k n pc' Ls st) : Go l Z EL n0 nr kn y bytes mL ret R h0 WS Q SF h k n pc Ls (v :: .ref a :: st) := by
  intro p e s m args below meth c T hR
  obtain ⟨⟨hx, hby, hml, hown, hnm, hret, hlk, hkn⟩, vm0, k0, locs, X, e0, C⟩ := hR
  have hZ : Z.Warmed39 (s.setVm vm0).vm := C.1
  have hown' : (s.setVm vm0).vm.findClass y.cls = some m.cls := by rw [show (s.setVm vm0).vm = vm0 from rfl, C.2.1.1.1.alike.findClass]; exact hown
  have L' := L.imp id (fun q => (⟨q.1, q.2.1, hnm.trans q.2.2⟩ : _ ∧ _ ∧ meth.name = "<init>"))
  obtain ⟨T', h', X', e', W', st'⟩ := Jvm.RoadKit.putFN X hx hZ hown' w via e0 F E L' wi hty hn hf (g := mkF m pc Ls (v :: .ref a :: st)) rfl rfl (hb hby hd)
  obtain ⟨t, o, hs, r⟩ := K h' W' p e s m args below meth c T' ⟨⟨hx, hby, hml, hown, hnm, hret, hlk, hkn⟩, vm0, k0, _, X', e', C.wr W' ha⟩
  exact ⟨t, o, st' _ (by subst hq; exact hs), r⟩
theorem Go.castore {a : Addr} {cl : Cell} {j x : Int32} (hd : decode bytes pc = .ok (.castore, 1)) (hq : pc + 1 = pc') (ha : a ∈ SF) (F : Arr Z h a cl .char) (hj : ¬ (j < 0 ∨ cl.slots.size ≤ j.toNatClampNeg))
    (K : ∀ h', Wr h h' a j.toNatClampNeg (.int (nar .char x)) → Go l Z EL n0 nr kn y bytes mL ret R h0 WS Q SF h' k n pc' Ls st) : Go l Z EL n0 nr kn y bytes mL ret R h0 WS Q SF h k n pc Ls (.int x :: .int j :: .ref a :: st) := by
  intro p e s m args below meth c T hR
  obtain ⟨⟨hx, hby, hml, hown, hnm, hret, hlk, hkn⟩, vm0, k0, locs, X, e0, C⟩ := hR
  have hZ : Z.Warmed39 (s.setVm vm0).vm := C.1
  have hown' : (s.setVm vm0).vm.findClass y.cls = some m.cls := by rw [show (s.setVm vm0).vm = vm0 from rfl, C.2.1.1.1.alike.findClass]; exact hown
  obtain ⟨T', h', X', e', W', st'⟩ := Jvm.RoadKit.stC X hx hZ e0 F hj (g := mkF m pc Ls (.int x :: .int j :: .ref a :: st)) rfl rfl (hb hby hd)
  obtain ⟨t, o, hs, r⟩ := K h' W' p e s m args below meth c T' ⟨⟨hx, hby, hml, hown, hnm, hret, hlk, hkn⟩, vm0, k0, _, X', e', C.wr W' ha⟩
  exact ⟨t, o, st' _ (by subst hq; exact hs), r⟩
theorem Go.castoreV {a : Addr} {cA : ClassId} {z j x : Int32} {vs : List Value} {dv : Value} {i : Nat} (hd : decode bytes pc = .ok (.castore, 1)) (hq : pc + 1 = pc') (ha : a ∈ SF) (F : Arv Z h a cA .char z vs dv) (hj : ¬ j < 0 ∧ j < z) (hji : j.toNatClampNeg = i) (hi : i < vs.length)
    (K : ∀ h', Wr h h' a j.toNatClampNeg (.int (nar .char x)) → Arv Z h' a cA .char z (vs.set i (.int (nar .char x))) dv → Go l Z EL n0 nr kn y bytes mL ret R h0 WS Q SF h' k n pc' Ls st) : Go l Z EL n0 nr kn y bytes mL ret R h0 WS Q SF h k n pc Ls (.int x :: .int j :: .ref a :: st) := by
  intro p e s m args below meth c T hR
  obtain ⟨⟨hx, hby, hml, hown, hnm, hret, hlk, hkn⟩, vm0, k0, locs, X, e0, C⟩ := hR
  have hZ : Z.Warmed39 (s.setVm vm0).vm := C.1
  have hown' : (s.setVm vm0).vm.findClass y.cls = some m.cls := by rw [show (s.setVm vm0).vm = vm0 from rfl, C.2.1.1.1.alike.findClass]; exact hown
  obtain ⟨cl, F, q1, S, q3, H, G⟩ := F
  obtain ⟨T', h', X', e', W', st'⟩ := Jvm.RoadKit.stC X hx hZ e0 F (inb_of S hj) (g := mkF m pc Ls (.int x :: .int j :: .ref a :: st)) rfl rfl (hb hby hd)
  obtain ⟨t, o, hs, r⟩ := K h' W' (Arv.set F q1 S q3 H G (fits_nar_char x) W' i hji hi) p e s m args below meth c T' ⟨⟨hx, hby, hml, hown, hnm, hret, hlk, hkn⟩, vm0, k0, _, X', e', C.wr W' ha⟩
  exact ⟨t, o, st' _ (by subst hq; exact hs), r⟩
theorem Go.bastore {a : Addr} {cl : Cell} {j x : Int32} (hd : decode bytes pc = .ok (.bastore, 1)) (hq : pc + 1 = pc') (ha : a ∈ SF) (F : Arr Z h a cl .byte) (hj : ¬ (j < 0 ∨ cl.slots.size ≤ j.toNatClampNeg))
    (K : ∀ h', Wr h h' a j.toNatClampNeg (.int (nar .byte x)) → Go l Z EL n0 nr kn y bytes mL ret R h0 WS Q SF h' k n pc' Ls st) : Go l Z EL n0 nr kn y bytes mL ret R h0 WS Q SF h k n pc Ls (.int x :: .int j :: .ref a :: st) := by
  intro p e s m args below meth c T hR
  obtain ⟨⟨hx, hby, hml, hown, hnm, hret, hlk, hkn⟩, vm0, k0, locs, X, e0, C⟩ := hR
  have hZ : Z.Warmed39 (s.setVm vm0).vm := C.1
  have hown' : (s.setVm vm0).vm.findClass y.cls = some m.cls := by rw [show (s.setVm vm0).vm = vm0 from rfl, C.2.1.1.1.alike.findClass]; exact hown
  obtain ⟨T', h', X', e', W', st'⟩ := Jvm.RoadKit.stB X hx hZ e0 F hj (g := mkF m pc Ls (.int x :: .int j :: .ref a :: st)) rfl rfl (hb hby hd)
  obtain ⟨t, o, hs, r⟩ := K h' W' p e s m args below meth c T' ⟨⟨hx, hby, hml, hown, hnm, hret, hlk, hkn⟩, vm0, k0, _, X', e', C.wr W' ha⟩
  exact ⟨t, o, st' _ (by subst hq; exact hs), r⟩
theorem Go.bastoreV {a : Addr} {cA : ClassId} {z j x : Int32} {vs : List Value} {dv : Value} {i : Nat} (hd : decode bytes pc = .ok (.bastore, 1)) (hq : pc + 1 = pc') (ha : a ∈ SF) (F : Arv Z h a cA .byte z vs dv) (hj : ¬ j < 0 ∧ j < z) (hji : j.toNatClampNeg = i) (hi : i < vs.length)
    (K : ∀ h', Wr h h' a j.toNatClampNeg (.int (nar .byte x)) → Arv Z h' a cA .byte z (vs.set i (.int (nar .byte x))) dv → Go l Z EL n0 nr kn y bytes mL ret R h0 WS Q SF h' k n pc' Ls st) : Go l Z EL n0 nr kn y bytes mL ret R h0 WS Q SF h k n pc Ls (.int x :: .int j :: .ref a :: st) := by
  intro p e s m args below meth c T hR
  obtain ⟨⟨hx, hby, hml, hown, hnm, hret, hlk, hkn⟩, vm0, k0, locs, X, e0, C⟩ := hR
  have hZ : Z.Warmed39 (s.setVm vm0).vm := C.1
  have hown' : (s.setVm vm0).vm.findClass y.cls = some m.cls := by rw [show (s.setVm vm0).vm = vm0 from rfl, C.2.1.1.1.alike.findClass]; exact hown
  obtain ⟨cl, F, q1, S, q3, H, G⟩ := F
  obtain ⟨T', h', X', e', W', st'⟩ := Jvm.RoadKit.stB X hx hZ e0 F (inb_of S hj) (g := mkF m pc Ls (.int x :: .int j :: .ref a :: st)) rfl rfl (hb hby hd)
  obtain ⟨t, o, hs, r⟩ := K h' W' (Arv.set F q1 S q3 H G (fits_nar_byte x) W' i hji hi) p e s m args below meth c T' ⟨⟨hx, hby, hml, hown, hnm, hret, hlk, hkn⟩, vm0, k0, _, X', e', C.wr W' ha⟩
  exact ⟨t, o, st' _ (by subst hq; exact hs), r⟩
theorem Go.aastore {a : Addr} {cl : Cell} {ty : FieldType} {j : Int32} {v : Value} (hd : decode bytes pc = .ok (.aastore, 1)) (hq : pc + 1 = pc') (ha : a ∈ SF) (F : Arr Z h a cl ty) (hj : ¬ (j < 0 ∨ cl.slots.size ≤ j.toNatClampNeg)) (hty : ty.isReference = true) (S : Sto Z h a v)
    (K : ∀ h', Wr h h' a j.toNatClampNeg v → Go l Z EL n0 nr kn y bytes mL ret R h0 WS Q SF h' k n pc' Ls st) : Go l Z EL n0 nr kn y bytes mL ret R h0 WS Q SF h k n pc Ls (v :: .int j :: .ref a :: st) := by
  intro p e s m args below meth c T hR
  obtain ⟨⟨hx, hby, hml, hown, hnm, hret, hlk, hkn⟩, vm0, k0, locs, X, e0, C⟩ := hR
  have hZ : Z.Warmed39 (s.setVm vm0).vm := C.1
  have hown' : (s.setVm vm0).vm.findClass y.cls = some m.cls := by rw [show (s.setVm vm0).vm = vm0 from rfl, C.2.1.1.1.alike.findClass]; exact hown
  obtain ⟨T', h', X', e', W', st'⟩ := Jvm.RoadKit.stR X hx hZ e0 F hj hty S (g := mkF m pc Ls (v :: .int j :: .ref a :: st)) rfl rfl (hb hby hd)
  obtain ⟨t, o, hs, r⟩ := K h' W' p e s m args below meth c T' ⟨⟨hx, hby, hml, hown, hnm, hret, hlk, hkn⟩, vm0, k0, _, X', e', C.wr W' ha⟩
  exact ⟨t, o, st' _ (by subst hq; exact hs), r⟩
theorem Go.aastoreV {a : Addr} {cA : ClassId} {ty : FieldType} {z j : Int32} {v : Value} {vs : List Value} {dv : Value} {i : Nat} (hd : decode bytes pc = .ok (.aastore, 1)) (hq : pc + 1 = pc') (ha : a ∈ SF) (F : Arv Z h a cA ty z vs dv) (hty : ty.isReference = true) (hft : fits ty v = true) (S : ∀ cl, Arr Z h a cl ty → cl.cls = cA → Sto Z h a v) (hj : ¬ j < 0 ∧ j < z) (hji : j.toNatClampNeg = i) (hi : i < vs.length)
    (K : ∀ h', Wr h h' a j.toNatClampNeg v → Arv Z h' a cA ty z (vs.set i v) dv → Go l Z EL n0 nr kn y bytes mL ret R h0 WS Q SF h' k n pc' Ls st) : Go l Z EL n0 nr kn y bytes mL ret R h0 WS Q SF h k n pc Ls (v :: .int j :: .ref a :: st) := by
  intro p e s m args below meth c T hR
  obtain ⟨⟨hx, hby, hml, hown, hnm, hret, hlk, hkn⟩, vm0, k0, locs, X, e0, C⟩ := hR
  have hZ : Z.Warmed39 (s.setVm vm0).vm := C.1
  have hown' : (s.setVm vm0).vm.findClass y.cls = some m.cls := by rw [show (s.setVm vm0).vm = vm0 from rfl, C.2.1.1.1.alike.findClass]; exact hown
  obtain ⟨cl, F, q1, S0, q3, H, G⟩ := F
  obtain ⟨T', h', X', e', W', st'⟩ := Jvm.RoadKit.stR X hx hZ e0 F (inb_of S0 hj) hty (S cl F q1) (g := mkF m pc Ls (v :: .int j :: .ref a :: st)) rfl rfl (hb hby hd)
  obtain ⟨t, o, hs, r⟩ := K h' W' (Arv.set F q1 S0 q3 H G hft W' i hji hi) p e s m args below meth c T' ⟨⟨hx, hby, hml, hown, hnm, hret, hlk, hkn⟩, vm0, k0, _, X', e', C.wr W' ha⟩
  exact ⟨t, o, st' _ (by subst hq; exact hs), r⟩
theorem Go.cpA {index W : Nat} {a b : Addr} {kk k' : ClassId} {ty ty' : FieldType} {z z' sp dp nn : Int32} {vs vd us : List Value} {dv dd : Value} (hd : decode bytes pc = .ok (.invokestatic index, 3)) (hq : pc + 3 = pc') (hb' : b ∈ SF) (w1 : (Jvm.Cond.methodLink y.cls index Jvm.Stand.acN).before a0 Z = true) (w2 : (Jvm.Cond.native Jvm.Stand.acN).before a0 Z = true) (w3 : (Jvm.Cond.static Jvm.Stand.acN).before a0 Z = true) (w4 : (Jvm.Cond.initialized "java/lang/System").before a0 Z = true)
    (AA : Arv Z h a kk ty z vs dv) (BB : Arv Z h b k' ty' z' vd dd) (hty : (ty = ty' ∧ refKind ty = false) ∨ (refKind ty = true ∧ refKind ty' = true ∧ StoL Z h b us)) (h1 : ¬ sp < 0) (h2 : ¬ dp < 0) (h3 : ¬ nn < 0) (h4 : sp.toNatClampNeg + nn.toNatClampNeg ≤ z.toNatClampNeg) (h5 : dp.toNatClampNeg + nn.toNatClampNeg ≤ z'.toNatClampNeg)
    (hus : us = (List.range nn.toNatClampNeg).map fun i => vs.getD (sp.toNatClampNeg + i) dv) (hvl : dp.toNatClampNeg + nn.toNatClampNeg ≤ vd.length) (hsz : Ls.size = mL) (hf : 1 ≤ R.frames) (hW : (st.map fun v => v.category).sum ≤ W) (hl : W + (nativeFrameWords "java/lang/System" "arraycopy" 5 + 11) ≤ R.locals)
    (K : ∀ h', Keep h h' [b] → Arv Z h' b k' ty' z' (vd.take dp.toNatClampNeg ++ us ++ vd.drop (dp.toNatClampNeg + nn.toNatClampNeg)) dd → Go l Z EL n0 nr kn y bytes mL ret R h0 WS Q SF h' k n pc' Ls st) : Go l Z EL n0 nr kn y bytes mL ret R h0 WS Q SF h k n pc Ls (.int nn :: .int dp :: .ref b :: .int sp :: .ref a :: st) := by
  intro p e s m args below meth c T hR
  obtain ⟨⟨hx, hby, hml, hown, hnm, hret, hlk, hkn⟩, vm0, k0, locs, X, e0, C⟩ := hR
  have hZ : Z.Warmed39 (s.setVm vm0).vm := C.1
  have hown' : (s.setVm vm0).vm.findClass y.cls = some m.cls := by rw [show (s.setVm vm0).vm = vm0 from rfl, C.2.1.1.1.alike.findClass]; exact hown
  have N := C.2.2.1
  have ge := (C.2.2.2.2.1 b hb').1.1
  obtain ⟨T', h', L, X', e', FL, KK, BB', st'⟩ := Jvm.RoadKit.cpA X hx hZ hown' w1 w2 w3 w4 e0 AA BB hty h1 h2 h3 h4 h5 hus hvl N ge (g := mkF m pc Ls (.int nn :: .int dp :: .ref b :: .int sp :: .ref a :: st)) rfl (by rw [hml]; exact hsz) rfl (hb hby hd) hf (W := W) (by show 2 * 0 + _ ≤ _; rw [Nat.mul_zero, Nat.zero_add]; exact hW) hl
  have hSb := (C.2.2.2.2.1 b hb').2
  have C' : Cor Z EL n0 nr h0 WS SF h' s vm0 k0 L := by
    have q := C.keep (SN := []) (L := []) KK (fun x hx => by cases List.mem_singleton.mp hx; exact hb') (Fr.nil n0) (CHr.keep KK (fun x hx => by cases List.mem_singleton.mp hx; exact hSb) C.2.2.2.1.1) C.1 C.2.1.1 (Nat.le_trans C.2.1.2 KK.1) C.2.2.2.2.2.1 (fun x hx => nomatch hx)
    exact ⟨q.1, q.2.1, FL, q.2.2.2⟩
  obtain ⟨t, o, hs, r⟩ := K h' KK BB' p e s m args below meth c T' ⟨⟨hx, hby, hml, hown, hnm, hret, hlk, hkn⟩, vm0, k0, L, X', e', C'⟩
  exact ⟨t, o, st' _ (by subst hq; exact hs), r⟩
theorem Go.ldcS {text : String} {index nn : Nat} {vs : List Value} {z : Int32} (hnr : nr = false) (hd : decode bytes pc = .ok (.ldc index, 2)) (hq : pc + 2 = pc') (w : (Jvm.Cond.stringLink y.cls index text).before a0 Z = true) (wS : ∀ a ∈ Bundle.stringAtoms, a.before a0 Z = true) (hmem : (y.cls, index) ∈ EL) (ht : (∀ c ∈ text.toList, c.toNat < 256) ∧ text.toList.map (fun c => Value.int (Jvm.Lit.byteI c.toNat.toUInt16)) = vs) (hz : ¬ z < 0) (hzl : z.toNatClampNeg = vs.length) (hn : 4 * text.toList.length ≤ nn) (hbig : nn ≤ 536870912) (hc : k + 2 ≤ R.cells) (hl : n + (nn + 4) ≤ R.slots)
    (K : ∀ h' a b kb, Ext h h' → Exa Z h' a "java/lang/String" → Fld Z h' a "java/lang/String" "coder" "B" (.int 0) → Fld Z h' a "java/lang/String" "value" "[B" (.ref b) → Arv Z h' b kb .byte z vs (.int 0) → (∀ x ∈ SF, x ≠ a ∧ x ≠ b) → Go l Z EL n0 nr kn y bytes mL ret R h0 WS Q SF h' (k + 2) (n + (nn + 4)) pc' Ls (.ref a :: st)) : Go l Z EL n0 nr kn y bytes mL ret R h0 WS Q SF h k n pc Ls st := by
  intro p e s m args below meth c T hR
  obtain ⟨⟨hx, hby, hml, hown, hnm, hret, hlk, hkn⟩, vm0, k0, locs, X, e0, C⟩ := hR
  have hZ : Z.Warmed39 (s.setVm vm0).vm := C.1
  have hown' : (s.setVm vm0).vm.findClass y.cls = some m.cls := by rw [show (s.setVm vm0).vm = vm0 from rfl, C.2.1.1.1.alike.findClass]; exact hown
  obtain ⟨c1, ⟨c2, c2'⟩, c3, c4, c5, c6, c7, c8, c9, a1, hEL⟩ := C
  have hEL' : EW Z a0 EL := fun q hq => by
    obtain ⟨tx, hx1, hx2⟩ := hEL q hq
    exact ⟨tx, (by simpa [Jvm.Cond.before, Jvm.Cond.holds, Jvm.Cond.value] using hx1), hx2⟩
  obtain ⟨a, T', h', k1, b, kb, X', e', E, hS, hk, hW, hf, E1, E2, E3, E4, -, -, hC, -, hne, st'⟩ := Jvm.RoadKit.ldcCH X hx c1 hown' w wS e0 c2 c2' hEL' hmem c4.1 ht hz hzl (g := mkF m pc Ls st) rfl (hb hby hd) hn hbig hc hl
  have C' : Cor Z EL n0 nr h0 WS SF h' s T'.vm k1 locs := by
    refine ⟨hW, ⟨hS, hk⟩, c3, c4.trans hC, fun x hx => ⟨⟨(c5 x hx).1.1, Nat.lt_of_lt_of_le (c5 x hx).1.2.1 E.1, (c5 x hx).1.2.2⟩, hC.safe (c5 x hx).1.2.1 (c5 x hx).2⟩, (fun q => by rw [hnr] at q; cases q), ⟨c7.1, Nat.le_trans c7.2.1 E.1, fun a c q => E.2 a c (c7.2.2 a c q)⟩, c8.ext E, c9, a1, hEL⟩
  obtain ⟨t, o, hs, r⟩ := K h' a b kb E E1 E2 E3 E4 (fun x hx => hne x (C'.2.2.2.2.1 x hx).2) p e s m args below meth c T' ⟨⟨hx, hby, hml, hown, hnm, hret, hlk, hkn⟩, T'.vm, k1, locs, X', e', C'⟩
  exact ⟨t, o, st' _ (by subst hq; exact hs), r⟩
theorem Go.ldcO {text : String} {index nn : Nat} (hnr : nr = false) (hd : decode bytes pc = .ok (.ldc index, 2)) (hq : pc + 2 = pc') (w : (Jvm.Cond.stringLink y.cls index text).before a0 Z = true) (wS : ∀ a ∈ Bundle.stringAtoms, a.before a0 Z = true) (hn : 4 * text.toList.length ≤ nn) (hbig : nn ≤ 536870912) (hc : k + 2 ≤ R.cells) (hl : n + (nn + 4) ≤ R.slots)
    (K : ∀ h' a, Ext h h' → Go l Z EL n0 nr kn y bytes mL ret R h0 WS Q SF h' (k + 2) (n + (nn + 4)) pc' Ls (.ref a :: st)) : Go l Z EL n0 nr kn y bytes mL ret R h0 WS Q SF h k n pc Ls st := by
  intro p e s m args below meth c T hR
  obtain ⟨⟨hx, hby, hml, hown, hnm, hret, hlk, hkn⟩, vm0, k0, locs, X, e0, C⟩ := hR
  have hZ : Z.Warmed39 (s.setVm vm0).vm := C.1
  have hown' : (s.setVm vm0).vm.findClass y.cls = some m.cls := by rw [show (s.setVm vm0).vm = vm0 from rfl, C.2.1.1.1.alike.findClass]; exact hown
  obtain ⟨c1, ⟨c2, c2'⟩, c3, c4, c5, c6, c7, c8, c9, a1, hEL⟩ := C
  have hEL' : EW Z a0 EL := fun q hq => by
    obtain ⟨tx, hx1, hx2⟩ := hEL q hq
    exact ⟨tx, (by simpa [Jvm.Cond.before, Jvm.Cond.holds, Jvm.Cond.value] using hx1), hx2⟩
  obtain ⟨a, T', h', k1, X', e', E, hS, hk, hW, hf, hC, -, st'⟩ := Jvm.RoadKit.ldcOH X hx c1 hown' w wS e0 c2 c2' hEL' c4.1 (g := mkF m pc Ls st) rfl (hb hby hd) hn hbig hc hl
  have C' : Cor Z EL n0 nr h0 WS SF h' s T'.vm k1 locs := by
    refine ⟨hW, ⟨hS, hk⟩, c3, c4.trans hC, fun x hx => ⟨⟨(c5 x hx).1.1, Nat.lt_of_lt_of_le (c5 x hx).1.2.1 E.1, (c5 x hx).1.2.2⟩, hC.safe (c5 x hx).1.2.1 (c5 x hx).2⟩, (fun q => by rw [hnr] at q; cases q), ⟨c7.1, Nat.le_trans c7.2.1 E.1, fun a c q => E.2 a c (c7.2.2 a c q)⟩, c8.ext E, c9, a1, hEL⟩
  obtain ⟨t, o, hs, r⟩ := K h' a E p e s m args below meth c T' ⟨⟨hx, hby, hml, hown, hnm, hret, hlk, hkn⟩, T'.vm, k1, locs, X', e', C'⟩
  exact ⟨t, o, st' _ (by subst hq; exact hs), r⟩
theorem Go.tsw {i : Int32} {dflt low high : Int} {offs : Array Int} {len : Nat} {o : Int} (hd : decode bytes pc = .ok (.tableswitch dflt low high offs, len)) (hin : ¬ (i.toInt < low ∨ i.toInt > high)) (hoff : offs[(i.toInt - low).toNat]? = some o) (ho : 0 ≤ (pc : Int) + o) (hq : ((pc : Int) + o).toNat = pc') (K : Go l Z EL n0 nr kn y bytes mL ret R h0 WS Q SF h k n pc' Ls st) : Go l Z EL n0 nr kn y bytes mL ret R h0 WS Q SF h k n pc Ls (.int i :: st) :=
  Go.plain (fun p e below T m c target hA hx hb hk => XS.tswIn hA hx rfl (pc0 := pc) (pc' := pc') rfl (hb ▸ hd) rfl hin hoff ho hq hk) K
theorem Go.retV (hd : decode bytes pc = .ok (.return_, 1)) (hr0 : ret = none) (hk : k ≤ R.cells) (hn : n ≤ R.slots) (SN : List Addr) (hSN : ∀ x ∈ SN, x ∈ SF ∧ h0.size ≤ x) (hQ : Q none h SN) : Go l Z EL n0 nr kn y bytes mL ret R h0 WS Q SF h k n pc Ls [] := by
  intro p e s m args below meth c T hR
  obtain ⟨⟨hx, hby, hml, hown, hnm, hret, hlk, hkn⟩, vm0, k0, locs, X, e0, C⟩ := hR
  have hZ : Z.Warmed39 (s.setVm vm0).vm := C.1
  have hown' : (s.setVm vm0).vm.findClass y.cls = some m.cls := by rw [show (s.setVm vm0).vm = vm0 from rfl, C.2.1.1.1.alike.findClass]; exact hown
  obtain ⟨c1, ⟨c2, c2'⟩, c3, c4, c5, c6, c7, c8, c9, a1, hEL⟩ := C
  obtain ⟨fs, hr, hrun, hended, hE⟩ := X.leaveW c2 (by rw [e0]; exact c2') (v := none) (fun _ => rfl) hlk
  have A1 := CHv.at X c1 hEL c4.1
  refine ⟨_, _, X.returnOut hx (hret.trans hr0) (hb hby hd) hr, hrun, hended, _, locs, SN, rfl, by show Q _ T.heap SN; rw [e0]; exact hQ, c3, by show Keep h0 T.heap WS; rw [e0]; exact c8, fun x hx => ?_, ?_, fun q => State.WarmedH.trans (t := s.setVm vm0) (c6 q) X.warmed, ⟨hE.1, hE.2.1, hE.2.2.1, hE.2.2.2.mono hk hn⟩⟩
  · show (h0.size ≤ x ∧ x < T.heap.size) ∧ Safe Z EL T.vm T.heap x
    rw [e0]
    exact ⟨⟨(hSN x hx).2, (c5 x (hSN x hx).1).1.2.1⟩, A1.safe (c5 x (hSN x hx).1).1.2.1 (c5 x (hSN x hx).1).2⟩
  · show CHr Z EL s.vm h0 T.vm T.heap
    rw [e0]
    exact c4.trans A1
theorem Go.retW {v : Value} {ty : FieldType} {i : Instr} (hd : decode bytes pc = .ok (i, 1)) (hr0 : ret = some ty) (hnw : narrow ty v = v) (hi : (i = .ireturn ∧ (ty = .int ∨ ty = .boolean ∨ ty = .byte ∨ ty = .char ∨ ty = .short) ∧ ∃ z, v = .int z) ∨ (i = .lreturn ∧ ty = .long ∧ ∃ z, v = .long z) ∨ (i = .dreturn ∧ ty = .double ∧ ∃ z, v = .double z) ∨ (i = .freturn ∧ ty = .float ∧ ∃ z, v = .float z) ∨ (i = .areturn ∧ ty.isReference = true ∧ v.isRef = true)) (hk : k ≤ R.cells) (hn : n ≤ R.slots) (SN : List Addr) (hSN : ∀ x ∈ SN, x ∈ SF ∧ h0.size ≤ x) (hQ : Q (some v) h SN) : Go l Z EL n0 nr kn y bytes mL ret R h0 WS Q SF h k n pc Ls (v :: st) := by
  intro p e s m args below meth c T hR
  obtain ⟨⟨hx, hby, hml, hown, hnm, hret, hlk, hkn⟩, vm0, k0, locs, X, e0, C⟩ := hR
  have hZ : Z.Warmed39 (s.setVm vm0).vm := C.1
  have hown' : (s.setVm vm0).vm.findClass y.cls = some m.cls := by rw [show (s.setVm vm0).vm = vm0 from rfl, C.2.1.1.1.alike.findClass]; exact hown
  obtain ⟨c1, ⟨c2, c2'⟩, c3, c4, c5, c6, c7, c8, c9, a1, hEL⟩ := C
  obtain ⟨fs, hr, hrun, hended, hE⟩ := X.leaveW c2 (by rw [e0]; exact c2') (v := some v) (fun q => by rw [hret, hr0] at q; cases q) hlk
  have A1 := CHv.at X c1 hEL c4.1
  refine ⟨_, _, Jvm.RoadKit.retOut X hx (hret.trans hr0) hnw hi (hb hby hd) hr, hrun, hended, _, locs, SN, rfl, by show Q _ T.heap SN; rw [e0]; exact hQ, c3, by show Keep h0 T.heap WS; rw [e0]; exact c8, fun x hx => ?_, ?_, fun q => State.WarmedH.trans (t := s.setVm vm0) (c6 q) X.warmed, ⟨hE.1, hE.2.1, hE.2.2.1, hE.2.2.2.mono hk hn⟩⟩
  · show (h0.size ≤ x ∧ x < T.heap.size) ∧ Safe Z EL T.vm T.heap x
    rw [e0]
    exact ⟨⟨(hSN x hx).2, (c5 x (hSN x hx).1).1.2.1⟩, A1.safe (c5 x (hSN x hx).1).1.2.1 (c5 x (hSN x hx).1).2⟩
  · show CHr Z EL s.vm h0 T.vm T.heap
    rw [e0]
    exact c4.trans A1
theorem Go.retI {z : Int32} (hd : decode bytes pc = .ok (.ireturn, 1)) (hr0 : ret = some .int) (hk : k ≤ R.cells) (hn : n ≤ R.slots) (SN : List Addr) (hSN : ∀ x ∈ SN, x ∈ SF ∧ h0.size ≤ x) (hQ : Q (some (.int z)) h SN) : Go l Z EL n0 nr kn y bytes mL ret R h0 WS Q SF h k n pc Ls (.int z :: st) :=
  Go.retW hd hr0 rfl (Or.inl ⟨rfl, Or.inl rfl, z, rfl⟩) hk hn SN hSN hQ
theorem Go.retA {v : Value} {ty : FieldType} (hd : decode bytes pc = .ok (.areturn, 1)) (hr0 : ret = some ty) (hty : ty.isReference = true) (hv : v.isRef = true) (hk : k ≤ R.cells) (hn : n ≤ R.slots) (SN : List Addr) (hSN : ∀ x ∈ SN, x ∈ SF ∧ h0.size ≤ x) (hQ : Q (some v) h SN) : Go l Z EL n0 nr kn y bytes mL ret R h0 WS Q SF h k n pc Ls (v :: st) :=
  Go.retW hd hr0 (by cases ty <;> first | (cases hty; done) | (rcases ref_cases hv with rfl | ⟨a, rfl⟩ <;> rfl)) (Or.inr (Or.inr (Or.inr (Or.inr ⟨rfl, hty, hv⟩)))) hk hn SN hSN hQ
theorem Go.retS {z : Int32} {ty : FieldType} (hd : decode bytes pc = .ok (.ireturn, 1)) (hr0 : ret = some ty) (hty : ty = .boolean ∨ ty = .byte ∨ ty = .char ∨ ty = .short) (hnw : narrow ty (.int z) = .int z) (hk : k ≤ R.cells) (hn : n ≤ R.slots) (SN : List Addr) (hSN : ∀ x ∈ SN, x ∈ SF ∧ h0.size ≤ x) (hQ : Q (some (.int z)) h SN) : Go l Z EL n0 nr kn y bytes mL ret R h0 WS Q SF h k n pc Ls (.int z :: st) :=
  Go.retW hd hr0 hnw (Or.inl ⟨rfl, Or.inr hty, z, rfl⟩) hk hn SN hSN hQ
theorem Met.of_go {as' : Array Value} (hpl : plainFor y = true) (hef : ∀ m, entryFrame m as' mL = mkF m 0 Ls []) (G : (Z.heap.size = n0 ∧ Ext Z.heap h0) → (∀ x ∈ WS, n0 ≤ x ∧ x < h0.size) → Go l Z EL n0 nr kn y bytes mL ret R h0 WS Q WS h0 0 0 0 Ls []) : Met l Z EL n0 nr kn y bytes mL ret R WS as' h0 Q := by
  intro ws
  refine MetFree.of_bodySF hpl hisR ?_
  intro p e s m args below meth c s₁ Bd hml0 hP hK
  obtain ⟨rfl, hZ, hh, hC, hS, hO, hEL⟩ := hP
  have X0 : Stand p l e R s m args below meth c s₁ [] 0 0 := Stand.of_body Bd
  have e0 : s₁.heap = h0 := by rw [← hh, Bd.state]; rfl
  have hnm := (name_of_methodNamed Bd.named Bd.method).1
  rw [hef m]
  exact G hO (fun x hx => (hS x hx).1) p e s m args below meth c s₁ ⟨⟨Bd.exec, Bd.bytes, hml0, findClass_of_methodNamed Bd.named, hnm, Bd.returns, BodyLoose.notSynchronized Bd, hK⟩, s.vm, 0, [], X0, e0,
    hZ, ⟨(State.WarmedH.refl s).since 0, Nat.zero_le _⟩, Fr.nil n0, CHr.refl hC, fun x hx => ⟨⟨(hS x hx).1.1, (hS x hx).1.2, Or.inl hx⟩, (hS x hx).2⟩, fun _ => State.WarmedH.refl s, hO, Keep.refl _ _, hh, hEL⟩
theorem Pays.of_met {z : MethodName} {zb : ByteArray} {zL : Nat} {zr : Option FieldType} {rm : Room} {len W : Nat} {ws : List Addr} {as' : Array Value} {Q' : Option Value → Heap → List Addr → Prop} (M : Met l Z EL n0 nr kn z zb zL zr rm ws as' h Q') (wc : (Jvm.Cond.code z zb zL zr).before a0 Z = true) (wz : (Jvm.Cond.initialized z.cls).before a0 Z = true) (hf : rm.frames + 1 ≤ R.frames) (hl : W + (zL + 11) + rm.locals ≤ R.locals) :
    Pays l Z EL n0 nr kn R len z W rm.cells rm.slots ws as' h Q' := by
  intro p e below s args vm0 hx hZ hC hS hO hEL hkn
  obtain ⟨a1, hE1⟩ := hEL
  refine BackS.of_freeWG (bytes := zb) (maxL := zL) (ret := zr) (E := fun _ first o t L kk nn => kk = rm.cells ∧ nn = rm.slots ∧ ∃ v SN, o = .returned v ∧ Q' v t.heap SN ∧ Fr n0 L ∧ Keep h t.heap ws ∧ (∀ x ∈ SN, (h.size ≤ x ∧ x < t.heap.size) ∧ Safe Z EL t.vm t.heap x) ∧ CHr Z EL first.vm h t.vm t.heap ∧ (nr = true → first.WarmedH t.vm)) (M []) hf hl ?_ ?_ ?_ ?_ ?_
  · intro m meth c A a Y hp
    have hU : Z.Warmed39 A.U.vm := wtrans (s := s.setVm vm0) hZ Y.warmed
    exact ⟨by show (Jvm.Cond.and _ .tt).before a A.U = true; rw [Cond.before_and, mv hU wc]; rfl, mv hU wc, mv hU wz, hp.2.2.1, hp.2.2.2⟩
  · intro m meth c A a g mk Y hp
    have A1 := CHv.at Y hZ hE1 hC
    exact ⟨hp.1, wtrans (s := s.setVm vm0) hZ Y.warmed, hp.2.1, A1.1, fun x hx => ⟨(hS x hx).1, A1.safe (hS x hx).1.2 (hS x hx).2⟩, hO, a1, hE1⟩
  · intro m meth c A a g mk Y hp hg q
    exact known_frames Y hg (hkn q).1 (hkn q).2
  · rintro a first o t ⟨v, L, SN, h1, h2, h3, h4, h5, h6, h7, h8⟩
    exact ⟨L, _, _, h8, rfl, rfl, v, SN, h1, h2, h3, h4, h5, h6, h7⟩
  · rintro m meth c A a g mk v t L kk nn Y hp - - ⟨e1, e2, v', SN, e3, e4, e5, e6, e7, e8, e9⟩
    cases e3
    subst e1 e2
    exact ⟨L, SN, e4, e5, e6, e7, (CHv.at Y hZ hE1 hC).trans e8, fun q => State.WarmedH.trans (t := A.U) Y.warmed (e9 q), rfl, rfl, rfl⟩
theorem Pays.of_back {z : MethodName} {len W ck cn : Nat} {ws : List Addr} {as' : Array Value} {Q' : Option Value → Heap → List Addr → Prop}
    (B : ∀ (p : Program) (e : Env) (below : List Frame) (s : State) (args : Array Value), p.tables.exec = Jvm.exec → Z.Warmed39 s.vm → (Z.heap.size = n0 ∧ Ext Z.heap h) → (∀ x ∈ ws, n0 ≤ x ∧ x < h.size) → Back l R p e below s args z len W (fun A a => a = as' ∧ A.U.heap = h ∧ A.cells + ck ≤ R.cells ∧ A.slots + cn ≤ R.slots) (fun A _ v B => ∃ L, Q' v B.U.heap [] ∧ Fr n0 L ∧ Keep h B.U.heap ws ∧ B.locs = A.locs ++ L ∧ B.cells = A.cells + ck ∧ B.slots = A.slots + cn)) :
    Pays l Z EL n0 nr kn R len z W ck cn ws as' h Q' := by
  intro p e below s args vm0 hx hZ hC hS hO hEL hkn
  obtain ⟨a1, hE1⟩ := hEL
  intro m meth c A g ig mk a X hg hsize hdg hW hn hp
  obtain ⟨v, B', X', ⟨L, q1, q2, q3, q4, q5, q6⟩, hst⟩ := B p e below (s.setVm vm0) args hx hZ hO (fun x hx => (hS x hx).1) m meth c A g ig mk a X hg hsize hdg hW hn hp
  have A1 : CHr Z EL vm0 h vm0 B'.U.heap := CHr.keep q3 (fun x hx => (hS x hx).2) hC
  have A2 := CHv.at X' hZ hE1 A1.1
  exact ⟨v, B', X'.retabled X'.warmed.wide, X'.warmed.since _, by rw [hp.2.1]; exact q3.1, ⟨L, [], q1, q2, q3, fun x hx => (nomatch hx), A1.trans A2, fun _ => X'.warmed, q4, q5, q6⟩, hst⟩
theorem Go.after {p : Program} {e : Env} {m : MethodId} {args : Array Value} {below : List Frame} {meth : Method} {c : Code} {T : State} {len ck cn : Nat} {ws : List Addr} {as' : Array Value} {Q' : Option Value → Heap → List Addr → Prop} {s₀ : State}
    (hA : p.tables.exec = Jvm.exec ∧ c.code = bytes ∧ c.maxLocals = mL ∧ s.vm.findClass y.cls = some m.cls ∧ meth.name = y.name ∧ meth.sig.returnType = ret ∧ meth.locks = false ∧ (kn = true → s.vm.MethodsKnown ∧ s.vm.FramesKnown below)) (e0 : T.heap = h) (C : Cor Z EL n0 nr h0 WS SF h s vm0 k0 locs) (hws : ∀ x ∈ ws, x ∈ SF)
    (H : ∃ (v : Option Value) (vm₁ : Vm) (B : Pt), (s.setVm vm0).WarmedH vm₁ ∧ Stand p l e R ((s.setVm vm0).setVm B.U.vm) m args below meth c B.U B.locs B.cells B.slots ∧ (s.setVm vm0).Since B.U.vm B.U.heap.size ∧ T.heap.size ≤ B.U.heap.size ∧ (∃ L SN, Q' v B.U.heap SN ∧ Fr n0 L ∧ Keep h B.U.heap ws ∧ (∀ x ∈ SN, (h.size ≤ x ∧ x < B.U.heap.size) ∧ Safe Z EL B.U.vm B.U.heap x) ∧ CHr Z EL vm0 h B.U.vm B.U.heap ∧ (nr = true → (s.setVm vm0).WarmedH B.U.vm) ∧ B.locs = locs ++ L ∧ B.cells = k + ck ∧ B.slots = n + cn) ∧
      Steps p.tables e below s₀ (B.U.setTop { mkF m pc Ls st with pc := pc + len, stack := v.toList ++ rest }))
    (hq : pc + len = pc') (K : ∀ v h' SN, Keep h h' ws → h0.size ≤ h.size → Q' v h' SN → Go l Z EL n0 nr kn y bytes mL ret R h0 WS Q (SN ++ SF) h' (k + ck) (n + cn) pc' Ls (v.toList ++ rest)) : ∃ t o, Steps p.tables e below s₀ t ∧ t.status = .running ∧ Ended t below o ∧ Pst Z EL n0 nr R h0 WS Q s o t := by
  obtain ⟨v, vm₁, ⟨T', L', kk, nn⟩, -, X', hS, hle, ⟨L, SN, h1, h2, h3, h4, h5, h6, h7, h8, h9⟩, hst⟩ := H
  dsimp only [Pt.U, Pt.locs, Pt.cells, Pt.slots] at X' hS hle h1 h3 h4 h5 h6 h7 h8 h9 hst
  subst h7 h8 h9 hq
  obtain ⟨t, o, hs, r⟩ := K v T'.heap SN h3 C.2.2.2.2.2.2.2.1.1 h1 p e s m args below meth c T' ⟨hA, T'.vm, T'.heap.size, _, X', rfl, C.keep h3 hws h2 h5 (State.Warmed39.trans (t := s.setVm vm0) C.1 hS.1) (C.2.1.1.trans hS (Nat.le_trans C.2.1.2 h3.1)) (Nat.le_refl _) (fun q => State.WarmedH.trans (t := s.setVm vm0) (C.2.2.2.2.2.1 q) (h6 q)) h4⟩
  exact ⟨t, o, hst.trans hs, r⟩
theorem Go.callS {ck cn W : Nat} {ws : List Addr} {as' : Array Value} {Q' : Option Value → Heap → List Addr → Prop} {index : Nat} {z : MethodName} {zb : ByteArray} {zL : Nat} {zr : Option FieldType} {argsL : List Value} (hd : decode bytes pc = .ok (.invokestatic index, 3)) (hq : pc + 3 = pc') (w1 : (Jvm.Cond.methodLink y.cls index z).before a0 Z = true) (w2 : (Jvm.Cond.static z).before a0 Z = true) (w3 : (Jvm.Cond.initialized z.cls).before a0 Z = true) (w4 : (Jvm.Cond.code z zb zL zr).before a0 Z = true) (hy : z.cls ≠ "java/lang/invoke/MethodHandle" ∧ z.cls ≠ "java/lang/invoke/VarHandle") (PP : Pays l Z EL n0 nr kn R 3 z W ck cn ws as' h Q') (hsz : Ls.size = mL) (hst : st = argsL.reverse ++ rest) (hlen : ∀ sig, parseMethodDescriptor z.desc = some sig → argsL.length = sig.parameters.length) (has : argsL.toArray = as') (hW : (rest.map fun v => v.category).sum ≤ W) (hws : ∀ x ∈ ws, x ∈ SF) (hc : k + ck ≤ R.cells) (hl : n + cn ≤ R.slots)
    (K : ∀ v h' SN, Keep h h' ws → h0.size ≤ h.size → Q' v h' SN → Go l Z EL n0 nr kn y bytes mL ret R h0 WS Q (SN ++ SF) h' (k + ck) (n + cn) pc' Ls (v.toList ++ rest)) : Go l Z EL n0 nr kn y bytes mL ret R h0 WS Q SF h k n pc Ls st := by
  intro p e s m args below meth c T hR
  obtain ⟨⟨hx, hby, hml, hown, hnm, hret, hlk, hkn⟩, vm0, k0, locs, X, e0, C⟩ := hR
  have hZ : Z.Warmed39 (s.setVm vm0).vm := C.1
  have hown' : (s.setVm vm0).vm.findClass y.cls = some m.cls := by rw [show (s.setVm vm0).vm = vm0 from rfl, C.2.1.1.1.alike.findClass]; exact hown
  have hBK := PP p e below s args vm0 hx C.1 C.2.2.2.1.1 (fun x hx => ⟨⟨(C.2.2.2.2.1 x (hws x hx)).1.1, (C.2.2.2.2.1 x (hws x hx)).1.2.1⟩, (C.2.2.2.2.1 x (hws x hx)).2⟩) C.2.2.2.2.2.2.1 C.2.2.2.2.2.2.2.2.2 (fun q => ⟨Vm.MethodsKnown.alikeC C.2.1.1.1.alike (hkn q).1, Vm.FramesKnown.alikeC C.2.1.1.1.alike (hkn q).2⟩)
  refine Go.after (st := st) (args := args) (ck := ck) (cn := cn) (ws := ws) (as' := as') (Q' := Q') (rest := rest) ⟨hx, hby, hml, hown, hnm, hret, hlk, hkn⟩ e0 C hws ?_ hq K
  exact callSS X hx (y := z) hown' (mvT hZ w1) (mvT hZ w2) (mvT hZ w3) (mvT hZ w4) hy hBK (g := mkF m pc Ls st) rfl (by rw [hml]; exact hsz) (argsL := argsL) (rest := rest) hlen hst (by show 2 * 0 + _ ≤ _; rw [Nat.mul_zero, Nat.zero_add]; exact hW) (hb hby hd) (fun _ _ => ⟨has, e0, hc, hl⟩)
theorem Go.callI {ck cn W : Nat} {ws : List Addr} {as' : Array Value} {Q' : Option Value → Heap → List Addr → Prop} {index : Nat} {z : MethodName} {zb : ByteArray} {zL : Nat} {a : Addr} {argsL : List Value} (hd : decode bytes pc = .ok (.invokespecial index, 3)) (hq : pc + 3 = pc') (hi : z.name = "<init>") (w1 : (Jvm.Cond.methodLink y.cls index z).before a0 Z = true) (w2 : (Jvm.Cond.instanceMethod z).before a0 Z = true) (w4 : (Jvm.Cond.code z zb zL none).before a0 Z = true) (hy : z.cls ≠ "java/lang/invoke/MethodHandle" ∧ z.cls ≠ "java/lang/invoke/VarHandle") (PP : Pays l Z EL n0 nr kn R 3 z W ck cn ws as' h Q') (hsz : Ls.size = mL) (hst : st = argsL.reverse ++ .ref a :: rest) (hlen : ∀ sig, parseMethodDescriptor z.desc = some sig → argsL.length = sig.parameters.length) (has : (.ref a :: argsL).toArray = as') (hW : (rest.map fun v => v.category).sum ≤ W) (hws : ∀ x ∈ ws, x ∈ SF) (hc : k + ck ≤ R.cells) (hl : n + cn ≤ R.slots)
    (K : ∀ v h' SN, Keep h h' ws → h0.size ≤ h.size → Q' v h' SN → Go l Z EL n0 nr kn y bytes mL ret R h0 WS Q (SN ++ SF) h' (k + ck) (n + cn) pc' Ls (v.toList ++ rest)) : Go l Z EL n0 nr kn y bytes mL ret R h0 WS Q SF h k n pc Ls st := by
  intro p e s m args below meth c T hR
  obtain ⟨⟨hx, hby, hml, hown, hnm, hret, hlk, hkn⟩, vm0, k0, locs, X, e0, C⟩ := hR
  have hZ : Z.Warmed39 (s.setVm vm0).vm := C.1
  have hown' : (s.setVm vm0).vm.findClass y.cls = some m.cls := by rw [show (s.setVm vm0).vm = vm0 from rfl, C.2.1.1.1.alike.findClass]; exact hown
  have hBK := PP p e below s args vm0 hx C.1 C.2.2.2.1.1 (fun x hx => ⟨⟨(C.2.2.2.2.1 x (hws x hx)).1.1, (C.2.2.2.2.1 x (hws x hx)).1.2.1⟩, (C.2.2.2.2.1 x (hws x hx)).2⟩) C.2.2.2.2.2.2.1 C.2.2.2.2.2.2.2.2.2 (fun q => ⟨Vm.MethodsKnown.alikeC C.2.1.1.1.alike (hkn q).1, Vm.FramesKnown.alikeC C.2.1.1.1.alike (hkn q).2⟩)
  refine Go.after (st := st) (args := args) (ck := ck) (cn := cn) (ws := ws) (as' := as') (Q' := Q') (rest := rest) ⟨hx, hby, hml, hown, hnm, hret, hlk, hkn⟩ e0 C hws ?_ hq K
  exact X.specialBackS hx (y := z) hi hown' (mvT hZ w1) (mvT hZ w2) (mvT hZ w4) hy hBK (g := mkF m pc Ls st) rfl (by rw [hml]; exact hsz) (Steps.refl _) (a := a) (argsL := argsL) (rest := rest) hlen hst (by show 2 * 0 + _ ≤ _; rw [Nat.mul_zero, Nat.zero_add]; exact hW) (hb hby hd) (fun _ _ => ⟨has, e0, hc, hl⟩)
theorem Go.callV {ck cn W : Nat} {ws : List Addr} {as' : Array Value} {Q' : Option Value → Heap → List Addr → Prop} {index : Nat} {u z : MethodName} {CC : String} {a : Addr} {argsL : List Value} (hd : decode bytes pc = .ok (.invokevirtual index, 3)) (hq : pc + 3 = pc') (w1 : (Jvm.Cond.methodLink y.cls index u).before a0 Z = true) (w2 : (Jvm.Cond.declares u).before a0 Z = true) (hnf : ∀ (s : State), Z.Warmed39 s.vm → NotFace s u) (w3 : (Jvm.Cond.selects CC u z).before a0 Z = true) (w4 : (Jvm.Cond.instanceMethod z).before a0 Z = true) (hy : u.cls ≠ "java/lang/invoke/MethodHandle" ∧ u.cls ≠ "java/lang/invoke/VarHandle") (E : Exa Z h a CC) (PP : Pays l Z EL n0 nr kn R 3 z W ck cn ws as' h Q') (hsz : Ls.size = mL) (hst : st = argsL.reverse ++ .ref a :: rest) (hlen : ∀ sig, parseMethodDescriptor u.desc = some sig → argsL.length = sig.parameters.length) (has : (.ref a :: argsL).toArray = as') (hW : (rest.map fun v => v.category).sum ≤ W) (hws : ∀ x ∈ ws, x ∈ SF) (hc : k + ck ≤ R.cells) (hl : n + cn ≤ R.slots)
    (K : ∀ v h' SN, Keep h h' ws → h0.size ≤ h.size → Q' v h' SN → Go l Z EL n0 nr kn y bytes mL ret R h0 WS Q (SN ++ SF) h' (k + ck) (n + cn) pc' Ls (v.toList ++ rest)) : Go l Z EL n0 nr kn y bytes mL ret R h0 WS Q SF h k n pc Ls st := by
  intro p e s m args below meth c T hR
  obtain ⟨⟨hx, hby, hml, hown, hnm, hret, hlk, hkn⟩, vm0, k0, locs, X, e0, C⟩ := hR
  have hZ : Z.Warmed39 (s.setVm vm0).vm := C.1
  have hown' : (s.setVm vm0).vm.findClass y.cls = some m.cls := by rw [show (s.setVm vm0).vm = vm0 from rfl, C.2.1.1.1.alike.findClass]; exact hown
  have hBK := PP p e below s args vm0 hx C.1 C.2.2.2.1.1 (fun x hx => ⟨⟨(C.2.2.2.2.1 x (hws x hx)).1.1, (C.2.2.2.2.1 x (hws x hx)).1.2.1⟩, (C.2.2.2.2.1 x (hws x hx)).2⟩) C.2.2.2.2.2.2.1 C.2.2.2.2.2.2.2.2.2 (fun q => ⟨Vm.MethodsKnown.alikeC C.2.1.1.1.alike (hkn q).1, Vm.FramesKnown.alikeC C.2.1.1.1.alike (hkn q).2⟩)
  obtain ⟨cB, kB, qa, qb, qc⟩ := isOf hZ e0 E
  refine Go.after (st := st) (args := args) (ck := ck) (cn := cn) (ws := ws) (as' := as') (Q' := Q') (rest := rest) ⟨hx, hby, hml, hown, hnm, hret, hlk, hkn⟩ e0 C hws ?_ hq K
  exact X.virtualBackS hx (y := u) (z := z) hown' (mvT hZ w1) (mvT hZ w2) (hnf _ hZ) (mvT hZ w3) (mvT hZ w4) hy hBK qa qc (g := mkF m pc Ls st) rfl (by rw [hml]; exact hsz) (Steps.refl _) (argsL := argsL) (rest := rest) hlen hst (by show 2 * 0 + _ ≤ _; rw [Nat.mul_zero, Nat.zero_add]; exact hW) (hb hby hd) (fun _ _ => ⟨has, e0, hc, hl⟩)
theorem Go.callU {ck cn W : Nat} {ws : List Addr} {as' : Array Value} {Q' : Option Value → Heap → List Addr → Prop} {index : Nat} {u z : MethodName} {CC owner : String} {a : Addr} {argsL : List Value} (hd : decode bytes pc = .ok (.invokevirtual index, 3)) (hq : pc + 3 = pc') (w1 : (Jvm.Cond.methodLink y.cls index u).before a0 Z = true) (w5 : (Jvm.Cond.sameMethod u.cls owner u.name u.desc).before a0 Z = true) (w2 : (Jvm.Cond.declares ⟨owner, u.name, u.desc⟩).before a0 Z = true) (ho : owner ≠ "java/lang/invoke/MethodHandle" ∧ owner ≠ "java/lang/invoke/VarHandle") (w3 : (Jvm.Cond.selects CC u z).before a0 Z = true) (w4 : (Jvm.Cond.instanceMethod z).before a0 Z = true) (E : Exa Z h a CC) (PP : Pays l Z EL n0 nr kn R 3 z W ck cn ws as' h Q') (hsz : Ls.size = mL) (hst : st = argsL.reverse ++ .ref a :: rest) (hlen : ∀ sig, parseMethodDescriptor u.desc = some sig → argsL.length = sig.parameters.length) (has : (.ref a :: argsL).toArray = as') (hW : (rest.map fun v => v.category).sum ≤ W) (hws : ∀ x ∈ ws, x ∈ SF) (hc : k + ck ≤ R.cells) (hl : n + cn ≤ R.slots)
    (K : ∀ v h' SN, Keep h h' ws → h0.size ≤ h.size → Q' v h' SN → Go l Z EL n0 nr kn y bytes mL ret R h0 WS Q (SN ++ SF) h' (k + ck) (n + cn) pc' Ls (v.toList ++ rest)) : Go l Z EL n0 nr kn y bytes mL ret R h0 WS Q SF h k n pc Ls st := by
  intro p e s m args below meth c T hR
  obtain ⟨⟨hx, hby, hml, hown, hnm, hret, hlk, hkn⟩, vm0, k0, locs, X, e0, C⟩ := hR
  have hZ : Z.Warmed39 (s.setVm vm0).vm := C.1
  have hown' : (s.setVm vm0).vm.findClass y.cls = some m.cls := by rw [show (s.setVm vm0).vm = vm0 from rfl, C.2.1.1.1.alike.findClass]; exact hown
  have hBK := PP p e below s args vm0 hx C.1 C.2.2.2.1.1 (fun x hx => ⟨⟨(C.2.2.2.2.1 x (hws x hx)).1.1, (C.2.2.2.2.1 x (hws x hx)).1.2.1⟩, (C.2.2.2.2.1 x (hws x hx)).2⟩) C.2.2.2.2.2.2.1 C.2.2.2.2.2.2.2.2.2 (fun q => ⟨Vm.MethodsKnown.alikeC C.2.1.1.1.alike (hkn q).1, Vm.FramesKnown.alikeC C.2.1.1.1.alike (hkn q).2⟩)
  obtain ⟨cB, kB, qa, qb, qc⟩ := isOf hZ e0 E
  refine Go.after (st := st) (args := args) (ck := ck) (cn := cn) (ws := ws) (as' := as') (Q' := Q') (rest := rest) ⟨hx, hby, hml, hown, hnm, hret, hlk, hkn⟩ e0 C hws ?_ hq K
  exact X.virtualBackUpS hx (x := u) (y := z) (owner := owner) hown' (mvT hZ w1) (mvT hZ w5) (mvT hZ w2) ho (mvT hZ w3) (mvT hZ w4) hBK qa qc (g := mkF m pc Ls st) rfl (by rw [hml]; exact hsz) (Steps.refl _) (argsL := argsL) (rest := rest) hlen hst (by show 2 * 0 + _ ≤ _; rw [Nat.mul_zero, Nat.zero_add]; exact hW) (hb hby hd) (fun _ _ => ⟨has, e0, hc, hl⟩)
theorem Go.callF {ck cn W : Nat} {ws : List Addr} {as' : Array Value} {Q' : Option Value → Heap → List Addr → Prop} {index count : Nat} {u z : MethodName} {CC : String} {a : Addr} {argsL : List Value} (hd : decode bytes pc = .ok (.invokeinterface index count, 5)) (hq : pc + 5 = pc') (w1 : (Jvm.Cond.methodLink y.cls index u).before a0 Z = true) (w2 : (Jvm.Cond.declares u).before a0 Z = true) (w5 : (Jvm.Cond.interfaceMethod u.cls u.cls u.name u.desc).before a0 Z = true) (w3 : (Jvm.Cond.selects CC u z).before a0 Z = true) (w4 : (Jvm.Cond.instanceMethod z).before a0 Z = true) (w6 : (Jvm.Cond.publicMethod z).before a0 Z = true) (w7 : (Jvm.Cond.unhidden CC u.name u.desc).before a0 Z = true) (w8 : (Jvm.Cond.castable CC u.cls).before a0 Z = true) (hy : u.cls ≠ "java/lang/invoke/MethodHandle" ∧ u.cls ≠ "java/lang/invoke/VarHandle") (E : Exa Z h a CC) (PP : Pays l Z EL n0 nr kn R 5 z W ck cn ws as' h Q') (hsz : Ls.size = mL) (hst : st = argsL.reverse ++ .ref a :: rest) (hlen : ∀ sig, parseMethodDescriptor u.desc = some sig → argsL.length = sig.parameters.length) (has : (.ref a :: argsL).toArray = as') (hW : (rest.map fun v => v.category).sum ≤ W) (hws : ∀ x ∈ ws, x ∈ SF) (hc : k + ck ≤ R.cells) (hl : n + cn ≤ R.slots)
    (K : ∀ v h' SN, Keep h h' ws → h0.size ≤ h.size → Q' v h' SN → Go l Z EL n0 nr kn y bytes mL ret R h0 WS Q (SN ++ SF) h' (k + ck) (n + cn) pc' Ls (v.toList ++ rest)) : Go l Z EL n0 nr kn y bytes mL ret R h0 WS Q SF h k n pc Ls st := by
  intro p e s m args below meth c T hR
  obtain ⟨⟨hx, hby, hml, hown, hnm, hret, hlk, hkn⟩, vm0, k0, locs, X, e0, C⟩ := hR
  have hZ : Z.Warmed39 (s.setVm vm0).vm := C.1
  have hown' : (s.setVm vm0).vm.findClass y.cls = some m.cls := by rw [show (s.setVm vm0).vm = vm0 from rfl, C.2.1.1.1.alike.findClass]; exact hown
  have hBK := PP p e below s args vm0 hx C.1 C.2.2.2.1.1 (fun x hx => ⟨⟨(C.2.2.2.2.1 x (hws x hx)).1.1, (C.2.2.2.2.1 x (hws x hx)).1.2.1⟩, (C.2.2.2.2.1 x (hws x hx)).2⟩) C.2.2.2.2.2.2.1 C.2.2.2.2.2.2.2.2.2 (fun q => ⟨Vm.MethodsKnown.alikeC C.2.1.1.1.alike (hkn q).1, Vm.FramesKnown.alikeC C.2.1.1.1.alike (hkn q).2⟩)
  obtain ⟨cB, kB, qa, qb, qc⟩ := isOf hZ e0 E
  refine Go.after (st := st) (args := args) (ck := ck) (cn := cn) (ws := ws) (as' := as') (Q' := Q') (rest := rest) ⟨hx, hby, hml, hown, hnm, hret, hlk, hkn⟩ e0 C hws ?_ hq K
  exact X.interfaceBackS hx (xi := u) (y := z) hown' (mvT hZ w1) (mvT hZ w2) (mvT hZ w5 (by simp [Cond.onTables, Cond.keepsFace, Cond.keeps, Cond.steady, Cond.faceAtom]; exact hy)) (mvT hZ w3) (mvT hZ w4) (mvT hZ w6) (mvT hZ w7) (mvT hZ w8) hy hBK qa qb qc (g := mkF m pc Ls st) rfl (by rw [hml]; exact hsz) (Steps.refl _) (argsL := argsL) (rest := rest) hlen hst (by show 2 * 0 + _ ≤ _; rw [Nat.mul_zero, Nat.zero_add]; exact hW) (hb hby hd) (fun _ _ => ⟨has, e0, hc, hl⟩)
theorem Go.callP {ck cn W : Nat} {ws : List Addr} {as' : Array Value} {Q' : Option Value → Heap → List Addr → Prop} {index : Nat} {z : MethodName} {zb : ByteArray} {zL : Nat} {zr : Option FieldType} {CC : String} {a : Addr} {argsL : List Value} (hd : decode bytes pc = .ok (.invokevirtual index, 3)) (hq : pc + 3 = pc') (w1 : (Jvm.Cond.methodLink y.cls index z).before a0 Z = true) (w2 : (Jvm.Cond.instanceMethod z).before a0 Z = true) (w3 : (Jvm.Cond.selects z.cls z z).before a0 Z = true) (w5 : (Jvm.Cond.privateMethod z).before a0 Z = true) (w4 : (Jvm.Cond.code z zb zL zr).before a0 Z = true) (hy : z.cls ≠ "java/lang/invoke/MethodHandle" ∧ z.cls ≠ "java/lang/invoke/VarHandle") (E : Exa Z h a CC) (PP : Pays l Z EL n0 nr kn R 3 z W ck cn ws as' h Q') (hsz : Ls.size = mL) (hst : st = argsL.reverse ++ .ref a :: rest) (hlen : ∀ sig, parseMethodDescriptor z.desc = some sig → argsL.length = sig.parameters.length) (has : (.ref a :: argsL).toArray = as') (hW : (rest.map fun v => v.category).sum ≤ W) (hws : ∀ x ∈ ws, x ∈ SF) (hc : k + ck ≤ R.cells) (hl : n + cn ≤ R.slots)
    (K : ∀ v h' SN, Keep h h' ws → h0.size ≤ h.size → Q' v h' SN → Go l Z EL n0 nr kn y bytes mL ret R h0 WS Q (SN ++ SF) h' (k + ck) (n + cn) pc' Ls (v.toList ++ rest)) : Go l Z EL n0 nr kn y bytes mL ret R h0 WS Q SF h k n pc Ls st := by
  intro p e s m args below meth c T hR
  obtain ⟨⟨hx, hby, hml, hown, hnm, hret, hlk, hkn⟩, vm0, k0, locs, X, e0, C⟩ := hR
  have hZ : Z.Warmed39 (s.setVm vm0).vm := C.1
  have hown' : (s.setVm vm0).vm.findClass y.cls = some m.cls := by rw [show (s.setVm vm0).vm = vm0 from rfl, C.2.1.1.1.alike.findClass]; exact hown
  have hBK := PP p e below s args vm0 hx C.1 C.2.2.2.1.1 (fun x hx => ⟨⟨(C.2.2.2.2.1 x (hws x hx)).1.1, (C.2.2.2.2.1 x (hws x hx)).1.2.1⟩, (C.2.2.2.2.1 x (hws x hx)).2⟩) C.2.2.2.2.2.2.1 C.2.2.2.2.2.2.2.2.2 (fun q => ⟨Vm.MethodsKnown.alikeC C.2.1.1.1.alike (hkn q).1, Vm.FramesKnown.alikeC C.2.1.1.1.alike (hkn q).2⟩)
  obtain ⟨cq, q1, q2⟩ := E.cell
  refine Go.after (st := st) (args := args) (ck := ck) (cn := cn) (ws := ws) (as' := as') (Q' := Q') (rest := rest) ⟨hx, hby, hml, hown, hnm, hret, hlk, hkn⟩ e0 C hws ?_ hq K
  exact X.privateBackS hx (y := z) hown' (mvT hZ w1) (mvT hZ w2) (mvT hZ w3) (Cond.privateMethod_at (mvP hZ w5 (args := #[]))) (mvT hZ w4) hy hBK (g := mkF m pc Ls st) rfl (by rw [hml]; exact hsz) (Steps.refl _) (a := a) (by rw [e0]; exact q1) q2 (argsL := argsL) (rest := rest) hlen hst (by show 2 * 0 + _ ≤ _; rw [Nat.mul_zero, Nat.zero_add]; exact hW) (hb hby hd) (fun _ _ => ⟨has, e0, hc, hl⟩)
theorem nf {u z : MethodName} {CC : String} (w : (Jvm.Cond.selects CC u z).before a0 Z = true) (e : u = z) : ∀ (s : State), Z.Warmed39 s.vm → NotFace s u := fun s hZ => by
  subst e
  exact notFace_of_selects (args := #[]) (mvT hZ w)
theorem mem0 {SF : List Addr} : ∀ x ∈ ([] : List Addr), x ∈ SF := fun _ q => nomatch q
theorem memS {SF L : List Addr} {a : Addr} (q : a ∈ SF) (r : ∀ x ∈ L, x ∈ SF) : ∀ x ∈ a :: L, x ∈ SF := fun x z => (List.mem_cons.mp z).elim (fun u => u ▸ q) (r x)
theorem sn0 {SF : List Addr} {h0 : Heap} : ∀ x ∈ ([] : List Addr), x ∈ SF ∧ h0.size ≤ x := fun _ q => nomatch q
theorem snS {SF L : List Addr} {h0 : Heap} {a : Addr} (q : a ∈ SF ∧ h0.size ≤ a) (r : ∀ x ∈ L, x ∈ SF ∧ h0.size ≤ x) : ∀ x ∈ a :: L, x ∈ SF ∧ h0.size ≤ x := fun x z => (List.mem_cons.mp z).elim (fun u => u ▸ q) (r x)
theorem Ext.refl (h : Heap) : Ext h h := ⟨Nat.le_refl _, fun _ _ q => q⟩
theorem Ext.trans {h1 h2 h3 : Heap} (E : Ext h1 h2) (F : Ext h2 h3) : Ext h1 h3 := ⟨Nat.le_trans E.1 F.1, fun a c q => F.2 a c (E.2 a c q)⟩
theorem Keep.toExt {h1 h2 : Heap} (K : Keep h1 h2 []) : Ext h1 h2 := ⟨K.1, fun a c q => K.2.1 a c q (fun z => nomatch z)⟩
end Rules
end Jvm.OwnK
namespace Jvm.OwnK
open Jvm Sem ClassFile Op Lib Jvm.Free Jvm.Stand Jvm.LawKit Jvm.RoadKit Bundle
/-! plain facts on numbers and lists -/
def lowV (c : Int32) : Value := .int c.toInt8.toInt32
theorem byte_idem (c : Int32) : c.toInt8.toInt32.toInt8.toInt32 = c.toInt8.toInt32 := by
  rw [Int8.toInt8_toInt32]
theorem nar_byte (c : Int32) : nar .byte c.toInt8.toInt32 = c.toInt8.toInt32 := byte_idem c
theorem shr0 (x : Int32) : x >>> ((0 : Int32) &&& 31) = x := by
  apply Int32.toInt_inj.mp
  rw [c_ishr x 0 0 (by decide)]
  simp
theorem mask255 (x : Int32) : ¬ (x &&& 255) < 0 ∧ ¬ 255 < (x &&& 255) := by
  have h := c_and x 255 (by decide)
  rw [Int32.lt_iff_toInt_lt, Int32.lt_iff_toInt_lt]
  have e1 : (255 : Int32).toInt = 255 := by decide
  have e0 : (0 : Int32).toInt = 0 := by decide
  omega
theorem i2c_in {x : Int32} (h1 : ¬ x < 0) (h2 : ¬ 65535 < x) : x.toUInt32.toUInt16.toUInt32.toInt32 = x := by
  apply Int32.toInt_inj.mp
  have h := c_i2c x
  rw [Int32.lt_iff_toInt_lt] at h1 h2
  have e1 : (65535 : Int32).toInt = 65535 := by decide
  have e0 : (0 : Int32).toInt = 0 := by decide
  omega
theorem nar_char {x : Int32} (h1 : ¬ x < 0) (h2 : ¬ 65535 < x) : nar .char x = x := i2c_in h1 h2
theorem le255 {x : Int32} (h : ¬ 255 < x) : ¬ 65535 < x := by
  rw [Int32.lt_iff_toInt_lt] at h ⊢
  have e1 : (65535 : Int32).toInt = 65535 := by decide
  have e0 : (255 : Int32).toInt = 255 := by decide
  omega
theorem own_lowback {c : Int32} (h1 : ¬ c < 0) (h2 : ¬ 255 < c) : (c.toInt8.toInt32 &&& 255).toUInt32.toUInt16.toUInt32.toInt32 = c := by
  have m := mask255 c.toInt8.toInt32
  rw [i2c_in m.1 (le255 m.2)]
  apply Int32.toInt_inj.mp
  have e := c_mask c.toInt8.toInt32 255 8 (by decide) (by decide)
  have b := c_i2b c
  rw [Int32.lt_iff_toInt_lt] at h1 h2
  have e1 : (255 : Int32).toInt = 255 := by decide
  have e0 : (0 : Int32).toInt = 0 := by decide
  have e2 : ((2 ^ 8 : Nat) : Int) = 256 := by decide
  rw [e, e2]
  omega
theorem ofNat_succ (i : Nat) : Int32.ofNat i + 1 = Int32.ofNat (i + 1) := by
  rw [Int32.ofNat_add]; rfl
theorem ofNat_toInt {i : Nat} (h : i < 2 ^ 31) : (Int32.ofNat i).toInt = i := Int32.toInt_ofNat_small h
theorem ofNat_clamp {i : Nat} (h : i < 2 ^ 31) : (Int32.ofNat i).toNatClampNeg = i := by
  simp only [Int32.toNatClampNeg, ofNat_toInt h, Int.toNat_natCast]
theorem ofNat_nn {i : Nat} (h : i < 2 ^ 31) : ¬ Int32.ofNat i < 0 := by
  rw [Int32.lt_iff_toInt_lt, ofNat_toInt h]
  have e0 : (0 : Int32).toInt = 0 := by decide
  omega
theorem clamp_toInt {z : Int32} (h : ¬ z < 0) : z.toInt = z.toNatClampNeg := nat_of h
theorem ofNat_lt {i : Nat} {z : Int32} (hz : ¬ z < 0) (h : i < z.toNatClampNeg) : Int32.ofNat i < z := by
  have q := (back32 hz).2
  rw [Int32.lt_iff_toInt_lt, ofNat_toInt (by omega), clamp_toInt hz]
  omega
theorem ofNat_ge {i : Nat} {z : Int32} (hz : ¬ z < 0) (hi : i < 2 ^ 31) (h : z.toNatClampNeg ≤ i) : ¬ Int32.ofNat i < z := by
  rw [Int32.lt_iff_toInt_lt, ofNat_toInt hi, clamp_toInt hz]
  omega
theorem arv_nn {Z : State} {h : Heap} {a : Addr} {k : ClassId} {ty : FieldType} {z : Int32} {vs : List Value} {d : Value} (F : Arv Z h a k ty z vs d) : ¬ z < 0 := by obtain ⟨_, _, _, _, q, _⟩ := F; exact q
theorem getD_int (cs : List Int32) (i : Nat) : (cs.map Value.int).getD i (.int 0) = .int (cs.getD i 0) := by
  simp only [List.getD_eq_getElem?_getD, List.getElem?_map]
  cases cs[i]? <;> rfl
theorem getD_low (cs : List Int32) (i : Nat) (h : i < cs.length) : (cs.map lowV).getD i (.int 0) = .int (cs.getD i 0).toInt8.toInt32 := by
  simp only [List.getD_eq_getElem?_getD, List.getElem?_map, List.getElem?_eq_getElem h]
  rfl
theorem set_low (cs : List Int32) (i m : Nat) (h : i < cs.length) (z : Value) : ((cs.take i).map lowV ++ List.replicate (m + 1) z).set i (lowV (cs.getD i 0)) = (cs.take (i + 1)).map lowV ++ List.replicate m z := by
  have hl : ((cs.take i).map lowV).length = i := by simp; omega
  have e : cs.getD i 0 = cs[i] := by simp [List.getD_eq_getElem?_getD, List.getElem?_eq_getElem h]
  rw [List.set_append_right _ _ (by omega), hl, Nat.sub_self, List.replicate_succ, List.set_cons_zero, List.take_succ_eq_append_getElem h, List.map_append, List.append_assoc, e]
  rfl
theorem getD_mem {cs : List Int32} {P : Int32 → Prop} (h : ∀ x ∈ cs, P x) {i : Nat} (hi : i < cs.length) : P (cs.getD i 0) := by
  have e : cs.getD i 0 = cs[i] := by simp [List.getD_eq_getElem?_getD, List.getElem?_eq_getElem hi]
  rw [e]; exact h _ (List.getElem_mem hi)
theorem own_back (x : Int32) : x + (128 : Int32) - (128 : Int32) = x := Int32.add_sub_cancel x 128
theorem own_cache {x : Int32} {n : Nat} (h1 : ¬ x < (-128 : Int32)) (h2 : ¬ (127 : Int32) < x) (hn : n = (256 : Int32).toNatClampNeg) : ¬ (x + (128 : Int32) < 0 ∨ n ≤ (x + (128 : Int32)).toNatClampNeg) := by
  have c := c_iadd x 128
  have r := rng32 (x + 128)
  rw [Int32.lt_iff_toInt_lt] at h1 h2 ⊢
  have e1 : (-128 : Int32).toInt = -128 := by decide
  have e2 : (127 : Int32).toInt = 127 := by decide
  have e3 : (128 : Int32).toInt = 128 := by decide
  have e0 : (0 : Int32).toInt = 0 := by decide
  have e4 : (256 : Int32).toNatClampNeg = 256 := by decide
  simp only [Int32.toNatClampNeg] at hn e4 ⊢
  omega
theorem own_coder0 {z : Int32} : ((z - z).toUInt32 >>> ((31 : Int32) &&& 31).toUInt32).toInt32.toInt8.toInt32 = (0 : Int32) := by
  rw [Int32.sub_self]; decide
theorem own_nz {z : Int32} {cs : List Int32} (hz : z.toNatClampNeg = cs.length) (h : cs ≠ []) : ¬ z = (0 : Int32) := fun e => by
  subst e
  have : (0 : Int32).toNatClampNeg = 0 := by decide
  rw [this] at hz
  exact h (List.length_eq_zero_iff.mp hz.symm)
theorem own_narc (u : Int32) : narrow .char (.int (u &&& (255 : Int32)).toUInt32.toUInt16.toUInt32.toInt32) = .int (u &&& (255 : Int32)).toUInt32.toUInt16.toUInt32.toInt32 := by
  show Value.int _ = _
  have m := mask255 u
  rw [i2c_in m.1 (le255 m.2), i2c_in m.1 (le255 m.2)]
theorem own_one {P : Int32 → Prop} {a : Int32} (h : P a) : ∀ x ∈ [a], P x := fun x hx => by cases List.mem_singleton.mp hx; exact h
theorem own_cons {P : Int32 → Prop} {a : Int32} {L : List Int32} (h : P a) (r : ∀ x ∈ L, P x) : ∀ x ∈ a :: L, P x := fun x hx => (List.mem_cons.mp hx).elim (fun e => e ▸ h) (r x)
theorem own_two {P : Int32 → Prop} {a b : Int32} (h : P a) (h' : P b) : ∀ x ∈ [a, b], P x := own_cons h (own_one h')
def stRef (Z : State) (C n d : String) : Addr := match (Term.static C n d).eval #[] Z none [] Z with
  | some (.ref a) => a
  | _ => 0
theorem stRef_of {Z : State} {args : Array Value} {C n d : String} {a : Addr} (h : (Term.static C n d).eval args Z none [] Z = some (.ref a)) : stRef Z C n d = a := by
  have q : (Term.static C n d).eval #[] Z none [] Z = some (.ref a) := h
  simp only [stRef, q]
theorem arv_of_arr {Z : State} {h : Heap} {a : Addr} {cl : Cell} {ty : FieldType} {z : Int32} {vs : List Value} {d : Value} (A : Arr Z h a cl ty) (hz : ¬ z < 0) (hs : cl.slots.size = z.toNatClampNeg) (H : ∀ i, i < cl.slots.size → cl.slots[i]? = some (vs.getD i d) ∧ fits ty (vs.getD i d) = true) : Arv Z h a cl.cls ty z vs d :=
  ⟨cl, A, rfl, hs, hz, fun i hi => (H i hi).1, fun i hi => (H i hi).2⟩
theorem arv_ext {Z : State} {h h' : Heap} {a : Addr} {k : ClassId} {ty : FieldType} {z : Int32} {vs : List Value} {d : Value} (F : Arv Z h a k ty z vs d) (E : Ext h h') : Arv Z h' a k ty z vs d := F.ext E
theorem own_len {Z : State} {args : Array Value} {t : Term} {a : Addr} {cl : Cell} {ty : FieldType} {z : Int32} (e : t.eval args Z none [] Z = some (.ref a)) (A : Arr Z Z.heap a cl ty) (h : (Term.length t).eval args Z none [] Z = some (.int z)) : cl.slots.size < 2 ^ 31 ∧ cl.slots.size.toInt32 = z := by
  have q := A.fin (Vm.Alike.refl _)
  simp only [Term.eval, e, q, Option.bind_eq_bind, Option.bind_some] at h
  split at h
  · rename_i hl
    exact ⟨hl, by simpa using h⟩
  · cases h
theorem own_sto {Z : State} {h : Heap} {a y : Addr} {k : ClassId} {ty : FieldType} {z : Int32} {vs : List Value} {d : Value} {C : String} (F : Arv Z h a k ty z vs d) (O : Ovr Z k C) (I : Ins Z h y C true) : Sto Z h a (.ref y) := by
  obtain ⟨cl, A, q, -⟩ := F
  exact Sto.ofV A q O I
def NFc (Z : State) (K : String) : Prop := ∃ t kt, Z.vm.findClass K = some t ∧ Z.vm.classes[t]? = some kt ∧ kt.isInterface = false
theorem own_face_inst {Z : State} {a0 : Array Value} {K : String} {n : Nat} (w : (Jvm.Cond.instantiable K n).before a0 Z = true) : NFc Z K := by
  obtain ⟨c, k, h1, h2, -, h4, -⟩ := Cond.instantiable_spec w
  exact ⟨c, k, h1, h2, by simpa using (Bool.or_eq_false_iff.mp h4).1⟩
theorem own_face_sel {Z : State} {a0 : Array Value} {K : String} {u z : MethodName} (w : (Jvm.Cond.selects K u z).before a0 Z = true) : NFc Z z.cls := by
  obtain ⟨c, r, m, -, -, h3, -, mk, h5, h6⟩ := Cond.selects_spec w
  exact ⟨m.cls, mk, findClass_of_methodNamed h3, h5, h6⟩
theorem own_root {Z : State} {a0 : Array Value} {O K : String} (w : (Jvm.Cond.noSuperclass O).before a0 Z = true) (hk : NFc Z K) (hn : O ≠ K) : NS Z O K := by
  obtain ⟨c, k, h1, h2, h3, -, -⟩ := Cond.noSuperclass_spec w
  obtain ⟨t, kt, g1, -⟩ := hk
  have ne := ids_ne h1 g1 hn
  refine ⟨c, t, h1, g1, fun fuel => ?_⟩
  cases fuel with
  | zero => rfl
  | succ f => simp [Vm.isSubclassAux, ne, h2, h3]
theorem own_nsno {Z : State} {a0 : Array Value} {C K : String} {n : Nat} (w : (Jvm.Cond.instantiable C n).before a0 Z = true) (hk : NFc Z K) (ns : NS Z C K) (hn : C ≠ K) : ∃ c t, Z.vm.findClass C = some c ∧ Z.vm.findClass K = some t ∧ Z.vm.assignable c t = false := by
  obtain ⟨c, t, h0, g0, n3⟩ := ns
  obtain ⟨c', k, h1, h2, h5, -⟩ := Cond.instantiable_spec w
  cases h0.symm.trans h1
  obtain ⟨t', kt, g1, g2, g7⟩ := hk
  cases g0.symm.trans g1
  have ne := ids_ne h0 g0 hn
  refine ⟨c, t, h0, g0, ?_⟩
  show Z.vm.assignableAux (255 + 1) c t = false
  cases hkk : kt.kind <;> simp [Vm.assignableAux, ne, h2, g2, h5, hkk, g7, Vm.isSubclass, n3]
theorem own_arv0 {Z : State} {h : Heap} {a : Addr} {cl : Cell} {ty : FieldType} {d : Value} (A : Arr Z h a cl ty) (l : cl.slots.size < 2 ^ 31 ∧ cl.slots.size.toInt32 = (0 : Int32)) : Arv Z h a cl.cls ty (0 : Int32) [] d := by
  have e : cl.slots.size = 0 := by
    have q := len_toInt l.1
    rw [l.2] at q
    have : (0 : Int32).toInt = 0 := by decide
    omega
  refine ⟨cl, A, rfl, by rw [e]; decide, by decide, fun i hi => ?_, fun i hi => ?_⟩ <;> (rw [e] at hi; exact absurd hi (Nat.not_lt_zero _))
theorem own_cat {v : Value} (h : v.isRef = true) : v.category = 1 := by rcases ref_cases h with rfl | ⟨_, rfl⟩ <;> rfl
theorem unt_ext {h h' : Heap} {a : Addr} (E : Ext h h') (U : Unt h a) : Unt h' a := by obtain ⟨c, q, r⟩ := U; exact ⟨c, E.2 _ _ q, r⟩
end Jvm.OwnK

namespace Jvm.Pilot.@@N@@
open Jvm Jvm.ClassFile Sem Op Lib Jvm.Free Jvm.Stand Jvm.LawKit Jvm.RoadKit Bundle Jvm.OwnK Jvm.Pilot.@@N@@.Jvm.D
abbrev EL0 : List (String × Nat) := []
abbrev NR0 : Bool := true
abbrev KN0 : Bool := false
abbrev CAP : Nat := 1
def Stat (Z : State) : Prop := (∃ zc : Int32, Sta Z Z.heap "java/lang/String" "COMPACT_STRINGS" "Z" (.int zc) ∧ ¬ zc = 0) ∧ (Sta Z Z.heap "java/util/ArrayList" "DEFAULTCAPACITY_EMPTY_ELEMENTDATA" "[Ljava/lang/Object;" (.ref (stRef Z "java/util/ArrayList" "DEFAULTCAPACITY_EMPTY_ELEMENTDATA" "[Ljava/lang/Object;")) ∧ Exa Z Z.heap (stRef Z "java/util/ArrayList" "DEFAULTCAPACITY_EMPTY_ELEMENTDATA" "[Ljava/lang/Object;") "[Ljava/lang/Object;" ∧ ∃ kd : ClassId, Arv Z Z.heap (stRef Z "java/util/ArrayList" "DEFAULTCAPACITY_EMPTY_ELEMENTDATA" "[Ljava/lang/Object;") kd (.object "java/lang/Object") (0 : Int32) [] .null) ∧ (Sta Z Z.heap "java/util/ImmutableCollections" "EMPTY_LIST" "Ljava/util/ImmutableCollections$ListN;" (.ref (stRef Z "java/util/ImmutableCollections" "EMPTY_LIST" "Ljava/util/ImmutableCollections$ListN;")) ∧ Exa Z Z.heap (stRef Z "java/util/ImmutableCollections" "EMPTY_LIST" "Ljava/util/ImmutableCollections$ListN;") "java/util/ImmutableCollections$ListN" ∧ ∃ (te : Addr) (ke : ClassId), Fld Z Z.heap (stRef Z "java/util/ImmutableCollections" "EMPTY_LIST" "Ljava/util/ImmutableCollections$ListN;") "java/util/ImmutableCollections$ListN" "elements" "[Ljava/lang/Object;" (.ref te) ∧ Arv Z Z.heap te ke (.object "java/lang/Object") (0 : Int32) [] .null) ∧ (∃ eo : Addr, Sta Z Z.heap "java/util/ImmutableCollections" "EMPTY" "Ljava/lang/Object;" (.ref eo)) ∧ (∃ mr : Addr, Mr Z "[Ljava/lang/Object;" mr) ∧ True
theorem hs_c {Z : State} (h : Stat Z) : (∃ zc : Int32, Sta Z Z.heap "java/lang/String" "COMPACT_STRINGS" "Z" (.int zc) ∧ ¬ zc = 0) := h.1
theorem hs_a {Z : State} (h : Stat Z) : (Sta Z Z.heap "java/util/ArrayList" "DEFAULTCAPACITY_EMPTY_ELEMENTDATA" "[Ljava/lang/Object;" (.ref (stRef Z "java/util/ArrayList" "DEFAULTCAPACITY_EMPTY_ELEMENTDATA" "[Ljava/lang/Object;")) ∧ Exa Z Z.heap (stRef Z "java/util/ArrayList" "DEFAULTCAPACITY_EMPTY_ELEMENTDATA" "[Ljava/lang/Object;") "[Ljava/lang/Object;" ∧ ∃ kd : ClassId, Arv Z Z.heap (stRef Z "java/util/ArrayList" "DEFAULTCAPACITY_EMPTY_ELEMENTDATA" "[Ljava/lang/Object;") kd (.object "java/lang/Object") (0 : Int32) [] .null) := h.2.1
theorem hs_e {Z : State} (h : Stat Z) : (Sta Z Z.heap "java/util/ImmutableCollections" "EMPTY_LIST" "Ljava/util/ImmutableCollections$ListN;" (.ref (stRef Z "java/util/ImmutableCollections" "EMPTY_LIST" "Ljava/util/ImmutableCollections$ListN;")) ∧ Exa Z Z.heap (stRef Z "java/util/ImmutableCollections" "EMPTY_LIST" "Ljava/util/ImmutableCollections$ListN;") "java/util/ImmutableCollections$ListN" ∧ ∃ (te : Addr) (ke : ClassId), Fld Z Z.heap (stRef Z "java/util/ImmutableCollections" "EMPTY_LIST" "Ljava/util/ImmutableCollections$ListN;") "java/util/ImmutableCollections$ListN" "elements" "[Ljava/lang/Object;" (.ref te) ∧ Arv Z Z.heap te ke (.object "java/lang/Object") (0 : Int32) [] .null) := h.2.2.1
theorem hs_o {Z : State} (h : Stat Z) : (∃ eo : Addr, Sta Z Z.heap "java/util/ImmutableCollections" "EMPTY" "Ljava/lang/Object;" (.ref eo)) := h.2.2.2.1
theorem hs_m {Z : State} (h : Stat Z) : (∃ mr : Addr, Mr Z "[Ljava/lang/Object;" mr) := h.2.2.2.2.1
abbrev N_0 : MethodName := ⟨"java/lang/Record", "<init>", "()V"⟩
abbrev N_1 : MethodName := ⟨"java/lang/StringUTF16", "compress", "([CI[BII)I"⟩
abbrev N_2 : MethodName := ⟨"java/lang/StringUTF16", "compress", "([CII)[B"⟩
abbrev N_3 : MethodName := ⟨"java/lang/StringUTF16", "coderFromArrayLen", "([BI)B"⟩
abbrev N_4 : MethodName := ⟨"java/lang/String", "<init>", "([CIILjava/lang/Void;)V"⟩
abbrev N_5 : MethodName := ⟨"java/lang/String", "<init>", "([C)V"⟩
abbrev N_6 : MethodName := ⟨"java/util/AbstractCollection", "<init>", "()V"⟩
abbrev N_7 : MethodName := ⟨"java/util/AbstractList", "<init>", "()V"⟩
abbrev N_8 : MethodName := ⟨"java/util/ArrayList", "<init>", "()V"⟩
abbrev N_9 : MethodName := ⟨"java/lang/Math", "max", "(II)I"⟩
abbrev N_10 : MethodName := ⟨"java/lang/Math", "min", "(II)I"⟩
abbrev N_11 : MethodName := ⟨"java/util/ArrayList", "grow", "(I)[Ljava/lang/Object;"⟩
abbrev N_12 : MethodName := ⟨"java/util/ArrayList", "grow", "()[Ljava/lang/Object;"⟩
abbrev N_13 : MethodName := ⟨"java/util/ArrayList", "add", "(Ljava/lang/Object;[Ljava/lang/Object;I)V"⟩
abbrev N_14 : MethodName := ⟨"java/util/ArrayList", "add", "(Ljava/lang/Object;)Z"⟩
abbrev N_15 : MethodName := ⟨"java/util/Objects", "requireNonNull", "(Ljava/lang/Object;)Ljava/lang/Object;"⟩
abbrev N_16 : MethodName := ⟨"java/util/ImmutableCollections$AbstractImmutableCollection", "<init>", "()V"⟩
abbrev N_17 : MethodName := ⟨"java/util/ImmutableCollections$AbstractImmutableList", "<init>", "()V"⟩
abbrev N_18 : MethodName := ⟨"java/util/ImmutableCollections$List12", "<init>", "(Ljava/lang/Object;)V"⟩
abbrev N_19 : MethodName := ⟨"java/util/List", "of", "([Ljava/lang/Object;)Ljava/util/List;"⟩
abbrev N_20 : MethodName := ⟨"java/util/Arrays", "copyOf", "([Ljava/lang/Object;ILjava/lang/Class;)[Ljava/lang/Object;"⟩
abbrev N_21 : MethodName := ⟨"java/util/Arrays", "copyOf", "([Ljava/lang/Object;I)[Ljava/lang/Object;"⟩
abbrev N_22 : MethodName := ⟨"java/util/ArrayList", "toArray", "()[Ljava/lang/Object;"⟩
abbrev N_23 : MethodName := ⟨"java/util/ArrayList", "isEmpty", "()Z"⟩
abbrev N_24 : MethodName := ⟨"java/util/List", "of", "()Ljava/util/List;"⟩
abbrev N_25 : MethodName := ⟨"java/util/Collection", "isEmpty", "()Z"⟩
abbrev N_26 : MethodName := ⟨"java/util/ImmutableCollections", "listCopy", "(Ljava/util/Collection;)Ljava/util/List;"⟩
abbrev N_27 : MethodName := ⟨"java/util/Collection", "toArray", "()[Ljava/lang/Object;"⟩
abbrev N_28 : MethodName := ⟨"java/util/List", "copyOf", "(Ljava/util/Collection;)Ljava/util/List;"⟩
abbrev N_29 : MethodName := ⟨"com/example/sumgen/sumgen/model/Field", "<init>", "(Ljava/lang/String;Lcom/example/sumgen/sumgen/model/FieldType;Lcom/example/sumgen/sumgen/model/Field$Multiplicity;Lcom/example/sumgen/sumgen/model/Place;)V"⟩
abbrev N_30 : MethodName := ⟨"java/util/ImmutableCollections$ListN", "isEmpty", "()Z"⟩
abbrev N_31 : MethodName := ⟨"java/util/List", "isEmpty", "()Z"⟩
abbrev N_32 : MethodName := ⟨"com/example/sumgen/sumgen/model/SumType", "<init>", "(Ljava/lang/String;Ljava/lang/String;Ljava/util/List;Ljava/util/List;Lcom/example/sumgen/sumgen/model/Place;Lcom/example/sumgen/sumgen/model/Place;)V"⟩
abbrev N_33 : MethodName := ⟨"com/example/sumgen/sumgen/sql/Changes$TypeChange", "<init>", "(Lcom/example/sumgen/sumgen/model/SumType;Lcom/example/sumgen/sumgen/model/SumType;Ljava/util/List;Ljava/util/List;Ljava/util/List;Ljava/util/List;)V"⟩
abbrev N_34 : MethodName := ⟨"com/example/sumgen/sumgen/sql/Changes$TypeChange", "addsType", "()Z"⟩
theorem pd_0 : parseMethodDescriptor "([CI[BII)I" = some ⟨[(.array .char), .int, (.array .byte), .int, .int], some .int⟩ := by decide +kernel
theorem pd_1 : parseMethodDescriptor "([CII)[B" = some ⟨[(.array .char), .int, .int], some (.array .byte)⟩ := by decide +kernel
theorem pd_2 : parseMethodDescriptor "([BI)B" = some ⟨[(.array .byte), .int], some .byte⟩ := by decide +kernel
theorem pd_3 : parseMethodDescriptor "([CIILjava/lang/Void;)V" = some ⟨[(.array .char), .int, .int, (.object "java/lang/Void")], none⟩ := by decide +kernel
theorem pd_4 : parseMethodDescriptor "()V" = some ⟨[], none⟩ := by decide +kernel
theorem pd_5 : parseMethodDescriptor "(II)I" = some ⟨[.int, .int], some .int⟩ := by decide +kernel
theorem pd_6 : parseMethodDescriptor "(I)[Ljava/lang/Object;" = some ⟨[.int], some (.array (.object "java/lang/Object"))⟩ := by decide +kernel
theorem pd_7 : parseMethodDescriptor "()[Ljava/lang/Object;" = some ⟨[], some (.array (.object "java/lang/Object"))⟩ := by decide +kernel
theorem pd_8 : parseMethodDescriptor "(Ljava/lang/Object;[Ljava/lang/Object;I)V" = some ⟨[(.object "java/lang/Object"), (.array (.object "java/lang/Object")), .int], none⟩ := by decide +kernel
theorem pd_9 : parseMethodDescriptor "(Ljava/lang/Object;)Ljava/lang/Object;" = some ⟨[(.object "java/lang/Object")], some (.object "java/lang/Object")⟩ := by decide +kernel
theorem pd_10 : parseMethodDescriptor "(Ljava/lang/Object;)V" = some ⟨[(.object "java/lang/Object")], none⟩ := by decide +kernel
theorem pd_11 : parseMethodDescriptor "([Ljava/lang/Object;ILjava/lang/Class;)[Ljava/lang/Object;" = some ⟨[(.array (.object "java/lang/Object")), .int, (.object "java/lang/Class")], some (.array (.object "java/lang/Object"))⟩ := by decide +kernel
theorem pd_12 : parseMethodDescriptor "([Ljava/lang/Object;I)[Ljava/lang/Object;" = some ⟨[(.array (.object "java/lang/Object")), .int], some (.array (.object "java/lang/Object"))⟩ := by decide +kernel
theorem pd_13 : parseMethodDescriptor "()Z" = some ⟨[], some .boolean⟩ := by decide +kernel
theorem pd_14 : parseMethodDescriptor "()Ljava/util/List;" = some ⟨[], some (.object "java/util/List")⟩ := by decide +kernel
theorem pd_15 : parseMethodDescriptor "([Ljava/lang/Object;)Ljava/util/List;" = some ⟨[(.array (.object "java/lang/Object"))], some (.object "java/util/List")⟩ := by decide +kernel
theorem pd_16 : parseMethodDescriptor "(Ljava/util/Collection;)Ljava/util/List;" = some ⟨[(.object "java/util/Collection")], some (.object "java/util/List")⟩ := by decide +kernel
theorem pd_17 : parseMethodDescriptor "(Lcom/example/sumgen/sumgen/model/SumType;Lcom/example/sumgen/sumgen/model/SumType;Ljava/util/List;Ljava/util/List;Ljava/util/List;Ljava/util/List;)V" = some ⟨[(.object "com/example/sumgen/sumgen/model/SumType"), (.object "com/example/sumgen/sumgen/model/SumType"), (.object "java/util/List"), (.object "java/util/List"), (.object "java/util/List"), (.object "java/util/List")], none⟩ := by decide +kernel
theorem pd_18 : parseMethodDescriptor "(Ljava/lang/String;Lcom/example/sumgen/sumgen/model/FieldType;Lcom/example/sumgen/sumgen/model/Field$Multiplicity;Lcom/example/sumgen/sumgen/model/Place;)V" = some ⟨[(.object "java/lang/String"), (.object "com/example/sumgen/sumgen/model/FieldType"), (.object "com/example/sumgen/sumgen/model/Field$Multiplicity"), (.object "com/example/sumgen/sumgen/model/Place")], none⟩ := by decide +kernel
theorem pd_19 : parseMethodDescriptor "(Ljava/lang/Object;)Z" = some ⟨[(.object "java/lang/Object")], some .boolean⟩ := by decide +kernel
theorem pd_20 : parseMethodDescriptor "([C)V" = some ⟨[(.array .char)], none⟩ := by decide +kernel
theorem pd_21 : parseMethodDescriptor "(Ljava/lang/String;Ljava/lang/String;Ljava/util/List;Ljava/util/List;Lcom/example/sumgen/sumgen/model/Place;Lcom/example/sumgen/sumgen/model/Place;)V" = some ⟨[(.object "java/lang/String"), (.object "java/lang/String"), (.object "java/util/List"), (.object "java/util/List"), (.object "com/example/sumgen/sumgen/model/Place"), (.object "com/example/sumgen/sumgen/model/Place")], none⟩ := by decide +kernel
theorem ic_0 : Int32.ofInt (0) = (0 : Int32) := by decide
theorem ic_1 : Int32.ofInt (1) = (1 : Int32) := by decide
theorem ic_2 : Int32.ofInt (2) = (2 : Int32) := by decide
theorem ic_4 : Int32.ofInt (4) = (4 : Int32) := by decide
theorem icb_8 : (Int8.ofInt (8)).toInt32 = (8 : Int32) := by decide
theorem icb_10 : (Int8.ofInt (10)).toInt32 = (10 : Int32) := by decide
theorem icb_16 : (Int8.ofInt (16)).toInt32 = (16 : Int32) := by decide
theorem icb_31 : (Int8.ofInt (31)).toInt32 = (31 : Int32) := by decide
theorem ics_255 : (Int16.ofInt (255)).toInt32 = (255 : Int32) := by decide
theorem d_prog_14_method_1_0 : decode prog_14_method_1_code 0 = .ok (.aload_n 0, 1) := by decide +kernel
theorem d_prog_14_method_1_1 : decode prog_14_method_1_code 1 = .ok (.invokespecial 1, 3) := by decide +kernel
theorem d_prog_14_method_1_4 : decode prog_14_method_1_code 4 = .ok (.aload_n 0, 1) := by decide +kernel
theorem d_prog_14_method_1_5 : decode prog_14_method_1_code 5 = .ok (.aload_n 1, 1) := by decide +kernel
theorem d_prog_14_method_1_6 : decode prog_14_method_1_code 6 = .ok (.putfield 7, 3) := by decide +kernel
theorem d_prog_14_method_1_9 : decode prog_14_method_1_code 9 = .ok (.aload_n 0, 1) := by decide +kernel
theorem d_prog_14_method_1_10 : decode prog_14_method_1_code 10 = .ok (.aload_n 2, 1) := by decide +kernel
theorem d_prog_14_method_1_11 : decode prog_14_method_1_code 11 = .ok (.putfield 13, 3) := by decide +kernel
theorem d_prog_14_method_1_14 : decode prog_14_method_1_code 14 = .ok (.aload_n 0, 1) := by decide +kernel
theorem d_prog_14_method_1_15 : decode prog_14_method_1_code 15 = .ok (.aload_n 3, 1) := by decide +kernel
theorem d_prog_14_method_1_16 : decode prog_14_method_1_code 16 = .ok (.putfield 17, 3) := by decide +kernel
theorem d_prog_14_method_1_19 : decode prog_14_method_1_code 19 = .ok (.aload_n 0, 1) := by decide +kernel
theorem d_prog_14_method_1_20 : decode prog_14_method_1_code 20 = .ok (.aload 4, 2) := by decide +kernel
theorem d_prog_14_method_1_22 : decode prog_14_method_1_code 22 = .ok (.putfield 21, 3) := by decide +kernel
theorem d_prog_14_method_1_25 : decode prog_14_method_1_code 25 = .ok (.return_, 1) := by decide +kernel
theorem d_prog_25_method_1_0 : decode prog_25_method_1_code 0 = .ok (.aload_n 0, 1) := by decide +kernel
theorem d_prog_25_method_1_1 : decode prog_25_method_1_code 1 = .ok (.invokespecial 1, 3) := by decide +kernel
theorem d_prog_25_method_1_4 : decode prog_25_method_1_code 4 = .ok (.aload_n 3, 1) := by decide +kernel
theorem d_prog_25_method_1_5 : decode prog_25_method_1_code 5 = .ok (.invokestatic 7, 3) := by decide +kernel
theorem d_prog_25_method_1_8 : decode prog_25_method_1_code 8 = .ok (.astore_n 3, 1) := by decide +kernel
theorem d_prog_25_method_1_9 : decode prog_25_method_1_code 9 = .ok (.aload 4, 2) := by decide +kernel
theorem d_prog_25_method_1_11 : decode prog_25_method_1_code 11 = .ok (.invokestatic 7, 3) := by decide +kernel
theorem d_prog_25_method_1_14 : decode prog_25_method_1_code 14 = .ok (.astore 4, 2) := by decide +kernel
theorem d_prog_25_method_1_16 : decode prog_25_method_1_code 16 = .ok (.aload 4, 2) := by decide +kernel
theorem d_prog_25_method_1_18 : decode prog_25_method_1_code 18 = .ok (.invokeinterface 13 1, 5) := by decide +kernel
theorem d_prog_25_method_1_23 : decode prog_25_method_1_code 23 = .ok (.aload_n 2, 1) := by decide +kernel
theorem d_prog_25_method_1_24 : decode prog_25_method_1_code 24 = .ok (.ifnonnull 7, 3) := by decide +kernel
theorem d_prog_25_method_1_27 : decode prog_25_method_1_code 27 = .ok (.iconst 1, 1) := by decide +kernel
theorem d_prog_25_method_1_28 : decode prog_25_method_1_code 28 = .ok (.goto 4, 3) := by decide +kernel
theorem d_prog_25_method_1_32 : decode prog_25_method_1_code 32 = .ok (.if_icmp .eq 17, 3) := by decide +kernel
theorem d_prog_25_method_1_49 : decode prog_25_method_1_code 49 = .ok (.aload_n 0, 1) := by decide +kernel
theorem d_prog_25_method_1_50 : decode prog_25_method_1_code 50 = .ok (.aload_n 1, 1) := by decide +kernel
theorem d_prog_25_method_1_51 : decode prog_25_method_1_code 51 = .ok (.putfield 26, 3) := by decide +kernel
theorem d_prog_25_method_1_54 : decode prog_25_method_1_code 54 = .ok (.aload_n 0, 1) := by decide +kernel
theorem d_prog_25_method_1_55 : decode prog_25_method_1_code 55 = .ok (.aload_n 2, 1) := by decide +kernel
theorem d_prog_25_method_1_56 : decode prog_25_method_1_code 56 = .ok (.putfield 32, 3) := by decide +kernel
theorem d_prog_25_method_1_59 : decode prog_25_method_1_code 59 = .ok (.aload_n 0, 1) := by decide +kernel
theorem d_prog_25_method_1_60 : decode prog_25_method_1_code 60 = .ok (.aload_n 3, 1) := by decide +kernel
theorem d_prog_25_method_1_61 : decode prog_25_method_1_code 61 = .ok (.putfield 35, 3) := by decide +kernel
theorem d_prog_25_method_1_64 : decode prog_25_method_1_code 64 = .ok (.aload_n 0, 1) := by decide +kernel
theorem d_prog_25_method_1_65 : decode prog_25_method_1_code 65 = .ok (.aload 4, 2) := by decide +kernel
theorem d_prog_25_method_1_67 : decode prog_25_method_1_code 67 = .ok (.putfield 39, 3) := by decide +kernel
theorem d_prog_25_method_1_70 : decode prog_25_method_1_code 70 = .ok (.aload_n 0, 1) := by decide +kernel
theorem d_prog_25_method_1_71 : decode prog_25_method_1_code 71 = .ok (.aload 5, 2) := by decide +kernel
theorem d_prog_25_method_1_73 : decode prog_25_method_1_code 73 = .ok (.putfield 42, 3) := by decide +kernel
theorem d_prog_25_method_1_76 : decode prog_25_method_1_code 76 = .ok (.aload_n 0, 1) := by decide +kernel
theorem d_prog_25_method_1_77 : decode prog_25_method_1_code 77 = .ok (.aload 6, 2) := by decide +kernel
theorem d_prog_25_method_1_79 : decode prog_25_method_1_code 79 = .ok (.putfield 46, 3) := by decide +kernel
theorem d_prog_25_method_1_82 : decode prog_25_method_1_code 82 = .ok (.return_, 1) := by decide +kernel
theorem d_prog_30_method_1_0 : decode prog_30_method_1_code 0 = .ok (.aload_n 0, 1) := by decide +kernel
theorem d_prog_30_method_1_1 : decode prog_30_method_1_code 1 = .ok (.invokespecial 1, 3) := by decide +kernel
theorem d_prog_30_method_1_4 : decode prog_30_method_1_code 4 = .ok (.aload_n 3, 1) := by decide +kernel
theorem d_prog_30_method_1_5 : decode prog_30_method_1_code 5 = .ok (.invokestatic 7, 3) := by decide +kernel
theorem d_prog_30_method_1_8 : decode prog_30_method_1_code 8 = .ok (.astore_n 3, 1) := by decide +kernel
theorem d_prog_30_method_1_9 : decode prog_30_method_1_code 9 = .ok (.aload 4, 2) := by decide +kernel
theorem d_prog_30_method_1_11 : decode prog_30_method_1_code 11 = .ok (.invokestatic 7, 3) := by decide +kernel
theorem d_prog_30_method_1_14 : decode prog_30_method_1_code 14 = .ok (.astore 4, 2) := by decide +kernel
theorem d_prog_30_method_1_16 : decode prog_30_method_1_code 16 = .ok (.aload 5, 2) := by decide +kernel
theorem d_prog_30_method_1_18 : decode prog_30_method_1_code 18 = .ok (.invokestatic 7, 3) := by decide +kernel
theorem d_prog_30_method_1_21 : decode prog_30_method_1_code 21 = .ok (.astore 5, 2) := by decide +kernel
theorem d_prog_30_method_1_23 : decode prog_30_method_1_code 23 = .ok (.aload 6, 2) := by decide +kernel
theorem d_prog_30_method_1_25 : decode prog_30_method_1_code 25 = .ok (.invokestatic 7, 3) := by decide +kernel
theorem d_prog_30_method_1_28 : decode prog_30_method_1_code 28 = .ok (.astore 6, 2) := by decide +kernel
theorem d_prog_30_method_1_30 : decode prog_30_method_1_code 30 = .ok (.aload_n 0, 1) := by decide +kernel
theorem d_prog_30_method_1_31 : decode prog_30_method_1_code 31 = .ok (.aload_n 1, 1) := by decide +kernel
theorem d_prog_30_method_1_32 : decode prog_30_method_1_code 32 = .ok (.putfield 13, 3) := by decide +kernel
theorem d_prog_30_method_1_35 : decode prog_30_method_1_code 35 = .ok (.aload_n 0, 1) := by decide +kernel
theorem d_prog_30_method_1_36 : decode prog_30_method_1_code 36 = .ok (.aload_n 2, 1) := by decide +kernel
theorem d_prog_30_method_1_37 : decode prog_30_method_1_code 37 = .ok (.putfield 19, 3) := by decide +kernel
theorem d_prog_30_method_1_40 : decode prog_30_method_1_code 40 = .ok (.aload_n 0, 1) := by decide +kernel
theorem d_prog_30_method_1_41 : decode prog_30_method_1_code 41 = .ok (.aload_n 3, 1) := by decide +kernel
theorem d_prog_30_method_1_42 : decode prog_30_method_1_code 42 = .ok (.putfield 22, 3) := by decide +kernel
theorem d_prog_30_method_1_45 : decode prog_30_method_1_code 45 = .ok (.aload_n 0, 1) := by decide +kernel
theorem d_prog_30_method_1_46 : decode prog_30_method_1_code 46 = .ok (.aload 4, 2) := by decide +kernel
theorem d_prog_30_method_1_48 : decode prog_30_method_1_code 48 = .ok (.putfield 26, 3) := by decide +kernel
theorem d_prog_30_method_1_51 : decode prog_30_method_1_code 51 = .ok (.aload_n 0, 1) := by decide +kernel
theorem d_prog_30_method_1_52 : decode prog_30_method_1_code 52 = .ok (.aload 5, 2) := by decide +kernel
theorem d_prog_30_method_1_54 : decode prog_30_method_1_code 54 = .ok (.putfield 29, 3) := by decide +kernel
theorem d_prog_30_method_1_57 : decode prog_30_method_1_code 57 = .ok (.aload_n 0, 1) := by decide +kernel
theorem d_prog_30_method_1_58 : decode prog_30_method_1_code 58 = .ok (.aload 6, 2) := by decide +kernel
theorem d_prog_30_method_1_60 : decode prog_30_method_1_code 60 = .ok (.putfield 32, 3) := by decide +kernel
theorem d_prog_30_method_1_63 : decode prog_30_method_1_code 63 = .ok (.return_, 1) := by decide +kernel
theorem d_prog_30_method_2_0 : decode prog_30_method_2_code 0 = .ok (.aload_n 0, 1) := by decide +kernel
theorem d_prog_30_method_2_1 : decode prog_30_method_2_code 1 = .ok (.getfield 13, 3) := by decide +kernel
theorem d_prog_30_method_2_4 : decode prog_30_method_2_code 4 = .ok (.ifnonnull 7, 3) := by decide +kernel
theorem d_prog_30_method_2_7 : decode prog_30_method_2_code 7 = .ok (.iconst 1, 1) := by decide +kernel
theorem d_prog_30_method_2_8 : decode prog_30_method_2_code 8 = .ok (.goto 4, 3) := by decide +kernel
theorem d_prog_30_method_2_11 : decode prog_30_method_2_code 11 = .ok (.iconst 0, 1) := by decide +kernel
theorem d_prog_30_method_2_12 : decode prog_30_method_2_code 12 = .ok (.ireturn, 1) := by decide +kernel
theorem d_jdk_29_method_65_0 : decode jdk_29_method_65_code 0 = .ok (.iload_n 0, 1) := by decide +kernel
theorem d_jdk_29_method_65_1 : decode jdk_29_method_65_code 1 = .ok (.iload_n 1, 1) := by decide +kernel
theorem d_jdk_29_method_65_2 : decode jdk_29_method_65_code 2 = .ok (.if_icmp .lt 7, 3) := by decide +kernel
theorem d_jdk_29_method_65_5 : decode jdk_29_method_65_code 5 = .ok (.iload_n 0, 1) := by decide +kernel
theorem d_jdk_29_method_65_6 : decode jdk_29_method_65_code 6 = .ok (.goto 4, 3) := by decide +kernel
theorem d_jdk_29_method_65_9 : decode jdk_29_method_65_code 9 = .ok (.iload_n 1, 1) := by decide +kernel
theorem d_jdk_29_method_65_10 : decode jdk_29_method_65_code 10 = .ok (.ireturn, 1) := by decide +kernel
theorem d_jdk_29_method_69_0 : decode jdk_29_method_69_code 0 = .ok (.iload_n 0, 1) := by decide +kernel
theorem d_jdk_29_method_69_1 : decode jdk_29_method_69_code 1 = .ok (.iload_n 1, 1) := by decide +kernel
theorem d_jdk_29_method_69_2 : decode jdk_29_method_69_code 2 = .ok (.if_icmp .gt 7, 3) := by decide +kernel
theorem d_jdk_29_method_69_5 : decode jdk_29_method_69_code 5 = .ok (.iload_n 0, 1) := by decide +kernel
theorem d_jdk_29_method_69_6 : decode jdk_29_method_69_code 6 = .ok (.goto 4, 3) := by decide +kernel
theorem d_jdk_29_method_69_9 : decode jdk_29_method_69_code 9 = .ok (.iload_n 1, 1) := by decide +kernel
theorem d_jdk_29_method_69_10 : decode jdk_29_method_69_code 10 = .ok (.ireturn, 1) := by decide +kernel
theorem d_jdk_30_method_1_0 : decode jdk_30_method_1_code 0 = .ok (.aload_n 0, 1) := by decide +kernel
theorem d_jdk_30_method_1_1 : decode jdk_30_method_1_code 1 = .ok (.invokespecial 1, 3) := by decide +kernel
theorem d_jdk_30_method_1_4 : decode jdk_30_method_1_code 4 = .ok (.return_, 1) := by decide +kernel
theorem d_jdk_42_method_3_0 : decode jdk_42_method_3_code 0 = .ok (.aload_n 0, 1) := by decide +kernel
theorem d_jdk_42_method_3_1 : decode jdk_42_method_3_code 1 = .ok (.aload_n 1, 1) := by decide +kernel
theorem d_jdk_42_method_3_2 : decode jdk_42_method_3_code 2 = .ok (.iconst 0, 1) := by decide +kernel
theorem d_jdk_42_method_3_3 : decode jdk_42_method_3_code 3 = .ok (.aload_n 1, 1) := by decide +kernel
theorem d_jdk_42_method_3_4 : decode jdk_42_method_3_code 4 = .ok (.arraylength, 1) := by decide +kernel
theorem d_jdk_42_method_3_5 : decode jdk_42_method_3_code 5 = .ok (.aconst_null, 1) := by decide +kernel
theorem d_jdk_42_method_3_6 : decode jdk_42_method_3_code 6 = .ok (.invokespecial 27, 3) := by decide +kernel
theorem d_jdk_42_method_3_9 : decode jdk_42_method_3_code 9 = .ok (.return_, 1) := by decide +kernel
theorem d_jdk_42_method_149_0 : decode jdk_42_method_149_code 0 = .ok (.aload_n 0, 1) := by decide +kernel
theorem d_jdk_42_method_149_1 : decode jdk_42_method_149_code 1 = .ok (.invokespecial 1, 3) := by decide +kernel
theorem d_jdk_42_method_149_4 : decode jdk_42_method_149_code 4 = .ok (.iload_n 3, 1) := by decide +kernel
theorem d_jdk_42_method_149_5 : decode jdk_42_method_149_code 5 = .ok (.ifCond .ne 22, 3) := by decide +kernel
theorem d_jdk_42_method_149_27 : decode jdk_42_method_149_code 27 = .ok (.getstatic 38, 3) := by decide +kernel
theorem d_jdk_42_method_149_30 : decode jdk_42_method_149_code 30 = .ok (.ifCond .eq 28, 3) := by decide +kernel
theorem d_jdk_42_method_149_33 : decode jdk_42_method_149_code 33 = .ok (.aload_n 1, 1) := by decide +kernel
theorem d_jdk_42_method_149_34 : decode jdk_42_method_149_code 34 = .ok (.iload_n 2, 1) := by decide +kernel
theorem d_jdk_42_method_149_35 : decode jdk_42_method_149_code 35 = .ok (.iload_n 3, 1) := by decide +kernel
theorem d_jdk_42_method_149_36 : decode jdk_42_method_149_code 36 = .ok (.invokestatic 177, 3) := by decide +kernel
theorem d_jdk_42_method_149_39 : decode jdk_42_method_149_code 39 = .ok (.astore 5, 2) := by decide +kernel
theorem d_jdk_42_method_149_41 : decode jdk_42_method_149_code 41 = .ok (.aload_n 0, 1) := by decide +kernel
theorem d_jdk_42_method_149_42 : decode jdk_42_method_149_code 42 = .ok (.aload 5, 2) := by decide +kernel
theorem d_jdk_42_method_149_44 : decode jdk_42_method_149_code 44 = .ok (.iload_n 3, 1) := by decide +kernel
theorem d_jdk_42_method_149_45 : decode jdk_42_method_149_code 45 = .ok (.invokestatic 47, 3) := by decide +kernel
theorem d_jdk_42_method_149_48 : decode jdk_42_method_149_code 48 = .ok (.putfield 15, 3) := by decide +kernel
theorem d_jdk_42_method_149_51 : decode jdk_42_method_149_code 51 = .ok (.aload_n 0, 1) := by decide +kernel
theorem d_jdk_42_method_149_52 : decode jdk_42_method_149_code 52 = .ok (.aload 5, 2) := by decide +kernel
theorem d_jdk_42_method_149_54 : decode jdk_42_method_149_code 54 = .ok (.putfield 9, 3) := by decide +kernel
theorem d_jdk_42_method_149_57 : decode jdk_42_method_149_code 57 = .ok (.return_, 1) := by decide +kernel
theorem d_jdk_52_method_15_0 : decode jdk_52_method_15_code 0 = .ok (.iload_n 1, 1) := by decide +kernel
theorem d_jdk_52_method_15_1 : decode jdk_52_method_15_code 1 = .ok (.aload_n 0, 1) := by decide +kernel
theorem d_jdk_52_method_15_2 : decode jdk_52_method_15_code 2 = .ok (.arraylength, 1) := by decide +kernel
theorem d_jdk_52_method_15_3 : decode jdk_52_method_15_code 3 = .ok (.isub, 1) := by decide +kernel
theorem d_jdk_52_method_15_4 : decode jdk_52_method_15_code 4 = .ok (.bipush 31, 2) := by decide +kernel
theorem d_jdk_52_method_15_6 : decode jdk_52_method_15_code 6 = .ok (.iushr, 1) := by decide +kernel
theorem d_jdk_52_method_15_7 : decode jdk_52_method_15_code 7 = .ok (.i2b, 1) := by decide +kernel
theorem d_jdk_52_method_15_8 : decode jdk_52_method_15_code 8 = .ok (.ireturn, 1) := by decide +kernel
theorem d_jdk_52_method_16_0 : decode jdk_52_method_16_code 0 = .ok (.iload_n 2, 1) := by decide +kernel
theorem d_jdk_52_method_16_1 : decode jdk_52_method_16_code 1 = .ok (.newarray .byte, 2) := by decide +kernel
theorem d_jdk_52_method_16_3 : decode jdk_52_method_16_code 3 = .ok (.astore_n 3, 1) := by decide +kernel
theorem d_jdk_52_method_16_4 : decode jdk_52_method_16_code 4 = .ok (.aload_n 0, 1) := by decide +kernel
theorem d_jdk_52_method_16_5 : decode jdk_52_method_16_code 5 = .ok (.iload_n 1, 1) := by decide +kernel
theorem d_jdk_52_method_16_6 : decode jdk_52_method_16_code 6 = .ok (.aload_n 3, 1) := by decide +kernel
theorem d_jdk_52_method_16_7 : decode jdk_52_method_16_code 7 = .ok (.iconst 0, 1) := by decide +kernel
theorem d_jdk_52_method_16_8 : decode jdk_52_method_16_code 8 = .ok (.iload_n 2, 1) := by decide +kernel
theorem d_jdk_52_method_16_9 : decode jdk_52_method_16_code 9 = .ok (.invokestatic 115, 3) := by decide +kernel
theorem d_jdk_52_method_16_12 : decode jdk_52_method_16_code 12 = .ok (.istore 4, 2) := by decide +kernel
theorem d_jdk_52_method_16_14 : decode jdk_52_method_16_code 14 = .ok (.iload 4, 2) := by decide +kernel
theorem d_jdk_52_method_16_16 : decode jdk_52_method_16_code 16 = .ok (.iload_n 2, 1) := by decide +kernel
theorem d_jdk_52_method_16_17 : decode jdk_52_method_16_code 17 = .ok (.if_icmp .eq 40, 3) := by decide +kernel
theorem d_jdk_52_method_16_57 : decode jdk_52_method_16_code 57 = .ok (.aload_n 3, 1) := by decide +kernel
theorem d_jdk_52_method_16_58 : decode jdk_52_method_16_code 58 = .ok (.areturn, 1) := by decide +kernel
theorem d_jdk_52_method_21_0 : decode jdk_52_method_21_code 0 = .ok (.iconst 0, 1) := by decide +kernel
theorem d_jdk_52_method_21_1 : decode jdk_52_method_21_code 1 = .ok (.istore 5, 2) := by decide +kernel
theorem d_jdk_52_method_21_3 : decode jdk_52_method_21_code 3 = .ok (.iload 5, 2) := by decide +kernel
theorem d_jdk_52_method_21_5 : decode jdk_52_method_21_code 5 = .ok (.iload 4, 2) := by decide +kernel
theorem d_jdk_52_method_21_7 : decode jdk_52_method_21_code 7 = .ok (.if_icmp .ge 37, 3) := by decide +kernel
theorem d_jdk_52_method_21_10 : decode jdk_52_method_21_code 10 = .ok (.aload_n 0, 1) := by decide +kernel
theorem d_jdk_52_method_21_11 : decode jdk_52_method_21_code 11 = .ok (.iload_n 1, 1) := by decide +kernel
theorem d_jdk_52_method_21_12 : decode jdk_52_method_21_code 12 = .ok (.caload, 1) := by decide +kernel
theorem d_jdk_52_method_21_13 : decode jdk_52_method_21_code 13 = .ok (.istore 6, 2) := by decide +kernel
theorem d_jdk_52_method_21_15 : decode jdk_52_method_21_code 15 = .ok (.iload 6, 2) := by decide +kernel
theorem d_jdk_52_method_21_17 : decode jdk_52_method_21_code 17 = .ok (.sipush 255, 3) := by decide +kernel
theorem d_jdk_52_method_21_20 : decode jdk_52_method_21_code 20 = .ok (.if_icmp .le 6, 3) := by decide +kernel
theorem d_jdk_52_method_21_26 : decode jdk_52_method_21_code 26 = .ok (.aload_n 2, 1) := by decide +kernel
theorem d_jdk_52_method_21_27 : decode jdk_52_method_21_code 27 = .ok (.iload_n 3, 1) := by decide +kernel
theorem d_jdk_52_method_21_28 : decode jdk_52_method_21_code 28 = .ok (.iload 6, 2) := by decide +kernel
theorem d_jdk_52_method_21_30 : decode jdk_52_method_21_code 30 = .ok (.i2b, 1) := by decide +kernel
theorem d_jdk_52_method_21_31 : decode jdk_52_method_21_code 31 = .ok (.bastore, 1) := by decide +kernel
theorem d_jdk_52_method_21_32 : decode jdk_52_method_21_code 32 = .ok (.iinc 1 1, 3) := by decide +kernel
theorem d_jdk_52_method_21_35 : decode jdk_52_method_21_code 35 = .ok (.iinc 3 1, 3) := by decide +kernel
theorem d_jdk_52_method_21_38 : decode jdk_52_method_21_code 38 = .ok (.iinc 5 1, 3) := by decide +kernel
theorem d_jdk_52_method_21_41 : decode jdk_52_method_21_code 41 = .ok (.goto (-38), 3) := by decide +kernel
theorem d_jdk_52_method_21_44 : decode jdk_52_method_21_code 44 = .ok (.iload 4, 2) := by decide +kernel
theorem d_jdk_52_method_21_46 : decode jdk_52_method_21_code 46 = .ok (.ireturn, 1) := by decide +kernel
theorem d_jdk_22_method_1_0 : decode jdk_22_method_1_code 0 = .ok (.aload_n 0, 1) := by decide +kernel
theorem d_jdk_22_method_1_1 : decode jdk_22_method_1_code 1 = .ok (.invokespecial 1, 3) := by decide +kernel
theorem d_jdk_22_method_1_4 : decode jdk_22_method_1_code 4 = .ok (.return_, 1) := by decide +kernel
theorem d_jdk_39_method_1_0 : decode jdk_39_method_1_code 0 = .ok (.aload_n 0, 1) := by decide +kernel
theorem d_jdk_39_method_1_1 : decode jdk_39_method_1_code 1 = .ok (.invokespecial 1, 3) := by decide +kernel
theorem d_jdk_39_method_1_4 : decode jdk_39_method_1_code 4 = .ok (.aload_n 0, 1) := by decide +kernel
theorem d_jdk_39_method_1_5 : decode jdk_39_method_1_code 5 = .ok (.iconst 0, 1) := by decide +kernel
theorem d_jdk_39_method_1_6 : decode jdk_39_method_1_code 6 = .ok (.putfield 7, 3) := by decide +kernel
theorem d_jdk_39_method_1_9 : decode jdk_39_method_1_code 9 = .ok (.return_, 1) := by decide +kernel
theorem d_jdk_38_method_2_0 : decode jdk_38_method_2_code 0 = .ok (.aload_n 0, 1) := by decide +kernel
theorem d_jdk_38_method_2_1 : decode jdk_38_method_2_code 1 = .ok (.invokespecial 1, 3) := by decide +kernel
theorem d_jdk_38_method_2_4 : decode jdk_38_method_2_code 4 = .ok (.aload_n 0, 1) := by decide +kernel
theorem d_jdk_38_method_2_5 : decode jdk_38_method_2_code 5 = .ok (.getstatic 39, 3) := by decide +kernel
theorem d_jdk_38_method_2_8 : decode jdk_38_method_2_code 8 = .ok (.putfield 9, 3) := by decide +kernel
theorem d_jdk_38_method_2_11 : decode jdk_38_method_2_code 11 = .ok (.return_, 1) := by decide +kernel
theorem d_jdk_38_method_25_0 : decode jdk_38_method_25_code 0 = .ok (.aload_n 0, 1) := by decide +kernel
theorem d_jdk_38_method_25_1 : decode jdk_38_method_25_code 1 = .ok (.dup, 1) := by decide +kernel
theorem d_jdk_38_method_25_2 : decode jdk_38_method_25_code 2 = .ok (.getfield 63, 3) := by decide +kernel
theorem d_jdk_38_method_25_5 : decode jdk_38_method_25_code 5 = .ok (.iconst 1, 1) := by decide +kernel
theorem d_jdk_38_method_25_6 : decode jdk_38_method_25_code 6 = .ok (.iadd, 1) := by decide +kernel
theorem d_jdk_38_method_25_7 : decode jdk_38_method_25_code 7 = .ok (.putfield 63, 3) := by decide +kernel
theorem d_jdk_38_method_25_10 : decode jdk_38_method_25_code 10 = .ok (.aload_n 0, 1) := by decide +kernel
theorem d_jdk_38_method_25_11 : decode jdk_38_method_25_code 11 = .ok (.aload_n 1, 1) := by decide +kernel
theorem d_jdk_38_method_25_12 : decode jdk_38_method_25_code 12 = .ok (.aload_n 0, 1) := by decide +kernel
theorem d_jdk_38_method_25_13 : decode jdk_38_method_25_code 13 = .ok (.getfield 9, 3) := by decide +kernel
theorem d_jdk_38_method_25_16 : decode jdk_38_method_25_code 16 = .ok (.aload_n 0, 1) := by decide +kernel
theorem d_jdk_38_method_25_17 : decode jdk_38_method_25_code 17 = .ok (.getfield 48, 3) := by decide +kernel
theorem d_jdk_38_method_25_20 : decode jdk_38_method_25_code 20 = .ok (.invokevirtual 131, 3) := by decide +kernel
theorem d_jdk_38_method_25_23 : decode jdk_38_method_25_code 23 = .ok (.iconst 1, 1) := by decide +kernel
theorem d_jdk_38_method_25_24 : decode jdk_38_method_25_code 24 = .ok (.ireturn, 1) := by decide +kernel
theorem d_jdk_38_method_24_0 : decode jdk_38_method_24_code 0 = .ok (.iload_n 3, 1) := by decide +kernel
theorem d_jdk_38_method_24_1 : decode jdk_38_method_24_code 1 = .ok (.aload_n 2, 1) := by decide +kernel
theorem d_jdk_38_method_24_2 : decode jdk_38_method_24_code 2 = .ok (.arraylength, 1) := by decide +kernel
theorem d_jdk_38_method_24_3 : decode jdk_38_method_24_code 3 = .ok (.if_icmp .ne 8, 3) := by decide +kernel
theorem d_jdk_38_method_24_6 : decode jdk_38_method_24_code 6 = .ok (.aload_n 0, 1) := by decide +kernel
theorem d_jdk_38_method_24_7 : decode jdk_38_method_24_code 7 = .ok (.invokevirtual 129, 3) := by decide +kernel
theorem d_jdk_38_method_24_10 : decode jdk_38_method_24_code 10 = .ok (.astore_n 2, 1) := by decide +kernel
theorem d_jdk_38_method_24_11 : decode jdk_38_method_24_code 11 = .ok (.aload_n 2, 1) := by decide +kernel
theorem d_jdk_38_method_24_12 : decode jdk_38_method_24_code 12 = .ok (.iload_n 3, 1) := by decide +kernel
theorem d_jdk_38_method_24_13 : decode jdk_38_method_24_code 13 = .ok (.aload_n 1, 1) := by decide +kernel
theorem d_jdk_38_method_24_14 : decode jdk_38_method_24_code 14 = .ok (.aastore, 1) := by decide +kernel
theorem d_jdk_38_method_24_15 : decode jdk_38_method_24_code 15 = .ok (.aload_n 0, 1) := by decide +kernel
theorem d_jdk_38_method_24_16 : decode jdk_38_method_24_code 16 = .ok (.iload_n 3, 1) := by decide +kernel
theorem d_jdk_38_method_24_17 : decode jdk_38_method_24_code 17 = .ok (.iconst 1, 1) := by decide +kernel
theorem d_jdk_38_method_24_18 : decode jdk_38_method_24_code 18 = .ok (.iadd, 1) := by decide +kernel
theorem d_jdk_38_method_24_19 : decode jdk_38_method_24_code 19 = .ok (.putfield 48, 3) := by decide +kernel
theorem d_jdk_38_method_24_22 : decode jdk_38_method_24_code 22 = .ok (.return_, 1) := by decide +kernel
theorem d_jdk_38_method_7_0 : decode jdk_38_method_7_code 0 = .ok (.aload_n 0, 1) := by decide +kernel
theorem d_jdk_38_method_7_1 : decode jdk_38_method_7_code 1 = .ok (.aload_n 0, 1) := by decide +kernel
theorem d_jdk_38_method_7_2 : decode jdk_38_method_7_code 2 = .ok (.getfield 48, 3) := by decide +kernel
theorem d_jdk_38_method_7_5 : decode jdk_38_method_7_code 5 = .ok (.iconst 1, 1) := by decide +kernel
theorem d_jdk_38_method_7_6 : decode jdk_38_method_7_code 6 = .ok (.iadd, 1) := by decide +kernel
theorem d_jdk_38_method_7_7 : decode jdk_38_method_7_code 7 = .ok (.invokevirtual 69, 3) := by decide +kernel
theorem d_jdk_38_method_7_10 : decode jdk_38_method_7_code 10 = .ok (.areturn, 1) := by decide +kernel
theorem d_jdk_38_method_6_0 : decode jdk_38_method_6_code 0 = .ok (.aload_n 0, 1) := by decide +kernel
theorem d_jdk_38_method_6_1 : decode jdk_38_method_6_code 1 = .ok (.getfield 9, 3) := by decide +kernel
theorem d_jdk_38_method_6_4 : decode jdk_38_method_6_code 4 = .ok (.arraylength, 1) := by decide +kernel
theorem d_jdk_38_method_6_5 : decode jdk_38_method_6_code 5 = .ok (.istore_n 2, 1) := by decide +kernel
theorem d_jdk_38_method_6_6 : decode jdk_38_method_6_code 6 = .ok (.iload_n 2, 1) := by decide +kernel
theorem d_jdk_38_method_6_7 : decode jdk_38_method_6_code 7 = .ok (.ifCond .gt 13, 3) := by decide +kernel
theorem d_jdk_38_method_6_10 : decode jdk_38_method_6_code 10 = .ok (.aload_n 0, 1) := by decide +kernel
theorem d_jdk_38_method_6_11 : decode jdk_38_method_6_code 11 = .ok (.getfield 9, 3) := by decide +kernel
theorem d_jdk_38_method_6_14 : decode jdk_38_method_6_code 14 = .ok (.getstatic 39, 3) := by decide +kernel
theorem d_jdk_38_method_6_17 : decode jdk_38_method_6_code 17 = .ok (.if_acmp .eq 28, 3) := by decide +kernel
theorem d_jdk_38_method_6_45 : decode jdk_38_method_6_code 45 = .ok (.aload_n 0, 1) := by decide +kernel
theorem d_jdk_38_method_6_46 : decode jdk_38_method_6_code 46 = .ok (.bipush 10, 2) := by decide +kernel
theorem d_jdk_38_method_6_48 : decode jdk_38_method_6_code 48 = .ok (.iload_n 1, 1) := by decide +kernel
theorem d_jdk_38_method_6_49 : decode jdk_38_method_6_code 49 = .ok (.invokestatic 79, 3) := by decide +kernel
theorem d_jdk_38_method_6_52 : decode jdk_38_method_6_code 52 = .ok (.anewarray 7, 3) := by decide +kernel
theorem d_jdk_38_method_6_55 : decode jdk_38_method_6_code 55 = .ok (.dup_x1, 1) := by decide +kernel
theorem d_jdk_38_method_6_56 : decode jdk_38_method_6_code 56 = .ok (.putfield 9, 3) := by decide +kernel
theorem d_jdk_38_method_6_59 : decode jdk_38_method_6_code 59 = .ok (.areturn, 1) := by decide +kernel
theorem d_jdk_38_method_9_0 : decode jdk_38_method_9_code 0 = .ok (.aload_n 0, 1) := by decide +kernel
theorem d_jdk_38_method_9_1 : decode jdk_38_method_9_code 1 = .ok (.getfield 48, 3) := by decide +kernel
theorem d_jdk_38_method_9_4 : decode jdk_38_method_9_code 4 = .ok (.ifCond .ne 7, 3) := by decide +kernel
theorem d_jdk_38_method_9_7 : decode jdk_38_method_9_code 7 = .ok (.iconst 1, 1) := by decide +kernel
theorem d_jdk_38_method_9_8 : decode jdk_38_method_9_code 8 = .ok (.goto 4, 3) := by decide +kernel
theorem d_jdk_38_method_9_11 : decode jdk_38_method_9_code 11 = .ok (.iconst 0, 1) := by decide +kernel
theorem d_jdk_38_method_9_12 : decode jdk_38_method_9_code 12 = .ok (.ireturn, 1) := by decide +kernel
theorem d_jdk_38_method_16_0 : decode jdk_38_method_16_code 0 = .ok (.aload_n 0, 1) := by decide +kernel
theorem d_jdk_38_method_16_1 : decode jdk_38_method_16_code 1 = .ok (.getfield 9, 3) := by decide +kernel
theorem d_jdk_38_method_16_4 : decode jdk_38_method_16_code 4 = .ok (.aload_n 0, 1) := by decide +kernel
theorem d_jdk_38_method_16_5 : decode jdk_38_method_16_code 5 = .ok (.getfield 48, 3) := by decide +kernel
theorem d_jdk_38_method_16_8 : decode jdk_38_method_16_code 8 = .ok (.invokestatic 66, 3) := by decide +kernel
theorem d_jdk_38_method_16_11 : decode jdk_38_method_16_code 11 = .ok (.areturn, 1) := by decide +kernel
theorem d_jdk_65_method_119_0 : decode jdk_65_method_119_code 0 = .ok (.aload_n 0, 1) := by decide +kernel
theorem d_jdk_65_method_119_1 : decode jdk_65_method_119_code 1 = .ok (.iload_n 1, 1) := by decide +kernel
theorem d_jdk_65_method_119_2 : decode jdk_65_method_119_code 2 = .ok (.aload_n 0, 1) := by decide +kernel
theorem d_jdk_65_method_119_3 : decode jdk_65_method_119_code 3 = .ok (.invokevirtual 86, 3) := by decide +kernel
theorem d_jdk_65_method_119_6 : decode jdk_65_method_119_code 6 = .ok (.invokestatic 300, 3) := by decide +kernel
theorem d_jdk_65_method_119_9 : decode jdk_65_method_119_code 9 = .ok (.areturn, 1) := by decide +kernel
theorem d_jdk_65_method_120_0 : decode jdk_65_method_120_code 0 = .ok (.aload_n 2, 1) := by decide +kernel
theorem d_jdk_65_method_120_1 : decode jdk_65_method_120_code 1 = .ok (.ldc 110, 2) := by decide +kernel
theorem d_jdk_65_method_120_3 : decode jdk_65_method_120_code 3 = .ok (.if_acmp .ne 10, 3) := by decide +kernel
theorem d_jdk_65_method_120_6 : decode jdk_65_method_120_code 6 = .ok (.iload_n 1, 1) := by decide +kernel
theorem d_jdk_65_method_120_7 : decode jdk_65_method_120_code 7 = .ok (.anewarray 2, 3) := by decide +kernel
theorem d_jdk_65_method_120_10 : decode jdk_65_method_120_code 10 = .ok (.goto 14, 3) := by decide +kernel
theorem d_jdk_65_method_120_24 : decode jdk_65_method_120_code 24 = .ok (.astore_n 3, 1) := by decide +kernel
theorem d_jdk_65_method_120_25 : decode jdk_65_method_120_code 25 = .ok (.aload_n 0, 1) := by decide +kernel
theorem d_jdk_65_method_120_26 : decode jdk_65_method_120_code 26 = .ok (.iconst 0, 1) := by decide +kernel
theorem d_jdk_65_method_120_27 : decode jdk_65_method_120_code 27 = .ok (.aload_n 3, 1) := by decide +kernel
theorem d_jdk_65_method_120_28 : decode jdk_65_method_120_code 28 = .ok (.iconst 0, 1) := by decide +kernel
theorem d_jdk_65_method_120_29 : decode jdk_65_method_120_code 29 = .ok (.aload_n 0, 1) := by decide +kernel
theorem d_jdk_65_method_120_30 : decode jdk_65_method_120_code 30 = .ok (.arraylength, 1) := by decide +kernel
theorem d_jdk_65_method_120_31 : decode jdk_65_method_120_code 31 = .ok (.iload_n 1, 1) := by decide +kernel
theorem d_jdk_65_method_120_32 : decode jdk_65_method_120_code 32 = .ok (.invokestatic 304, 3) := by decide +kernel
theorem d_jdk_65_method_120_35 : decode jdk_65_method_120_code 35 = .ok (.invokestatic 150, 3) := by decide +kernel
theorem d_jdk_65_method_120_38 : decode jdk_65_method_120_code 38 = .ok (.aload_n 3, 1) := by decide +kernel
theorem d_jdk_65_method_120_39 : decode jdk_65_method_120_code 39 = .ok (.areturn, 1) := by decide +kernel
theorem d_jdk_56_method_3_0 : decode jdk_56_method_3_code 0 = .ok (.aload_n 0, 1) := by decide +kernel
theorem d_jdk_56_method_3_1 : decode jdk_56_method_3_code 1 = .ok (.instanceof 10, 3) := by decide +kernel
theorem d_jdk_56_method_3_4 : decode jdk_56_method_3_code 4 = .ok (.ifCond .ne 22, 3) := by decide +kernel
theorem d_jdk_56_method_3_7 : decode jdk_56_method_3_code 7 = .ok (.aload_n 0, 1) := by decide +kernel
theorem d_jdk_56_method_3_8 : decode jdk_56_method_3_code 8 = .ok (.instanceof 12, 3) := by decide +kernel
theorem d_jdk_56_method_3_11 : decode jdk_56_method_3_code 11 = .ok (.ifCond .eq 20, 3) := by decide +kernel
theorem d_jdk_56_method_3_31 : decode jdk_56_method_3_code 31 = .ok (.aload_n 0, 1) := by decide +kernel
theorem d_jdk_56_method_3_32 : decode jdk_56_method_3_code 32 = .ok (.invokeinterface 20 1, 5) := by decide +kernel
theorem d_jdk_56_method_3_37 : decode jdk_56_method_3_code 37 = .ok (.ifCond .eq 7, 3) := by decide +kernel
theorem d_jdk_56_method_3_40 : decode jdk_56_method_3_code 40 = .ok (.invokestatic 26, 3) := by decide +kernel
theorem d_jdk_56_method_3_43 : decode jdk_56_method_3_code 43 = .ok (.areturn, 1) := by decide +kernel
theorem d_jdk_56_method_3_44 : decode jdk_56_method_3_code 44 = .ok (.aload_n 0, 1) := by decide +kernel
theorem d_jdk_56_method_3_45 : decode jdk_56_method_3_code 45 = .ok (.invokeinterface 30 1, 5) := by decide +kernel
theorem d_jdk_56_method_3_50 : decode jdk_56_method_3_code 50 = .ok (.invokestatic 34, 3) := by decide +kernel
theorem d_jdk_56_method_3_53 : decode jdk_56_method_3_code 53 = .ok (.areturn, 1) := by decide +kernel
theorem d_jdk_47_method_1_0 : decode jdk_47_method_1_code 0 = .ok (.aload_n 0, 1) := by decide +kernel
theorem d_jdk_47_method_1_1 : decode jdk_47_method_1_code 1 = .ok (.invokespecial 1, 3) := by decide +kernel
theorem d_jdk_47_method_1_4 : decode jdk_47_method_1_code 4 = .ok (.return_, 1) := by decide +kernel
theorem d_jdk_46_method_1_0 : decode jdk_46_method_1_code 0 = .ok (.aload_n 0, 1) := by decide +kernel
theorem d_jdk_46_method_1_1 : decode jdk_46_method_1_code 1 = .ok (.invokespecial 1, 3) := by decide +kernel
theorem d_jdk_46_method_1_4 : decode jdk_46_method_1_code 4 = .ok (.return_, 1) := by decide +kernel
theorem d_jdk_44_method_1_0 : decode jdk_44_method_1_code 0 = .ok (.aload_n 0, 1) := by decide +kernel
theorem d_jdk_44_method_1_1 : decode jdk_44_method_1_code 1 = .ok (.invokespecial 1, 3) := by decide +kernel
theorem d_jdk_44_method_1_4 : decode jdk_44_method_1_code 4 = .ok (.aload_n 0, 1) := by decide +kernel
theorem d_jdk_44_method_1_5 : decode jdk_44_method_1_code 5 = .ok (.aload_n 1, 1) := by decide +kernel
theorem d_jdk_44_method_1_6 : decode jdk_44_method_1_code 6 = .ok (.invokestatic 7, 3) := by decide +kernel
theorem d_jdk_44_method_1_9 : decode jdk_44_method_1_code 9 = .ok (.putfield 13, 3) := by decide +kernel
theorem d_jdk_44_method_1_12 : decode jdk_44_method_1_code 12 = .ok (.aload_n 0, 1) := by decide +kernel
theorem d_jdk_44_method_1_13 : decode jdk_44_method_1_code 13 = .ok (.getstatic 19, 3) := by decide +kernel
theorem d_jdk_44_method_1_16 : decode jdk_44_method_1_code 16 = .ok (.putfield 24, 3) := by decide +kernel
theorem d_jdk_44_method_1_19 : decode jdk_44_method_1_code 19 = .ok (.return_, 1) := by decide +kernel
theorem d_jdk_45_method_2_0 : decode jdk_45_method_2_code 0 = .ok (.aload_n 0, 1) := by decide +kernel
theorem d_jdk_45_method_2_1 : decode jdk_45_method_2_code 1 = .ok (.getfield 7, 3) := by decide +kernel
theorem d_jdk_45_method_2_4 : decode jdk_45_method_2_code 4 = .ok (.arraylength, 1) := by decide +kernel
theorem d_jdk_45_method_2_5 : decode jdk_45_method_2_code 5 = .ok (.ifCond .ne 7, 3) := by decide +kernel
theorem d_jdk_45_method_2_8 : decode jdk_45_method_2_code 8 = .ok (.iconst 1, 1) := by decide +kernel
theorem d_jdk_45_method_2_9 : decode jdk_45_method_2_code 9 = .ok (.goto 4, 3) := by decide +kernel
theorem d_jdk_45_method_2_13 : decode jdk_45_method_2_code 13 = .ok (.ireturn, 1) := by decide +kernel
theorem d_jdk_40_method_48_0 : decode jdk_40_method_48_code 0 = .ok (.aload_n 0, 1) := by decide +kernel
theorem d_jdk_40_method_48_1 : decode jdk_40_method_48_code 1 = .ok (.invokestatic 112, 3) := by decide +kernel
theorem d_jdk_40_method_48_4 : decode jdk_40_method_48_code 4 = .ok (.areturn, 1) := by decide +kernel
theorem d_jdk_40_method_36_0 : decode jdk_40_method_36_code 0 = .ok (.getstatic 90, 3) := by decide +kernel
theorem d_jdk_40_method_36_3 : decode jdk_40_method_36_code 3 = .ok (.areturn, 1) := by decide +kernel
theorem d_jdk_40_method_47_0 : decode jdk_40_method_47_code 0 = .ok (.aload_n 0, 1) := by decide +kernel
theorem d_jdk_40_method_47_1 : decode jdk_40_method_47_code 1 = .ok (.arraylength, 1) := by decide +kernel
theorem d_jdk_40_method_47_2 : decode jdk_40_method_47_code 2 = .ok (.tableswitch 57 0 2 #[26, 32, 43], 26) := by decide +kernel
theorem d_jdk_40_method_47_34 : decode jdk_40_method_47_code 34 = .ok (.new 96, 3) := by decide +kernel
theorem d_jdk_40_method_47_37 : decode jdk_40_method_47_code 37 = .ok (.dup, 1) := by decide +kernel
theorem d_jdk_40_method_47_38 : decode jdk_40_method_47_code 38 = .ok (.aload_n 0, 1) := by decide +kernel
theorem d_jdk_40_method_47_39 : decode jdk_40_method_47_code 39 = .ok (.iconst 0, 1) := by decide +kernel
theorem d_jdk_40_method_47_40 : decode jdk_40_method_47_code 40 = .ok (.aaload, 1) := by decide +kernel
theorem d_jdk_40_method_47_41 : decode jdk_40_method_47_code 41 = .ok (.invokespecial 98, 3) := by decide +kernel
theorem d_jdk_40_method_47_44 : decode jdk_40_method_47_code 44 = .ok (.areturn, 1) := by decide +kernel
theorem d_jdk_31_method_10_0 : decode jdk_31_method_10_code 0 = .ok (.aload_n 0, 1) := by decide +kernel
theorem d_jdk_31_method_10_1 : decode jdk_31_method_10_code 1 = .ok (.ifnonnull 11, 3) := by decide +kernel
theorem d_jdk_31_method_10_12 : decode jdk_31_method_10_code 12 = .ok (.aload_n 0, 1) := by decide +kernel
theorem d_jdk_31_method_10_13 : decode jdk_31_method_10_code 13 = .ok (.areturn, 1) := by decide +kernel
theorem w_0 {Z : State} {a0 : Array Value} (hw : ∀ d ∈ tables_1, d.before a0 Z = true) : (Jvm.Cond.classLink "com/example/sumgen/sumgen/sql/TypeChangeAddsTypePinLaw" (7 : Nat) "java/lang/String").before a0 Z = true := hw _ (List.mem_of_getElem? (i := 0) rfl)
theorem w_1 {Z : State} {a0 : Array Value} (hw : ∀ d ∈ tables_1, d.before a0 Z = true) : (Jvm.Cond.instantiable "java/lang/String" (4 : Nat)).before a0 Z = true := hw _ (List.mem_of_getElem? (i := 1) rfl)
theorem w_2 {Z : State} {a0 : Array Value} (hw : ∀ d ∈ tables_1, d.before a0 Z = true) : (Jvm.Cond.initialized "java/lang/String").before a0 Z = true := hw _ (List.mem_of_getElem? (i := 2) rfl)
theorem w_3 {Z : State} {a0 : Array Value} (hw : ∀ d ∈ tables_1, d.before a0 Z = true) : (Jvm.Cond.arrayClass Jvm.ClassFile.FieldType.char).before a0 Z = true := hw _ (List.mem_of_getElem? (i := 3) rfl)
theorem w_4 {Z : State} {a0 : Array Value} (hw : ∀ d ∈ tables_1, d.before a0 Z = true) : (Jvm.Cond.methodLink "com/example/sumgen/sumgen/sql/TypeChangeAddsTypePinLaw" (9 : Nat) ({ cls := "java/lang/String", name := "<init>", desc := "([C)V" } : Jvm.MethodName)).before a0 Z = true := hw _ (List.mem_of_getElem? (i := 4) rfl)
theorem w_5 {Z : State} {a0 : Array Value} (hw : ∀ d ∈ tables_1, d.before a0 Z = true) : (Jvm.Cond.instanceMethod ({ cls := "java/lang/String", name := "<init>", desc := "([C)V" } : Jvm.MethodName)).before a0 Z = true := hw _ (List.mem_of_getElem? (i := 5) rfl)
theorem w_6 {Z : State} {a0 : Array Value} (hw : ∀ d ∈ tables_1, d.before a0 Z = true) : (Jvm.Cond.code ({ cls := "java/lang/String", name := "<init>", desc := "([C)V" } : Jvm.MethodName) jdk_42_method_3_code (2 : Nat) (Option.none : Option Jvm.ClassFile.FieldType)).before a0 Z = true := hw _ (List.mem_of_getElem? (i := 6) rfl)
theorem w_7 {Z : State} {a0 : Array Value} (hw : ∀ d ∈ tables_1, d.before a0 Z = true) : (Jvm.Cond.methodLink "java/lang/String" (27 : Nat) ({ cls := "java/lang/String", name := "<init>", desc := "([CIILjava/lang/Void;)V" } : Jvm.MethodName)).before a0 Z = true := hw _ (List.mem_of_getElem? (i := 7) rfl)
theorem w_8 {Z : State} {a0 : Array Value} (hw : ∀ d ∈ tables_1, d.before a0 Z = true) : (Jvm.Cond.instanceMethod ({ cls := "java/lang/String", name := "<init>", desc := "([CIILjava/lang/Void;)V" } : Jvm.MethodName)).before a0 Z = true := hw _ (List.mem_of_getElem? (i := 8) rfl)
theorem w_10 {Z : State} {a0 : Array Value} (hw : ∀ d ∈ tables_1, d.before a0 Z = true) : (Jvm.Cond.code ({ cls := "java/lang/String", name := "<init>", desc := "([CIILjava/lang/Void;)V" } : Jvm.MethodName) jdk_42_method_149_code (6 : Nat) (Option.none : Option Jvm.ClassFile.FieldType)).before a0 Z = true := hw _ (List.mem_of_getElem? (i := 10) rfl)
theorem w_11 {Z : State} {a0 : Array Value} (hw : ∀ d ∈ tables_1, d.before a0 Z = true) : (Jvm.Cond.methodLink "java/lang/String" (1 : Nat) ({ cls := "java/lang/Object", name := "<init>", desc := "()V" } : Jvm.MethodName)).before a0 Z = true := hw _ (List.mem_of_getElem? (i := 11) rfl)
theorem w_12 {Z : State} {a0 : Array Value} (hw : ∀ d ∈ tables_1, d.before a0 Z = true) : (Jvm.Cond.instanceMethod ({ cls := "java/lang/Object", name := "<init>", desc := "()V" } : Jvm.MethodName)).before a0 Z = true := hw _ (List.mem_of_getElem? (i := 12) rfl)
theorem w_13 {Z : State} {a0 : Array Value} (hw : ∀ d ∈ tables_1, d.before a0 Z = true) : (Jvm.Cond.code ({ cls := "java/lang/Object", name := "<init>", desc := "()V" } : Jvm.MethodName) object_method_1_code (1 : Nat) (Option.none : Option Jvm.ClassFile.FieldType)).before a0 Z = true := hw _ (List.mem_of_getElem? (i := 13) rfl)
theorem w_14 {Z : State} {a0 : Array Value} (hw : ∀ d ∈ tables_1, d.before a0 Z = true) : (Jvm.Cond.fieldLink "java/lang/String" (38 : Nat) "java/lang/String" "COMPACT_STRINGS" "Z").before a0 Z = true := hw _ (List.mem_of_getElem? (i := 14) rfl)
theorem w_15 {Z : State} {a0 : Array Value} (hw : ∀ d ∈ tables_1, d.before a0 Z = true) : (Jvm.Cond.methodLink "java/lang/String" (177 : Nat) ({ cls := "java/lang/StringUTF16", name := "compress", desc := "([CII)[B" } : Jvm.MethodName)).before a0 Z = true := hw _ (List.mem_of_getElem? (i := 15) rfl)
theorem w_16 {Z : State} {a0 : Array Value} (hw : ∀ d ∈ tables_1, d.before a0 Z = true) : (Jvm.Cond.static ({ cls := "java/lang/StringUTF16", name := "compress", desc := "([CII)[B" } : Jvm.MethodName)).before a0 Z = true := hw _ (List.mem_of_getElem? (i := 16) rfl)
theorem w_17 {Z : State} {a0 : Array Value} (hw : ∀ d ∈ tables_1, d.before a0 Z = true) : (Jvm.Cond.initialized "java/lang/StringUTF16").before a0 Z = true := hw _ (List.mem_of_getElem? (i := 17) rfl)
theorem w_18 {Z : State} {a0 : Array Value} (hw : ∀ d ∈ tables_1, d.before a0 Z = true) : (Jvm.Cond.code ({ cls := "java/lang/StringUTF16", name := "compress", desc := "([CII)[B" } : Jvm.MethodName) jdk_52_method_16_code (6 : Nat) (Option.some (Jvm.ClassFile.FieldType.array Jvm.ClassFile.FieldType.byte))).before a0 Z = true := hw _ (List.mem_of_getElem? (i := 18) rfl)
theorem w_19 {Z : State} {a0 : Array Value} (hw : ∀ d ∈ tables_1, d.before a0 Z = true) : (Jvm.Cond.arrayClass Jvm.ClassFile.FieldType.byte).before a0 Z = true := hw _ (List.mem_of_getElem? (i := 19) rfl)
theorem w_20 {Z : State} {a0 : Array Value} (hw : ∀ d ∈ tables_1, d.before a0 Z = true) : (Jvm.Cond.methodLink "java/lang/StringUTF16" (115 : Nat) ({ cls := "java/lang/StringUTF16", name := "compress", desc := "([CI[BII)I" } : Jvm.MethodName)).before a0 Z = true := hw _ (List.mem_of_getElem? (i := 20) rfl)
theorem w_21 {Z : State} {a0 : Array Value} (hw : ∀ d ∈ tables_1, d.before a0 Z = true) : (Jvm.Cond.static ({ cls := "java/lang/StringUTF16", name := "compress", desc := "([CI[BII)I" } : Jvm.MethodName)).before a0 Z = true := hw _ (List.mem_of_getElem? (i := 21) rfl)
theorem w_22 {Z : State} {a0 : Array Value} (hw : ∀ d ∈ tables_1, d.before a0 Z = true) : (Jvm.Cond.code ({ cls := "java/lang/StringUTF16", name := "compress", desc := "([CI[BII)I" } : Jvm.MethodName) jdk_52_method_21_code (7 : Nat) (Option.some Jvm.ClassFile.FieldType.int)).before a0 Z = true := hw _ (List.mem_of_getElem? (i := 22) rfl)
theorem w_23 {Z : State} {a0 : Array Value} (hw : ∀ d ∈ tables_1, d.before a0 Z = true) : (Jvm.Cond.methodLink "java/lang/String" (47 : Nat) ({ cls := "java/lang/StringUTF16", name := "coderFromArrayLen", desc := "([BI)B" } : Jvm.MethodName)).before a0 Z = true := hw _ (List.mem_of_getElem? (i := 23) rfl)
theorem w_24 {Z : State} {a0 : Array Value} (hw : ∀ d ∈ tables_1, d.before a0 Z = true) : (Jvm.Cond.static ({ cls := "java/lang/StringUTF16", name := "coderFromArrayLen", desc := "([BI)B" } : Jvm.MethodName)).before a0 Z = true := hw _ (List.mem_of_getElem? (i := 24) rfl)
theorem w_25 {Z : State} {a0 : Array Value} (hw : ∀ d ∈ tables_1, d.before a0 Z = true) : (Jvm.Cond.code ({ cls := "java/lang/StringUTF16", name := "coderFromArrayLen", desc := "([BI)B" } : Jvm.MethodName) jdk_52_method_15_code (2 : Nat) (Option.some Jvm.ClassFile.FieldType.byte)).before a0 Z = true := hw _ (List.mem_of_getElem? (i := 25) rfl)
theorem w_26 {Z : State} {a0 : Array Value} (hw : ∀ d ∈ tables_1, d.before a0 Z = true) : (Jvm.Cond.fieldLink "java/lang/String" (15 : Nat) "java/lang/String" "coder" "B").before a0 Z = true := hw _ (List.mem_of_getElem? (i := 26) rfl)
theorem w_27 {Z : State} {a0 : Array Value} (hw : ∀ d ∈ tables_1, d.before a0 Z = true) : (Jvm.Cond.laysFinal "java/lang/String" "java/lang/String" "coder" "B").before a0 Z = true := hw _ (List.mem_of_getElem? (i := 27) rfl)
theorem w_28 {Z : State} {a0 : Array Value} (hw : ∀ d ∈ tables_1, d.before a0 Z = true) : (Jvm.Cond.fieldLink "java/lang/String" (9 : Nat) "java/lang/String" "value" "[B").before a0 Z = true := hw _ (List.mem_of_getElem? (i := 28) rfl)
theorem w_29 {Z : State} {a0 : Array Value} (hw : ∀ d ∈ tables_1, d.before a0 Z = true) : (Jvm.Cond.laysFinal "java/lang/String" "java/lang/String" "value" "[B").before a0 Z = true := hw _ (List.mem_of_getElem? (i := 29) rfl)
theorem w_30 {Z : State} {a0 : Array Value} (hw : ∀ d ∈ tables_1, d.before a0 Z = true) : (Jvm.Cond.classLink "com/example/sumgen/sumgen/sql/TypeChangeAddsTypePinLaw" (12 : Nat) "com/example/sumgen/sumgen/model/SumType").before a0 Z = true := hw _ (List.mem_of_getElem? (i := 30) rfl)
theorem w_31 {Z : State} {a0 : Array Value} (hw : ∀ d ∈ tables_1, d.before a0 Z = true) : (Jvm.Cond.instantiable "com/example/sumgen/sumgen/model/SumType" (6 : Nat)).before a0 Z = true := hw _ (List.mem_of_getElem? (i := 31) rfl)
theorem w_32 {Z : State} {a0 : Array Value} (hw : ∀ d ∈ tables_1, d.before a0 Z = true) : (Jvm.Cond.initialized "com/example/sumgen/sumgen/model/SumType").before a0 Z = true := hw _ (List.mem_of_getElem? (i := 32) rfl)
theorem w_33 {Z : State} {a0 : Array Value} (hw : ∀ d ∈ tables_1, d.before a0 Z = true) : (Jvm.Cond.classLink "com/example/sumgen/sumgen/sql/TypeChangeAddsTypePinLaw" (14 : Nat) "java/util/ArrayList").before a0 Z = true := hw _ (List.mem_of_getElem? (i := 33) rfl)
theorem w_34 {Z : State} {a0 : Array Value} (hw : ∀ d ∈ tables_1, d.before a0 Z = true) : (Jvm.Cond.instantiable "java/util/ArrayList" (3 : Nat)).before a0 Z = true := hw _ (List.mem_of_getElem? (i := 34) rfl)
theorem w_35 {Z : State} {a0 : Array Value} (hw : ∀ d ∈ tables_1, d.before a0 Z = true) : (Jvm.Cond.initialized "java/util/ArrayList").before a0 Z = true := hw _ (List.mem_of_getElem? (i := 35) rfl)
theorem w_36 {Z : State} {a0 : Array Value} (hw : ∀ d ∈ tables_1, d.before a0 Z = true) : (Jvm.Cond.methodLink "com/example/sumgen/sumgen/sql/TypeChangeAddsTypePinLaw" (16 : Nat) ({ cls := "java/util/ArrayList", name := "<init>", desc := "()V" } : Jvm.MethodName)).before a0 Z = true := hw _ (List.mem_of_getElem? (i := 36) rfl)
theorem w_37 {Z : State} {a0 : Array Value} (hw : ∀ d ∈ tables_1, d.before a0 Z = true) : (Jvm.Cond.instanceMethod ({ cls := "java/util/ArrayList", name := "<init>", desc := "()V" } : Jvm.MethodName)).before a0 Z = true := hw _ (List.mem_of_getElem? (i := 37) rfl)
theorem w_38 {Z : State} {a0 : Array Value} (hw : ∀ d ∈ tables_1, d.before a0 Z = true) : (Jvm.Cond.code ({ cls := "java/util/ArrayList", name := "<init>", desc := "()V" } : Jvm.MethodName) jdk_38_method_2_code (1 : Nat) (Option.none : Option Jvm.ClassFile.FieldType)).before a0 Z = true := hw _ (List.mem_of_getElem? (i := 38) rfl)
theorem w_39 {Z : State} {a0 : Array Value} (hw : ∀ d ∈ tables_1, d.before a0 Z = true) : (Jvm.Cond.methodLink "java/util/ArrayList" (1 : Nat) ({ cls := "java/util/AbstractList", name := "<init>", desc := "()V" } : Jvm.MethodName)).before a0 Z = true := hw _ (List.mem_of_getElem? (i := 39) rfl)
theorem w_40 {Z : State} {a0 : Array Value} (hw : ∀ d ∈ tables_1, d.before a0 Z = true) : (Jvm.Cond.instanceMethod ({ cls := "java/util/AbstractList", name := "<init>", desc := "()V" } : Jvm.MethodName)).before a0 Z = true := hw _ (List.mem_of_getElem? (i := 40) rfl)
theorem w_43 {Z : State} {a0 : Array Value} (hw : ∀ d ∈ tables_1, d.before a0 Z = true) : (Jvm.Cond.initialized "java/util/AbstractList").before a0 Z = true := hw _ (List.mem_of_getElem? (i := 43) rfl)
theorem w_44 {Z : State} {a0 : Array Value} (hw : ∀ d ∈ tables_1, d.before a0 Z = true) : (Jvm.Cond.code ({ cls := "java/util/AbstractList", name := "<init>", desc := "()V" } : Jvm.MethodName) jdk_39_method_1_code (1 : Nat) (Option.none : Option Jvm.ClassFile.FieldType)).before a0 Z = true := hw _ (List.mem_of_getElem? (i := 44) rfl)
theorem w_45 {Z : State} {a0 : Array Value} (hw : ∀ d ∈ tables_1, d.before a0 Z = true) : (Jvm.Cond.methodLink "java/util/AbstractList" (1 : Nat) ({ cls := "java/util/AbstractCollection", name := "<init>", desc := "()V" } : Jvm.MethodName)).before a0 Z = true := hw _ (List.mem_of_getElem? (i := 45) rfl)
theorem w_46 {Z : State} {a0 : Array Value} (hw : ∀ d ∈ tables_1, d.before a0 Z = true) : (Jvm.Cond.instanceMethod ({ cls := "java/util/AbstractCollection", name := "<init>", desc := "()V" } : Jvm.MethodName)).before a0 Z = true := hw _ (List.mem_of_getElem? (i := 46) rfl)
theorem w_49 {Z : State} {a0 : Array Value} (hw : ∀ d ∈ tables_1, d.before a0 Z = true) : (Jvm.Cond.initialized "java/util/AbstractCollection").before a0 Z = true := hw _ (List.mem_of_getElem? (i := 49) rfl)
theorem w_50 {Z : State} {a0 : Array Value} (hw : ∀ d ∈ tables_1, d.before a0 Z = true) : (Jvm.Cond.code ({ cls := "java/util/AbstractCollection", name := "<init>", desc := "()V" } : Jvm.MethodName) jdk_22_method_1_code (1 : Nat) (Option.none : Option Jvm.ClassFile.FieldType)).before a0 Z = true := hw _ (List.mem_of_getElem? (i := 50) rfl)
theorem w_51 {Z : State} {a0 : Array Value} (hw : ∀ d ∈ tables_1, d.before a0 Z = true) : (Jvm.Cond.methodLink "java/util/AbstractCollection" (1 : Nat) ({ cls := "java/lang/Object", name := "<init>", desc := "()V" } : Jvm.MethodName)).before a0 Z = true := hw _ (List.mem_of_getElem? (i := 51) rfl)
theorem w_52 {Z : State} {a0 : Array Value} (hw : ∀ d ∈ tables_1, d.before a0 Z = true) : (Jvm.Cond.fieldLink "java/util/AbstractList" (7 : Nat) "java/util/AbstractList" "modCount" "I").before a0 Z = true := hw _ (List.mem_of_getElem? (i := 52) rfl)
theorem w_53 {Z : State} {a0 : Array Value} (hw : ∀ d ∈ tables_1, d.before a0 Z = true) : (Jvm.Cond.lays "java/util/ArrayList" "java/util/AbstractList" "modCount" "I").before a0 Z = true := hw _ (List.mem_of_getElem? (i := 53) rfl)
theorem w_54 {Z : State} {a0 : Array Value} (hw : ∀ d ∈ tables_1, d.before a0 Z = true) : (Jvm.Cond.fieldLink "java/util/ArrayList" (39 : Nat) "java/util/ArrayList" "DEFAULTCAPACITY_EMPTY_ELEMENTDATA" "[Ljava/lang/Object;").before a0 Z = true := hw _ (List.mem_of_getElem? (i := 54) rfl)
theorem w_55 {Z : State} {a0 : Array Value} (hw : ∀ d ∈ tables_1, d.before a0 Z = true) : (Jvm.Cond.fieldLink "java/util/ArrayList" (9 : Nat) "java/util/ArrayList" "elementData" "[Ljava/lang/Object;").before a0 Z = true := hw _ (List.mem_of_getElem? (i := 55) rfl)
theorem w_56 {Z : State} {a0 : Array Value} (hw : ∀ d ∈ tables_1, d.before a0 Z = true) : (Jvm.Cond.lays "java/util/ArrayList" "java/util/ArrayList" "elementData" "[Ljava/lang/Object;").before a0 Z = true := hw _ (List.mem_of_getElem? (i := 56) rfl)
theorem w_57 {Z : State} {a0 : Array Value} (hw : ∀ d ∈ tables_1, d.before a0 Z = true) : (Jvm.Cond.methodLink "com/example/sumgen/sumgen/sql/TypeChangeAddsTypePinLaw" (17 : Nat) ({ cls := "com/example/sumgen/sumgen/model/SumType", name := "<init>", desc := "(Ljava/lang/String;Ljava/lang/String;Ljava/util/List;Ljava/util/List;Lcom/example/sumgen/sumgen/model/Place;Lcom/example/sumgen/sumgen/model/Place;)V" } : Jvm.MethodName)).before a0 Z = true := hw _ (List.mem_of_getElem? (i := 57) rfl)
theorem w_58 {Z : State} {a0 : Array Value} (hw : ∀ d ∈ tables_1, d.before a0 Z = true) : (Jvm.Cond.instanceMethod ({ cls := "com/example/sumgen/sumgen/model/SumType", name := "<init>", desc := "(Ljava/lang/String;Ljava/lang/String;Ljava/util/List;Ljava/util/List;Lcom/example/sumgen/sumgen/model/Place;Lcom/example/sumgen/sumgen/model/Place;)V" } : Jvm.MethodName)).before a0 Z = true := hw _ (List.mem_of_getElem? (i := 58) rfl)
theorem w_59 {Z : State} {a0 : Array Value} (hw : ∀ d ∈ tables_1, d.before a0 Z = true) : (Jvm.Cond.code ({ cls := "com/example/sumgen/sumgen/model/SumType", name := "<init>", desc := "(Ljava/lang/String;Ljava/lang/String;Ljava/util/List;Ljava/util/List;Lcom/example/sumgen/sumgen/model/Place;Lcom/example/sumgen/sumgen/model/Place;)V" } : Jvm.MethodName) prog_25_method_1_code (7 : Nat) (Option.none : Option Jvm.ClassFile.FieldType)).before a0 Z = true := hw _ (List.mem_of_getElem? (i := 59) rfl)
theorem w_60 {Z : State} {a0 : Array Value} (hw : ∀ d ∈ tables_1, d.before a0 Z = true) : (Jvm.Cond.methodLink "com/example/sumgen/sumgen/model/SumType" (1 : Nat) ({ cls := "java/lang/Record", name := "<init>", desc := "()V" } : Jvm.MethodName)).before a0 Z = true := hw _ (List.mem_of_getElem? (i := 60) rfl)
theorem w_61 {Z : State} {a0 : Array Value} (hw : ∀ d ∈ tables_1, d.before a0 Z = true) : (Jvm.Cond.instanceMethod ({ cls := "java/lang/Record", name := "<init>", desc := "()V" } : Jvm.MethodName)).before a0 Z = true := hw _ (List.mem_of_getElem? (i := 61) rfl)
theorem w_63 {Z : State} {a0 : Array Value} (hw : ∀ d ∈ tables_1, d.before a0 Z = true) : (Jvm.Cond.initialized "java/lang/Record").before a0 Z = true := hw _ (List.mem_of_getElem? (i := 63) rfl)
theorem w_64 {Z : State} {a0 : Array Value} (hw : ∀ d ∈ tables_1, d.before a0 Z = true) : (Jvm.Cond.code ({ cls := "java/lang/Record", name := "<init>", desc := "()V" } : Jvm.MethodName) jdk_30_method_1_code (1 : Nat) (Option.none : Option Jvm.ClassFile.FieldType)).before a0 Z = true := hw _ (List.mem_of_getElem? (i := 64) rfl)
theorem w_65 {Z : State} {a0 : Array Value} (hw : ∀ d ∈ tables_1, d.before a0 Z = true) : (Jvm.Cond.methodLink "java/lang/Record" (1 : Nat) ({ cls := "java/lang/Object", name := "<init>", desc := "()V" } : Jvm.MethodName)).before a0 Z = true := hw _ (List.mem_of_getElem? (i := 65) rfl)
theorem w_66 {Z : State} {a0 : Array Value} (hw : ∀ d ∈ tables_1, d.before a0 Z = true) : (Jvm.Cond.methodLink "com/example/sumgen/sumgen/model/SumType" (7 : Nat) ({ cls := "java/util/List", name := "copyOf", desc := "(Ljava/util/Collection;)Ljava/util/List;" } : Jvm.MethodName)).before a0 Z = true := hw _ (List.mem_of_getElem? (i := 66) rfl)
theorem w_67 {Z : State} {a0 : Array Value} (hw : ∀ d ∈ tables_1, d.before a0 Z = true) : (Jvm.Cond.static ({ cls := "java/util/List", name := "copyOf", desc := "(Ljava/util/Collection;)Ljava/util/List;" } : Jvm.MethodName)).before a0 Z = true := hw _ (List.mem_of_getElem? (i := 67) rfl)
theorem w_68 {Z : State} {a0 : Array Value} (hw : ∀ d ∈ tables_1, d.before a0 Z = true) : (Jvm.Cond.initialized "java/util/List").before a0 Z = true := hw _ (List.mem_of_getElem? (i := 68) rfl)
theorem w_69 {Z : State} {a0 : Array Value} (hw : ∀ d ∈ tables_1, d.before a0 Z = true) : (Jvm.Cond.code ({ cls := "java/util/List", name := "copyOf", desc := "(Ljava/util/Collection;)Ljava/util/List;" } : Jvm.MethodName) jdk_40_method_48_code (1 : Nat) (Option.some (Jvm.ClassFile.FieldType.object "java/util/List"))).before a0 Z = true := hw _ (List.mem_of_getElem? (i := 69) rfl)
theorem w_70 {Z : State} {a0 : Array Value} (hw : ∀ d ∈ tables_1, d.before a0 Z = true) : (Jvm.Cond.methodLink "java/util/List" (112 : Nat) ({ cls := "java/util/ImmutableCollections", name := "listCopy", desc := "(Ljava/util/Collection;)Ljava/util/List;" } : Jvm.MethodName)).before a0 Z = true := hw _ (List.mem_of_getElem? (i := 70) rfl)
theorem w_71 {Z : State} {a0 : Array Value} (hw : ∀ d ∈ tables_1, d.before a0 Z = true) : (Jvm.Cond.static ({ cls := "java/util/ImmutableCollections", name := "listCopy", desc := "(Ljava/util/Collection;)Ljava/util/List;" } : Jvm.MethodName)).before a0 Z = true := hw _ (List.mem_of_getElem? (i := 71) rfl)
theorem w_72 {Z : State} {a0 : Array Value} (hw : ∀ d ∈ tables_1, d.before a0 Z = true) : (Jvm.Cond.initialized "java/util/ImmutableCollections").before a0 Z = true := hw _ (List.mem_of_getElem? (i := 72) rfl)
theorem w_73 {Z : State} {a0 : Array Value} (hw : ∀ d ∈ tables_1, d.before a0 Z = true) : (Jvm.Cond.code ({ cls := "java/util/ImmutableCollections", name := "listCopy", desc := "(Ljava/util/Collection;)Ljava/util/List;" } : Jvm.MethodName) jdk_56_method_3_code (2 : Nat) (Option.some (Jvm.ClassFile.FieldType.object "java/util/List"))).before a0 Z = true := hw _ (List.mem_of_getElem? (i := 73) rfl)
theorem w_74 {Z : State} {a0 : Array Value} (hw : ∀ d ∈ tables_1, d.before a0 Z = true) : (Jvm.Cond.classLink "java/util/ImmutableCollections" (10 : Nat) "java/util/ImmutableCollections$List12").before a0 Z = true := hw _ (List.mem_of_getElem? (i := 74) rfl)
theorem w_75 {Z : State} {a0 : Array Value} (hw : ∀ d ∈ tables_1, d.before a0 Z = true) : (Jvm.Cond.superclass "java/util/ArrayList" "java/util/AbstractList").before a0 Z = true := hw _ (List.mem_of_getElem? (i := 75) rfl)
theorem w_76 {Z : State} {a0 : Array Value} (hw : ∀ d ∈ tables_1, d.before a0 Z = true) : (Jvm.Cond.superclass "java/util/AbstractList" "java/util/AbstractCollection").before a0 Z = true := hw _ (List.mem_of_getElem? (i := 76) rfl)
theorem w_77 {Z : State} {a0 : Array Value} (hw : ∀ d ∈ tables_1, d.before a0 Z = true) : (Jvm.Cond.superclass "java/util/AbstractCollection" "java/lang/Object").before a0 Z = true := hw _ (List.mem_of_getElem? (i := 77) rfl)
theorem w_78 {Z : State} {a0 : Array Value} (hw : ∀ d ∈ tables_1, d.before a0 Z = true) : (Jvm.Cond.noSuperclass "java/lang/Object").before a0 Z = true := hw _ (List.mem_of_getElem? (i := 78) rfl)
theorem w_79 {Z : State} {a0 : Array Value} (hw : ∀ d ∈ tables_1, d.before a0 Z = true) : (Jvm.Cond.classLink "java/util/ImmutableCollections" (12 : Nat) "java/util/ImmutableCollections$ListN").before a0 Z = true := hw _ (List.mem_of_getElem? (i := 79) rfl)
theorem w_80 {Z : State} {a0 : Array Value} (hw : ∀ d ∈ tables_1, d.before a0 Z = true) : (Jvm.Cond.methodLink "java/util/ImmutableCollections" (20 : Nat) ({ cls := "java/util/Collection", name := "isEmpty", desc := "()Z" } : Jvm.MethodName)).before a0 Z = true := hw _ (List.mem_of_getElem? (i := 80) rfl)
theorem w_81 {Z : State} {a0 : Array Value} (hw : ∀ d ∈ tables_1, d.before a0 Z = true) : (Jvm.Cond.declares ({ cls := "java/util/Collection", name := "isEmpty", desc := "()Z" } : Jvm.MethodName)).before a0 Z = true := hw _ (List.mem_of_getElem? (i := 81) rfl)
theorem w_82 {Z : State} {a0 : Array Value} (hw : ∀ d ∈ tables_1, d.before a0 Z = true) : (Jvm.Cond.interfaceMethod "java/util/Collection" "java/util/Collection" "isEmpty" "()Z").before a0 Z = true := hw _ (List.mem_of_getElem? (i := 82) rfl)
theorem w_83 {Z : State} {a0 : Array Value} (hw : ∀ d ∈ tables_1, d.before a0 Z = true) : (Jvm.Cond.selects "java/util/ArrayList" ({ cls := "java/util/Collection", name := "isEmpty", desc := "()Z" } : Jvm.MethodName) ({ cls := "java/util/ArrayList", name := "isEmpty", desc := "()Z" } : Jvm.MethodName)).before a0 Z = true := hw _ (List.mem_of_getElem? (i := 83) rfl)
theorem w_84 {Z : State} {a0 : Array Value} (hw : ∀ d ∈ tables_1, d.before a0 Z = true) : (Jvm.Cond.instanceMethod ({ cls := "java/util/ArrayList", name := "isEmpty", desc := "()Z" } : Jvm.MethodName)).before a0 Z = true := hw _ (List.mem_of_getElem? (i := 84) rfl)
theorem w_85 {Z : State} {a0 : Array Value} (hw : ∀ d ∈ tables_1, d.before a0 Z = true) : (Jvm.Cond.publicMethod ({ cls := "java/util/ArrayList", name := "isEmpty", desc := "()Z" } : Jvm.MethodName)).before a0 Z = true := hw _ (List.mem_of_getElem? (i := 85) rfl)
theorem w_86 {Z : State} {a0 : Array Value} (hw : ∀ d ∈ tables_1, d.before a0 Z = true) : (Jvm.Cond.unhidden "java/util/ArrayList" "isEmpty" "()Z").before a0 Z = true := hw _ (List.mem_of_getElem? (i := 86) rfl)
theorem w_87 {Z : State} {a0 : Array Value} (hw : ∀ d ∈ tables_1, d.before a0 Z = true) : (Jvm.Cond.castable "java/util/ArrayList" "java/util/Collection").before a0 Z = true := hw _ (List.mem_of_getElem? (i := 87) rfl)
theorem w_88 {Z : State} {a0 : Array Value} (hw : ∀ d ∈ tables_1, d.before a0 Z = true) : (Jvm.Cond.code ({ cls := "java/util/ArrayList", name := "isEmpty", desc := "()Z" } : Jvm.MethodName) jdk_38_method_9_code (1 : Nat) (Option.some Jvm.ClassFile.FieldType.boolean)).before a0 Z = true := hw _ (List.mem_of_getElem? (i := 88) rfl)
theorem w_89 {Z : State} {a0 : Array Value} (hw : ∀ d ∈ tables_1, d.before a0 Z = true) : (Jvm.Cond.fieldLink "java/util/ArrayList" (48 : Nat) "java/util/ArrayList" "size" "I").before a0 Z = true := hw _ (List.mem_of_getElem? (i := 89) rfl)
theorem w_90 {Z : State} {a0 : Array Value} (hw : ∀ d ∈ tables_1, d.before a0 Z = true) : (Jvm.Cond.lays "java/util/ArrayList" "java/util/ArrayList" "size" "I").before a0 Z = true := hw _ (List.mem_of_getElem? (i := 90) rfl)
theorem w_91 {Z : State} {a0 : Array Value} (hw : ∀ d ∈ tables_1, d.before a0 Z = true) : (Jvm.Cond.methodLink "java/util/ImmutableCollections" (26 : Nat) ({ cls := "java/util/List", name := "of", desc := "()Ljava/util/List;" } : Jvm.MethodName)).before a0 Z = true := hw _ (List.mem_of_getElem? (i := 91) rfl)
theorem w_92 {Z : State} {a0 : Array Value} (hw : ∀ d ∈ tables_1, d.before a0 Z = true) : (Jvm.Cond.static ({ cls := "java/util/List", name := "of", desc := "()Ljava/util/List;" } : Jvm.MethodName)).before a0 Z = true := hw _ (List.mem_of_getElem? (i := 92) rfl)
theorem w_93 {Z : State} {a0 : Array Value} (hw : ∀ d ∈ tables_1, d.before a0 Z = true) : (Jvm.Cond.code ({ cls := "java/util/List", name := "of", desc := "()Ljava/util/List;" } : Jvm.MethodName) jdk_40_method_36_code (0 : Nat) (Option.some (Jvm.ClassFile.FieldType.object "java/util/List"))).before a0 Z = true := hw _ (List.mem_of_getElem? (i := 93) rfl)
theorem w_94 {Z : State} {a0 : Array Value} (hw : ∀ d ∈ tables_1, d.before a0 Z = true) : (Jvm.Cond.fieldLink "java/util/List" (90 : Nat) "java/util/ImmutableCollections" "EMPTY_LIST" "Ljava/util/ImmutableCollections$ListN;").before a0 Z = true := hw _ (List.mem_of_getElem? (i := 94) rfl)
theorem w_95 {Z : State} {a0 : Array Value} (hw : ∀ d ∈ tables_1, d.before a0 Z = true) : (Jvm.Cond.methodLink "com/example/sumgen/sumgen/model/SumType" (13 : Nat) ({ cls := "java/util/List", name := "isEmpty", desc := "()Z" } : Jvm.MethodName)).before a0 Z = true := hw _ (List.mem_of_getElem? (i := 95) rfl)
theorem w_96 {Z : State} {a0 : Array Value} (hw : ∀ d ∈ tables_1, d.before a0 Z = true) : (Jvm.Cond.declares ({ cls := "java/util/List", name := "isEmpty", desc := "()Z" } : Jvm.MethodName)).before a0 Z = true := hw _ (List.mem_of_getElem? (i := 96) rfl)
theorem w_97 {Z : State} {a0 : Array Value} (hw : ∀ d ∈ tables_1, d.before a0 Z = true) : (Jvm.Cond.interfaceMethod "java/util/List" "java/util/List" "isEmpty" "()Z").before a0 Z = true := hw _ (List.mem_of_getElem? (i := 97) rfl)
theorem w_98 {Z : State} {a0 : Array Value} (hw : ∀ d ∈ tables_1, d.before a0 Z = true) : (Jvm.Cond.selects "java/util/ImmutableCollections$ListN" ({ cls := "java/util/List", name := "isEmpty", desc := "()Z" } : Jvm.MethodName) ({ cls := "java/util/ImmutableCollections$ListN", name := "isEmpty", desc := "()Z" } : Jvm.MethodName)).before a0 Z = true := hw _ (List.mem_of_getElem? (i := 98) rfl)
theorem w_99 {Z : State} {a0 : Array Value} (hw : ∀ d ∈ tables_1, d.before a0 Z = true) : (Jvm.Cond.instanceMethod ({ cls := "java/util/ImmutableCollections$ListN", name := "isEmpty", desc := "()Z" } : Jvm.MethodName)).before a0 Z = true := hw _ (List.mem_of_getElem? (i := 99) rfl)
theorem w_100 {Z : State} {a0 : Array Value} (hw : ∀ d ∈ tables_1, d.before a0 Z = true) : (Jvm.Cond.publicMethod ({ cls := "java/util/ImmutableCollections$ListN", name := "isEmpty", desc := "()Z" } : Jvm.MethodName)).before a0 Z = true := hw _ (List.mem_of_getElem? (i := 100) rfl)
theorem w_101 {Z : State} {a0 : Array Value} (hw : ∀ d ∈ tables_1, d.before a0 Z = true) : (Jvm.Cond.unhidden "java/util/ImmutableCollections$ListN" "isEmpty" "()Z").before a0 Z = true := hw _ (List.mem_of_getElem? (i := 101) rfl)
theorem w_102 {Z : State} {a0 : Array Value} (hw : ∀ d ∈ tables_1, d.before a0 Z = true) : (Jvm.Cond.castable "java/util/ImmutableCollections$ListN" "java/util/List").before a0 Z = true := hw _ (List.mem_of_getElem? (i := 102) rfl)
theorem w_103 {Z : State} {a0 : Array Value} (hw : ∀ d ∈ tables_1, d.before a0 Z = true) : (Jvm.Cond.initialized "java/util/ImmutableCollections$ListN").before a0 Z = true := hw _ (List.mem_of_getElem? (i := 103) rfl)
theorem w_104 {Z : State} {a0 : Array Value} (hw : ∀ d ∈ tables_1, d.before a0 Z = true) : (Jvm.Cond.code ({ cls := "java/util/ImmutableCollections$ListN", name := "isEmpty", desc := "()Z" } : Jvm.MethodName) jdk_45_method_2_code (1 : Nat) (Option.some Jvm.ClassFile.FieldType.boolean)).before a0 Z = true := hw _ (List.mem_of_getElem? (i := 104) rfl)
theorem w_105 {Z : State} {a0 : Array Value} (hw : ∀ d ∈ tables_1, d.before a0 Z = true) : (Jvm.Cond.fieldLink "java/util/ImmutableCollections$ListN" (7 : Nat) "java/util/ImmutableCollections$ListN" "elements" "[Ljava/lang/Object;").before a0 Z = true := hw _ (List.mem_of_getElem? (i := 105) rfl)
theorem w_107 {Z : State} {a0 : Array Value} (hw : ∀ d ∈ tables_1, d.before a0 Z = true) : (Jvm.Cond.fieldLink "com/example/sumgen/sumgen/model/SumType" (26 : Nat) "com/example/sumgen/sumgen/model/SumType" "name" "Ljava/lang/String;").before a0 Z = true := hw _ (List.mem_of_getElem? (i := 107) rfl)
theorem w_108 {Z : State} {a0 : Array Value} (hw : ∀ d ∈ tables_1, d.before a0 Z = true) : (Jvm.Cond.laysFinal "com/example/sumgen/sumgen/model/SumType" "com/example/sumgen/sumgen/model/SumType" "name" "Ljava/lang/String;").before a0 Z = true := hw _ (List.mem_of_getElem? (i := 108) rfl)
theorem w_109 {Z : State} {a0 : Array Value} (hw : ∀ d ∈ tables_1, d.before a0 Z = true) : (Jvm.Cond.fieldLink "com/example/sumgen/sumgen/model/SumType" (32 : Nat) "com/example/sumgen/sumgen/model/SumType" "tag" "Ljava/lang/String;").before a0 Z = true := hw _ (List.mem_of_getElem? (i := 109) rfl)
theorem w_110 {Z : State} {a0 : Array Value} (hw : ∀ d ∈ tables_1, d.before a0 Z = true) : (Jvm.Cond.laysFinal "com/example/sumgen/sumgen/model/SumType" "com/example/sumgen/sumgen/model/SumType" "tag" "Ljava/lang/String;").before a0 Z = true := hw _ (List.mem_of_getElem? (i := 110) rfl)
theorem w_111 {Z : State} {a0 : Array Value} (hw : ∀ d ∈ tables_1, d.before a0 Z = true) : (Jvm.Cond.fieldLink "com/example/sumgen/sumgen/model/SumType" (35 : Nat) "com/example/sumgen/sumgen/model/SumType" "commonFields" "Ljava/util/List;").before a0 Z = true := hw _ (List.mem_of_getElem? (i := 111) rfl)
theorem w_112 {Z : State} {a0 : Array Value} (hw : ∀ d ∈ tables_1, d.before a0 Z = true) : (Jvm.Cond.laysFinal "com/example/sumgen/sumgen/model/SumType" "com/example/sumgen/sumgen/model/SumType" "commonFields" "Ljava/util/List;").before a0 Z = true := hw _ (List.mem_of_getElem? (i := 112) rfl)
theorem w_113 {Z : State} {a0 : Array Value} (hw : ∀ d ∈ tables_1, d.before a0 Z = true) : (Jvm.Cond.fieldLink "com/example/sumgen/sumgen/model/SumType" (39 : Nat) "com/example/sumgen/sumgen/model/SumType" "variants" "Ljava/util/List;").before a0 Z = true := hw _ (List.mem_of_getElem? (i := 113) rfl)
theorem w_114 {Z : State} {a0 : Array Value} (hw : ∀ d ∈ tables_1, d.before a0 Z = true) : (Jvm.Cond.laysFinal "com/example/sumgen/sumgen/model/SumType" "com/example/sumgen/sumgen/model/SumType" "variants" "Ljava/util/List;").before a0 Z = true := hw _ (List.mem_of_getElem? (i := 114) rfl)
theorem w_115 {Z : State} {a0 : Array Value} (hw : ∀ d ∈ tables_1, d.before a0 Z = true) : (Jvm.Cond.fieldLink "com/example/sumgen/sumgen/model/SumType" (42 : Nat) "com/example/sumgen/sumgen/model/SumType" "place" "Lcom/example/sumgen/sumgen/model/Place;").before a0 Z = true := hw _ (List.mem_of_getElem? (i := 115) rfl)
theorem w_116 {Z : State} {a0 : Array Value} (hw : ∀ d ∈ tables_1, d.before a0 Z = true) : (Jvm.Cond.laysFinal "com/example/sumgen/sumgen/model/SumType" "com/example/sumgen/sumgen/model/SumType" "place" "Lcom/example/sumgen/sumgen/model/Place;").before a0 Z = true := hw _ (List.mem_of_getElem? (i := 116) rfl)
theorem w_117 {Z : State} {a0 : Array Value} (hw : ∀ d ∈ tables_1, d.before a0 Z = true) : (Jvm.Cond.fieldLink "com/example/sumgen/sumgen/model/SumType" (46 : Nat) "com/example/sumgen/sumgen/model/SumType" "tagPlace" "Lcom/example/sumgen/sumgen/model/Place;").before a0 Z = true := hw _ (List.mem_of_getElem? (i := 117) rfl)
theorem w_118 {Z : State} {a0 : Array Value} (hw : ∀ d ∈ tables_1, d.before a0 Z = true) : (Jvm.Cond.laysFinal "com/example/sumgen/sumgen/model/SumType" "com/example/sumgen/sumgen/model/SumType" "tagPlace" "Lcom/example/sumgen/sumgen/model/Place;").before a0 Z = true := hw _ (List.mem_of_getElem? (i := 118) rfl)
theorem w_119 {Z : State} {a0 : Array Value} (hw : ∀ d ∈ tables_1, d.before a0 Z = true) : (Jvm.Cond.classLink "com/example/sumgen/sumgen/sql/TypeChangeAddsTypePinLaw" (29 : Nat) "com/example/sumgen/sumgen/sql/Changes$TypeChange").before a0 Z = true := hw _ (List.mem_of_getElem? (i := 119) rfl)
theorem w_120 {Z : State} {a0 : Array Value} (hw : ∀ d ∈ tables_1, d.before a0 Z = true) : (Jvm.Cond.instantiable "com/example/sumgen/sumgen/sql/Changes$TypeChange" (6 : Nat)).before a0 Z = true := hw _ (List.mem_of_getElem? (i := 120) rfl)
theorem w_121 {Z : State} {a0 : Array Value} (hw : ∀ d ∈ tables_1, d.before a0 Z = true) : (Jvm.Cond.initialized "com/example/sumgen/sumgen/sql/Changes$TypeChange").before a0 Z = true := hw _ (List.mem_of_getElem? (i := 121) rfl)
theorem w_122 {Z : State} {a0 : Array Value} (hw : ∀ d ∈ tables_1, d.before a0 Z = true) : (Jvm.Cond.methodLink "com/example/sumgen/sumgen/sql/TypeChangeAddsTypePinLaw" (31 : Nat) ({ cls := "com/example/sumgen/sumgen/sql/Changes$TypeChange", name := "<init>", desc := "(Lcom/example/sumgen/sumgen/model/SumType;Lcom/example/sumgen/sumgen/model/SumType;Ljava/util/List;Ljava/util/List;Ljava/util/List;Ljava/util/List;)V" } : Jvm.MethodName)).before a0 Z = true := hw _ (List.mem_of_getElem? (i := 122) rfl)
theorem w_123 {Z : State} {a0 : Array Value} (hw : ∀ d ∈ tables_1, d.before a0 Z = true) : (Jvm.Cond.instanceMethod ({ cls := "com/example/sumgen/sumgen/sql/Changes$TypeChange", name := "<init>", desc := "(Lcom/example/sumgen/sumgen/model/SumType;Lcom/example/sumgen/sumgen/model/SumType;Ljava/util/List;Ljava/util/List;Ljava/util/List;Ljava/util/List;)V" } : Jvm.MethodName)).before a0 Z = true := hw _ (List.mem_of_getElem? (i := 123) rfl)
theorem w_124 {Z : State} {a0 : Array Value} (hw : ∀ d ∈ tables_1, d.before a0 Z = true) : (Jvm.Cond.code ({ cls := "com/example/sumgen/sumgen/sql/Changes$TypeChange", name := "<init>", desc := "(Lcom/example/sumgen/sumgen/model/SumType;Lcom/example/sumgen/sumgen/model/SumType;Ljava/util/List;Ljava/util/List;Ljava/util/List;Ljava/util/List;)V" } : Jvm.MethodName) prog_30_method_1_code (7 : Nat) (Option.none : Option Jvm.ClassFile.FieldType)).before a0 Z = true := hw _ (List.mem_of_getElem? (i := 124) rfl)
theorem w_125 {Z : State} {a0 : Array Value} (hw : ∀ d ∈ tables_1, d.before a0 Z = true) : (Jvm.Cond.methodLink "com/example/sumgen/sumgen/sql/Changes$TypeChange" (1 : Nat) ({ cls := "java/lang/Record", name := "<init>", desc := "()V" } : Jvm.MethodName)).before a0 Z = true := hw _ (List.mem_of_getElem? (i := 125) rfl)
theorem w_126 {Z : State} {a0 : Array Value} (hw : ∀ d ∈ tables_1, d.before a0 Z = true) : (Jvm.Cond.methodLink "com/example/sumgen/sumgen/sql/Changes$TypeChange" (7 : Nat) ({ cls := "java/util/List", name := "copyOf", desc := "(Ljava/util/Collection;)Ljava/util/List;" } : Jvm.MethodName)).before a0 Z = true := hw _ (List.mem_of_getElem? (i := 126) rfl)
theorem w_127 {Z : State} {a0 : Array Value} (hw : ∀ d ∈ tables_1, d.before a0 Z = true) : (Jvm.Cond.fieldLink "com/example/sumgen/sumgen/sql/Changes$TypeChange" (13 : Nat) "com/example/sumgen/sumgen/sql/Changes$TypeChange" "before" "Lcom/example/sumgen/sumgen/model/SumType;").before a0 Z = true := hw _ (List.mem_of_getElem? (i := 127) rfl)
theorem w_128 {Z : State} {a0 : Array Value} (hw : ∀ d ∈ tables_1, d.before a0 Z = true) : (Jvm.Cond.laysFinal "com/example/sumgen/sumgen/sql/Changes$TypeChange" "com/example/sumgen/sumgen/sql/Changes$TypeChange" "before" "Lcom/example/sumgen/sumgen/model/SumType;").before a0 Z = true := hw _ (List.mem_of_getElem? (i := 128) rfl)
theorem w_129 {Z : State} {a0 : Array Value} (hw : ∀ d ∈ tables_1, d.before a0 Z = true) : (Jvm.Cond.fieldLink "com/example/sumgen/sumgen/sql/Changes$TypeChange" (19 : Nat) "com/example/sumgen/sumgen/sql/Changes$TypeChange" "after" "Lcom/example/sumgen/sumgen/model/SumType;").before a0 Z = true := hw _ (List.mem_of_getElem? (i := 129) rfl)
theorem w_130 {Z : State} {a0 : Array Value} (hw : ∀ d ∈ tables_1, d.before a0 Z = true) : (Jvm.Cond.laysFinal "com/example/sumgen/sumgen/sql/Changes$TypeChange" "com/example/sumgen/sumgen/sql/Changes$TypeChange" "after" "Lcom/example/sumgen/sumgen/model/SumType;").before a0 Z = true := hw _ (List.mem_of_getElem? (i := 130) rfl)
theorem w_131 {Z : State} {a0 : Array Value} (hw : ∀ d ∈ tables_1, d.before a0 Z = true) : (Jvm.Cond.fieldLink "com/example/sumgen/sumgen/sql/Changes$TypeChange" (22 : Nat) "com/example/sumgen/sumgen/sql/Changes$TypeChange" "addedFields" "Ljava/util/List;").before a0 Z = true := hw _ (List.mem_of_getElem? (i := 131) rfl)
theorem w_132 {Z : State} {a0 : Array Value} (hw : ∀ d ∈ tables_1, d.before a0 Z = true) : (Jvm.Cond.laysFinal "com/example/sumgen/sumgen/sql/Changes$TypeChange" "com/example/sumgen/sumgen/sql/Changes$TypeChange" "addedFields" "Ljava/util/List;").before a0 Z = true := hw _ (List.mem_of_getElem? (i := 132) rfl)
theorem w_133 {Z : State} {a0 : Array Value} (hw : ∀ d ∈ tables_1, d.before a0 Z = true) : (Jvm.Cond.fieldLink "com/example/sumgen/sumgen/sql/Changes$TypeChange" (26 : Nat) "com/example/sumgen/sumgen/sql/Changes$TypeChange" "removedFields" "Ljava/util/List;").before a0 Z = true := hw _ (List.mem_of_getElem? (i := 133) rfl)
theorem w_134 {Z : State} {a0 : Array Value} (hw : ∀ d ∈ tables_1, d.before a0 Z = true) : (Jvm.Cond.laysFinal "com/example/sumgen/sumgen/sql/Changes$TypeChange" "com/example/sumgen/sumgen/sql/Changes$TypeChange" "removedFields" "Ljava/util/List;").before a0 Z = true := hw _ (List.mem_of_getElem? (i := 134) rfl)
theorem w_135 {Z : State} {a0 : Array Value} (hw : ∀ d ∈ tables_1, d.before a0 Z = true) : (Jvm.Cond.fieldLink "com/example/sumgen/sumgen/sql/Changes$TypeChange" (29 : Nat) "com/example/sumgen/sumgen/sql/Changes$TypeChange" "variants" "Ljava/util/List;").before a0 Z = true := hw _ (List.mem_of_getElem? (i := 135) rfl)
theorem w_136 {Z : State} {a0 : Array Value} (hw : ∀ d ∈ tables_1, d.before a0 Z = true) : (Jvm.Cond.laysFinal "com/example/sumgen/sumgen/sql/Changes$TypeChange" "com/example/sumgen/sumgen/sql/Changes$TypeChange" "variants" "Ljava/util/List;").before a0 Z = true := hw _ (List.mem_of_getElem? (i := 136) rfl)
theorem w_137 {Z : State} {a0 : Array Value} (hw : ∀ d ∈ tables_1, d.before a0 Z = true) : (Jvm.Cond.fieldLink "com/example/sumgen/sumgen/sql/Changes$TypeChange" (32 : Nat) "com/example/sumgen/sumgen/sql/Changes$TypeChange" "removedVariants" "Ljava/util/List;").before a0 Z = true := hw _ (List.mem_of_getElem? (i := 137) rfl)
theorem w_138 {Z : State} {a0 : Array Value} (hw : ∀ d ∈ tables_1, d.before a0 Z = true) : (Jvm.Cond.laysFinal "com/example/sumgen/sumgen/sql/Changes$TypeChange" "com/example/sumgen/sumgen/sql/Changes$TypeChange" "removedVariants" "Ljava/util/List;").before a0 Z = true := hw _ (List.mem_of_getElem? (i := 138) rfl)
theorem w_139 {Z : State} {a0 : Array Value} (hw : ∀ d ∈ tables_1, d.before a0 Z = true) : (Jvm.Cond.methodLink "com/example/sumgen/sumgen/sql/TypeChangeAddsTypePinLaw" (34 : Nat) ({ cls := "com/example/sumgen/sumgen/sql/Changes$TypeChange", name := "addsType", desc := "()Z" } : Jvm.MethodName)).before a0 Z = true := hw _ (List.mem_of_getElem? (i := 139) rfl)
theorem w_140 {Z : State} {a0 : Array Value} (hw : ∀ d ∈ tables_1, d.before a0 Z = true) : (Jvm.Cond.declares ({ cls := "com/example/sumgen/sumgen/sql/Changes$TypeChange", name := "addsType", desc := "()Z" } : Jvm.MethodName)).before a0 Z = true := hw _ (List.mem_of_getElem? (i := 140) rfl)
theorem w_141 {Z : State} {a0 : Array Value} (hw : ∀ d ∈ tables_1, d.before a0 Z = true) : (Jvm.Cond.instanceMethod ({ cls := "com/example/sumgen/sumgen/sql/Changes$TypeChange", name := "addsType", desc := "()Z" } : Jvm.MethodName)).before a0 Z = true := hw _ (List.mem_of_getElem? (i := 141) rfl)
theorem w_142 {Z : State} {a0 : Array Value} (hw : ∀ d ∈ tables_1, d.before a0 Z = true) : (Jvm.Cond.selects "com/example/sumgen/sumgen/sql/Changes$TypeChange" ({ cls := "com/example/sumgen/sumgen/sql/Changes$TypeChange", name := "addsType", desc := "()Z" } : Jvm.MethodName) ({ cls := "com/example/sumgen/sumgen/sql/Changes$TypeChange", name := "addsType", desc := "()Z" } : Jvm.MethodName)).before a0 Z = true := hw _ (List.mem_of_getElem? (i := 142) rfl)
theorem w_143 {Z : State} {a0 : Array Value} (hw : ∀ d ∈ tables_1, d.before a0 Z = true) : (Jvm.Cond.code ({ cls := "com/example/sumgen/sumgen/sql/Changes$TypeChange", name := "addsType", desc := "()Z" } : Jvm.MethodName) prog_30_method_2_code (1 : Nat) (Option.some Jvm.ClassFile.FieldType.boolean)).before a0 Z = true := hw _ (List.mem_of_getElem? (i := 143) rfl)
theorem w_144 {Z : State} {a0 : Array Value} (hw : ∀ d ∈ tables_1, d.before a0 Z = true) : (Jvm.Cond.classLink "com/example/sumgen/sumgen/sql/TypeChangeAddsTypePinLaw" (20 : Nat) "com/example/sumgen/sumgen/model/Field").before a0 Z = true := hw _ (List.mem_of_getElem? (i := 144) rfl)
theorem w_145 {Z : State} {a0 : Array Value} (hw : ∀ d ∈ tables_1, d.before a0 Z = true) : (Jvm.Cond.instantiable "com/example/sumgen/sumgen/model/Field" (4 : Nat)).before a0 Z = true := hw _ (List.mem_of_getElem? (i := 145) rfl)
theorem w_146 {Z : State} {a0 : Array Value} (hw : ∀ d ∈ tables_1, d.before a0 Z = true) : (Jvm.Cond.initialized "com/example/sumgen/sumgen/model/Field").before a0 Z = true := hw _ (List.mem_of_getElem? (i := 146) rfl)
theorem w_147 {Z : State} {a0 : Array Value} (hw : ∀ d ∈ tables_1, d.before a0 Z = true) : (Jvm.Cond.methodLink "com/example/sumgen/sumgen/sql/TypeChangeAddsTypePinLaw" (22 : Nat) ({ cls := "com/example/sumgen/sumgen/model/Field", name := "<init>", desc := "(Ljava/lang/String;Lcom/example/sumgen/sumgen/model/FieldType;Lcom/example/sumgen/sumgen/model/Field$Multiplicity;Lcom/example/sumgen/sumgen/model/Place;)V" } : Jvm.MethodName)).before a0 Z = true := hw _ (List.mem_of_getElem? (i := 147) rfl)
theorem w_148 {Z : State} {a0 : Array Value} (hw : ∀ d ∈ tables_1, d.before a0 Z = true) : (Jvm.Cond.instanceMethod ({ cls := "com/example/sumgen/sumgen/model/Field", name := "<init>", desc := "(Ljava/lang/String;Lcom/example/sumgen/sumgen/model/FieldType;Lcom/example/sumgen/sumgen/model/Field$Multiplicity;Lcom/example/sumgen/sumgen/model/Place;)V" } : Jvm.MethodName)).before a0 Z = true := hw _ (List.mem_of_getElem? (i := 148) rfl)
theorem w_149 {Z : State} {a0 : Array Value} (hw : ∀ d ∈ tables_1, d.before a0 Z = true) : (Jvm.Cond.code ({ cls := "com/example/sumgen/sumgen/model/Field", name := "<init>", desc := "(Ljava/lang/String;Lcom/example/sumgen/sumgen/model/FieldType;Lcom/example/sumgen/sumgen/model/Field$Multiplicity;Lcom/example/sumgen/sumgen/model/Place;)V" } : Jvm.MethodName) prog_14_method_1_code (5 : Nat) (Option.none : Option Jvm.ClassFile.FieldType)).before a0 Z = true := hw _ (List.mem_of_getElem? (i := 149) rfl)
theorem w_150 {Z : State} {a0 : Array Value} (hw : ∀ d ∈ tables_1, d.before a0 Z = true) : (Jvm.Cond.methodLink "com/example/sumgen/sumgen/model/Field" (1 : Nat) ({ cls := "java/lang/Record", name := "<init>", desc := "()V" } : Jvm.MethodName)).before a0 Z = true := hw _ (List.mem_of_getElem? (i := 150) rfl)
theorem w_151 {Z : State} {a0 : Array Value} (hw : ∀ d ∈ tables_1, d.before a0 Z = true) : (Jvm.Cond.fieldLink "com/example/sumgen/sumgen/model/Field" (7 : Nat) "com/example/sumgen/sumgen/model/Field" "name" "Ljava/lang/String;").before a0 Z = true := hw _ (List.mem_of_getElem? (i := 151) rfl)
theorem w_152 {Z : State} {a0 : Array Value} (hw : ∀ d ∈ tables_1, d.before a0 Z = true) : (Jvm.Cond.laysFinal "com/example/sumgen/sumgen/model/Field" "com/example/sumgen/sumgen/model/Field" "name" "Ljava/lang/String;").before a0 Z = true := hw _ (List.mem_of_getElem? (i := 152) rfl)
theorem w_153 {Z : State} {a0 : Array Value} (hw : ∀ d ∈ tables_1, d.before a0 Z = true) : (Jvm.Cond.fieldLink "com/example/sumgen/sumgen/model/Field" (13 : Nat) "com/example/sumgen/sumgen/model/Field" "type" "Lcom/example/sumgen/sumgen/model/FieldType;").before a0 Z = true := hw _ (List.mem_of_getElem? (i := 153) rfl)
theorem w_154 {Z : State} {a0 : Array Value} (hw : ∀ d ∈ tables_1, d.before a0 Z = true) : (Jvm.Cond.laysFinal "com/example/sumgen/sumgen/model/Field" "com/example/sumgen/sumgen/model/Field" "type" "Lcom/example/sumgen/sumgen/model/FieldType;").before a0 Z = true := hw _ (List.mem_of_getElem? (i := 154) rfl)
theorem w_155 {Z : State} {a0 : Array Value} (hw : ∀ d ∈ tables_1, d.before a0 Z = true) : (Jvm.Cond.fieldLink "com/example/sumgen/sumgen/model/Field" (17 : Nat) "com/example/sumgen/sumgen/model/Field" "multiplicity" "Lcom/example/sumgen/sumgen/model/Field$Multiplicity;").before a0 Z = true := hw _ (List.mem_of_getElem? (i := 155) rfl)
theorem w_156 {Z : State} {a0 : Array Value} (hw : ∀ d ∈ tables_1, d.before a0 Z = true) : (Jvm.Cond.laysFinal "com/example/sumgen/sumgen/model/Field" "com/example/sumgen/sumgen/model/Field" "multiplicity" "Lcom/example/sumgen/sumgen/model/Field$Multiplicity;").before a0 Z = true := hw _ (List.mem_of_getElem? (i := 156) rfl)
theorem w_157 {Z : State} {a0 : Array Value} (hw : ∀ d ∈ tables_1, d.before a0 Z = true) : (Jvm.Cond.fieldLink "com/example/sumgen/sumgen/model/Field" (21 : Nat) "com/example/sumgen/sumgen/model/Field" "place" "Lcom/example/sumgen/sumgen/model/Place;").before a0 Z = true := hw _ (List.mem_of_getElem? (i := 157) rfl)
theorem w_158 {Z : State} {a0 : Array Value} (hw : ∀ d ∈ tables_1, d.before a0 Z = true) : (Jvm.Cond.laysFinal "com/example/sumgen/sumgen/model/Field" "com/example/sumgen/sumgen/model/Field" "place" "Lcom/example/sumgen/sumgen/model/Place;").before a0 Z = true := hw _ (List.mem_of_getElem? (i := 158) rfl)
theorem w_159 {Z : State} {a0 : Array Value} (hw : ∀ d ∈ tables_1, d.before a0 Z = true) : (Jvm.Cond.methodLink "com/example/sumgen/sumgen/sql/TypeChangeAddsTypePinLaw" (25 : Nat) ({ cls := "java/util/ArrayList", name := "add", desc := "(Ljava/lang/Object;)Z" } : Jvm.MethodName)).before a0 Z = true := hw _ (List.mem_of_getElem? (i := 159) rfl)
theorem w_160 {Z : State} {a0 : Array Value} (hw : ∀ d ∈ tables_1, d.before a0 Z = true) : (Jvm.Cond.declares ({ cls := "java/util/ArrayList", name := "add", desc := "(Ljava/lang/Object;)Z" } : Jvm.MethodName)).before a0 Z = true := hw _ (List.mem_of_getElem? (i := 160) rfl)
theorem w_161 {Z : State} {a0 : Array Value} (hw : ∀ d ∈ tables_1, d.before a0 Z = true) : (Jvm.Cond.instanceMethod ({ cls := "java/util/ArrayList", name := "add", desc := "(Ljava/lang/Object;)Z" } : Jvm.MethodName)).before a0 Z = true := hw _ (List.mem_of_getElem? (i := 161) rfl)
theorem w_162 {Z : State} {a0 : Array Value} (hw : ∀ d ∈ tables_1, d.before a0 Z = true) : (Jvm.Cond.selects "java/util/ArrayList" ({ cls := "java/util/ArrayList", name := "add", desc := "(Ljava/lang/Object;)Z" } : Jvm.MethodName) ({ cls := "java/util/ArrayList", name := "add", desc := "(Ljava/lang/Object;)Z" } : Jvm.MethodName)).before a0 Z = true := hw _ (List.mem_of_getElem? (i := 162) rfl)
theorem w_163 {Z : State} {a0 : Array Value} (hw : ∀ d ∈ tables_1, d.before a0 Z = true) : (Jvm.Cond.code ({ cls := "java/util/ArrayList", name := "add", desc := "(Ljava/lang/Object;)Z" } : Jvm.MethodName) jdk_38_method_25_code (2 : Nat) (Option.some Jvm.ClassFile.FieldType.boolean)).before a0 Z = true := hw _ (List.mem_of_getElem? (i := 163) rfl)
theorem w_164 {Z : State} {a0 : Array Value} (hw : ∀ d ∈ tables_1, d.before a0 Z = true) : (Jvm.Cond.fieldLink "java/util/ArrayList" (63 : Nat) "java/util/ArrayList" "modCount" "I").before a0 Z = true := hw _ (List.mem_of_getElem? (i := 164) rfl)
theorem w_165 {Z : State} {a0 : Array Value} (hw : ∀ d ∈ tables_1, d.before a0 Z = true) : (Jvm.Cond.sameField "java/util/ArrayList" "java/util/AbstractList" "modCount" "I").before a0 Z = true := hw _ (List.mem_of_getElem? (i := 165) rfl)
theorem w_166 {Z : State} {a0 : Array Value} (hw : ∀ d ∈ tables_1, d.before a0 Z = true) : (Jvm.Cond.methodLink "java/util/ArrayList" (131 : Nat) ({ cls := "java/util/ArrayList", name := "add", desc := "(Ljava/lang/Object;[Ljava/lang/Object;I)V" } : Jvm.MethodName)).before a0 Z = true := hw _ (List.mem_of_getElem? (i := 166) rfl)
theorem w_167 {Z : State} {a0 : Array Value} (hw : ∀ d ∈ tables_1, d.before a0 Z = true) : (Jvm.Cond.instanceMethod ({ cls := "java/util/ArrayList", name := "add", desc := "(Ljava/lang/Object;[Ljava/lang/Object;I)V" } : Jvm.MethodName)).before a0 Z = true := hw _ (List.mem_of_getElem? (i := 167) rfl)
theorem w_168 {Z : State} {a0 : Array Value} (hw : ∀ d ∈ tables_1, d.before a0 Z = true) : (Jvm.Cond.privateMethod ({ cls := "java/util/ArrayList", name := "add", desc := "(Ljava/lang/Object;[Ljava/lang/Object;I)V" } : Jvm.MethodName)).before a0 Z = true := hw _ (List.mem_of_getElem? (i := 168) rfl)
theorem w_169 {Z : State} {a0 : Array Value} (hw : ∀ d ∈ tables_1, d.before a0 Z = true) : (Jvm.Cond.selects "java/util/ArrayList" ({ cls := "java/util/ArrayList", name := "add", desc := "(Ljava/lang/Object;[Ljava/lang/Object;I)V" } : Jvm.MethodName) ({ cls := "java/util/ArrayList", name := "add", desc := "(Ljava/lang/Object;[Ljava/lang/Object;I)V" } : Jvm.MethodName)).before a0 Z = true := hw _ (List.mem_of_getElem? (i := 169) rfl)
theorem w_170 {Z : State} {a0 : Array Value} (hw : ∀ d ∈ tables_1, d.before a0 Z = true) : (Jvm.Cond.code ({ cls := "java/util/ArrayList", name := "add", desc := "(Ljava/lang/Object;[Ljava/lang/Object;I)V" } : Jvm.MethodName) jdk_38_method_24_code (4 : Nat) (Option.none : Option Jvm.ClassFile.FieldType)).before a0 Z = true := hw _ (List.mem_of_getElem? (i := 170) rfl)
theorem w_171 {Z : State} {a0 : Array Value} (hw : ∀ d ∈ tables_1, d.before a0 Z = true) : (Jvm.Cond.methodLink "java/util/ArrayList" (129 : Nat) ({ cls := "java/util/ArrayList", name := "grow", desc := "()[Ljava/lang/Object;" } : Jvm.MethodName)).before a0 Z = true := hw _ (List.mem_of_getElem? (i := 171) rfl)
theorem w_172 {Z : State} {a0 : Array Value} (hw : ∀ d ∈ tables_1, d.before a0 Z = true) : (Jvm.Cond.instanceMethod ({ cls := "java/util/ArrayList", name := "grow", desc := "()[Ljava/lang/Object;" } : Jvm.MethodName)).before a0 Z = true := hw _ (List.mem_of_getElem? (i := 172) rfl)
theorem w_173 {Z : State} {a0 : Array Value} (hw : ∀ d ∈ tables_1, d.before a0 Z = true) : (Jvm.Cond.privateMethod ({ cls := "java/util/ArrayList", name := "grow", desc := "()[Ljava/lang/Object;" } : Jvm.MethodName)).before a0 Z = true := hw _ (List.mem_of_getElem? (i := 173) rfl)
theorem w_174 {Z : State} {a0 : Array Value} (hw : ∀ d ∈ tables_1, d.before a0 Z = true) : (Jvm.Cond.selects "java/util/ArrayList" ({ cls := "java/util/ArrayList", name := "grow", desc := "()[Ljava/lang/Object;" } : Jvm.MethodName) ({ cls := "java/util/ArrayList", name := "grow", desc := "()[Ljava/lang/Object;" } : Jvm.MethodName)).before a0 Z = true := hw _ (List.mem_of_getElem? (i := 174) rfl)
theorem w_175 {Z : State} {a0 : Array Value} (hw : ∀ d ∈ tables_1, d.before a0 Z = true) : (Jvm.Cond.code ({ cls := "java/util/ArrayList", name := "grow", desc := "()[Ljava/lang/Object;" } : Jvm.MethodName) jdk_38_method_7_code (1 : Nat) (Option.some (Jvm.ClassFile.FieldType.array (Jvm.ClassFile.FieldType.object "java/lang/Object")))).before a0 Z = true := hw _ (List.mem_of_getElem? (i := 175) rfl)
theorem w_176 {Z : State} {a0 : Array Value} (hw : ∀ d ∈ tables_1, d.before a0 Z = true) : (Jvm.Cond.methodLink "java/util/ArrayList" (69 : Nat) ({ cls := "java/util/ArrayList", name := "grow", desc := "(I)[Ljava/lang/Object;" } : Jvm.MethodName)).before a0 Z = true := hw _ (List.mem_of_getElem? (i := 176) rfl)
theorem w_177 {Z : State} {a0 : Array Value} (hw : ∀ d ∈ tables_1, d.before a0 Z = true) : (Jvm.Cond.instanceMethod ({ cls := "java/util/ArrayList", name := "grow", desc := "(I)[Ljava/lang/Object;" } : Jvm.MethodName)).before a0 Z = true := hw _ (List.mem_of_getElem? (i := 177) rfl)
theorem w_178 {Z : State} {a0 : Array Value} (hw : ∀ d ∈ tables_1, d.before a0 Z = true) : (Jvm.Cond.privateMethod ({ cls := "java/util/ArrayList", name := "grow", desc := "(I)[Ljava/lang/Object;" } : Jvm.MethodName)).before a0 Z = true := hw _ (List.mem_of_getElem? (i := 178) rfl)
theorem w_179 {Z : State} {a0 : Array Value} (hw : ∀ d ∈ tables_1, d.before a0 Z = true) : (Jvm.Cond.selects "java/util/ArrayList" ({ cls := "java/util/ArrayList", name := "grow", desc := "(I)[Ljava/lang/Object;" } : Jvm.MethodName) ({ cls := "java/util/ArrayList", name := "grow", desc := "(I)[Ljava/lang/Object;" } : Jvm.MethodName)).before a0 Z = true := hw _ (List.mem_of_getElem? (i := 179) rfl)
theorem w_180 {Z : State} {a0 : Array Value} (hw : ∀ d ∈ tables_1, d.before a0 Z = true) : (Jvm.Cond.code ({ cls := "java/util/ArrayList", name := "grow", desc := "(I)[Ljava/lang/Object;" } : Jvm.MethodName) jdk_38_method_6_code (4 : Nat) (Option.some (Jvm.ClassFile.FieldType.array (Jvm.ClassFile.FieldType.object "java/lang/Object")))).before a0 Z = true := hw _ (List.mem_of_getElem? (i := 180) rfl)
theorem w_181 {Z : State} {a0 : Array Value} (hw : ∀ d ∈ tables_1, d.before a0 Z = true) : (Jvm.Cond.methodLink "java/util/ArrayList" (79 : Nat) ({ cls := "java/lang/Math", name := "max", desc := "(II)I" } : Jvm.MethodName)).before a0 Z = true := hw _ (List.mem_of_getElem? (i := 181) rfl)
theorem w_182 {Z : State} {a0 : Array Value} (hw : ∀ d ∈ tables_1, d.before a0 Z = true) : (Jvm.Cond.static ({ cls := "java/lang/Math", name := "max", desc := "(II)I" } : Jvm.MethodName)).before a0 Z = true := hw _ (List.mem_of_getElem? (i := 182) rfl)
theorem w_183 {Z : State} {a0 : Array Value} (hw : ∀ d ∈ tables_1, d.before a0 Z = true) : (Jvm.Cond.initialized "java/lang/Math").before a0 Z = true := hw _ (List.mem_of_getElem? (i := 183) rfl)
theorem w_184 {Z : State} {a0 : Array Value} (hw : ∀ d ∈ tables_1, d.before a0 Z = true) : (Jvm.Cond.code ({ cls := "java/lang/Math", name := "max", desc := "(II)I" } : Jvm.MethodName) jdk_29_method_65_code (2 : Nat) (Option.some Jvm.ClassFile.FieldType.int)).before a0 Z = true := hw _ (List.mem_of_getElem? (i := 184) rfl)
theorem w_185 {Z : State} {a0 : Array Value} (hw : ∀ d ∈ tables_1, d.before a0 Z = true) : (Jvm.Cond.classLink "java/util/ArrayList" (7 : Nat) "java/lang/Object").before a0 Z = true := hw _ (List.mem_of_getElem? (i := 185) rfl)
theorem w_186 {Z : State} {a0 : Array Value} (hw : ∀ d ∈ tables_1, d.before a0 Z = true) : (Jvm.Cond.arrayOver (Jvm.ClassFile.FieldType.object "java/lang/Object")).before a0 Z = true := hw _ (List.mem_of_getElem? (i := 186) rfl)
theorem w_187 {Z : State} {a0 : Array Value} (hw : ∀ d ∈ tables_1, d.before a0 Z = true) : (Jvm.Cond.castable "com/example/sumgen/sumgen/model/Field" "java/lang/Object").before a0 Z = true := hw _ (List.mem_of_getElem? (i := 187) rfl)
theorem w_188 {Z : State} {a0 : Array Value} (hw : ∀ d ∈ tables_1, d.before a0 Z = true) : (Jvm.Cond.methodLink "java/util/ImmutableCollections" (30 : Nat) ({ cls := "java/util/Collection", name := "toArray", desc := "()[Ljava/lang/Object;" } : Jvm.MethodName)).before a0 Z = true := hw _ (List.mem_of_getElem? (i := 188) rfl)
theorem w_189 {Z : State} {a0 : Array Value} (hw : ∀ d ∈ tables_1, d.before a0 Z = true) : (Jvm.Cond.declares ({ cls := "java/util/Collection", name := "toArray", desc := "()[Ljava/lang/Object;" } : Jvm.MethodName)).before a0 Z = true := hw _ (List.mem_of_getElem? (i := 189) rfl)
theorem w_190 {Z : State} {a0 : Array Value} (hw : ∀ d ∈ tables_1, d.before a0 Z = true) : (Jvm.Cond.interfaceMethod "java/util/Collection" "java/util/Collection" "toArray" "()[Ljava/lang/Object;").before a0 Z = true := hw _ (List.mem_of_getElem? (i := 190) rfl)
theorem w_191 {Z : State} {a0 : Array Value} (hw : ∀ d ∈ tables_1, d.before a0 Z = true) : (Jvm.Cond.selects "java/util/ArrayList" ({ cls := "java/util/Collection", name := "toArray", desc := "()[Ljava/lang/Object;" } : Jvm.MethodName) ({ cls := "java/util/ArrayList", name := "toArray", desc := "()[Ljava/lang/Object;" } : Jvm.MethodName)).before a0 Z = true := hw _ (List.mem_of_getElem? (i := 191) rfl)
theorem w_192 {Z : State} {a0 : Array Value} (hw : ∀ d ∈ tables_1, d.before a0 Z = true) : (Jvm.Cond.instanceMethod ({ cls := "java/util/ArrayList", name := "toArray", desc := "()[Ljava/lang/Object;" } : Jvm.MethodName)).before a0 Z = true := hw _ (List.mem_of_getElem? (i := 192) rfl)
theorem w_193 {Z : State} {a0 : Array Value} (hw : ∀ d ∈ tables_1, d.before a0 Z = true) : (Jvm.Cond.publicMethod ({ cls := "java/util/ArrayList", name := "toArray", desc := "()[Ljava/lang/Object;" } : Jvm.MethodName)).before a0 Z = true := hw _ (List.mem_of_getElem? (i := 193) rfl)
theorem w_194 {Z : State} {a0 : Array Value} (hw : ∀ d ∈ tables_1, d.before a0 Z = true) : (Jvm.Cond.unhidden "java/util/ArrayList" "toArray" "()[Ljava/lang/Object;").before a0 Z = true := hw _ (List.mem_of_getElem? (i := 194) rfl)
theorem w_195 {Z : State} {a0 : Array Value} (hw : ∀ d ∈ tables_1, d.before a0 Z = true) : (Jvm.Cond.code ({ cls := "java/util/ArrayList", name := "toArray", desc := "()[Ljava/lang/Object;" } : Jvm.MethodName) jdk_38_method_16_code (1 : Nat) (Option.some (Jvm.ClassFile.FieldType.array (Jvm.ClassFile.FieldType.object "java/lang/Object")))).before a0 Z = true := hw _ (List.mem_of_getElem? (i := 195) rfl)
theorem w_196 {Z : State} {a0 : Array Value} (hw : ∀ d ∈ tables_1, d.before a0 Z = true) : (Jvm.Cond.methodLink "java/util/ArrayList" (66 : Nat) ({ cls := "java/util/Arrays", name := "copyOf", desc := "([Ljava/lang/Object;I)[Ljava/lang/Object;" } : Jvm.MethodName)).before a0 Z = true := hw _ (List.mem_of_getElem? (i := 196) rfl)
theorem w_197 {Z : State} {a0 : Array Value} (hw : ∀ d ∈ tables_1, d.before a0 Z = true) : (Jvm.Cond.static ({ cls := "java/util/Arrays", name := "copyOf", desc := "([Ljava/lang/Object;I)[Ljava/lang/Object;" } : Jvm.MethodName)).before a0 Z = true := hw _ (List.mem_of_getElem? (i := 197) rfl)
theorem w_198 {Z : State} {a0 : Array Value} (hw : ∀ d ∈ tables_1, d.before a0 Z = true) : (Jvm.Cond.initialized "java/util/Arrays").before a0 Z = true := hw _ (List.mem_of_getElem? (i := 198) rfl)
theorem w_199 {Z : State} {a0 : Array Value} (hw : ∀ d ∈ tables_1, d.before a0 Z = true) : (Jvm.Cond.code ({ cls := "java/util/Arrays", name := "copyOf", desc := "([Ljava/lang/Object;I)[Ljava/lang/Object;" } : Jvm.MethodName) jdk_65_method_119_code (2 : Nat) (Option.some (Jvm.ClassFile.FieldType.array (Jvm.ClassFile.FieldType.object "java/lang/Object")))).before a0 Z = true := hw _ (List.mem_of_getElem? (i := 199) rfl)
theorem w_200 {Z : State} {a0 : Array Value} (hw : ∀ d ∈ tables_1, d.before a0 Z = true) : (Jvm.Cond.methodLink "java/util/Arrays" (86 : Nat) ({ cls := "java/lang/Object", name := "getClass", desc := "()Ljava/lang/Class;" } : Jvm.MethodName)).before a0 Z = true := hw _ (List.mem_of_getElem? (i := 200) rfl)
theorem w_201 {Z : State} {a0 : Array Value} (hw : ∀ d ∈ tables_1, d.before a0 Z = true) : (Jvm.Cond.declares ({ cls := "java/lang/Object", name := "getClass", desc := "()Ljava/lang/Class;" } : Jvm.MethodName)).before a0 Z = true := hw _ (List.mem_of_getElem? (i := 201) rfl)
theorem w_202 {Z : State} {a0 : Array Value} (hw : ∀ d ∈ tables_1, d.before a0 Z = true) : (Jvm.Cond.instanceMethod ({ cls := "java/lang/Object", name := "getClass", desc := "()Ljava/lang/Class;" } : Jvm.MethodName)).before a0 Z = true := hw _ (List.mem_of_getElem? (i := 202) rfl)
theorem w_203 {Z : State} {a0 : Array Value} (hw : ∀ d ∈ tables_1, d.before a0 Z = true) : (Jvm.Cond.selects "[Ljava/lang/Object;" ({ cls := "java/lang/Object", name := "getClass", desc := "()Ljava/lang/Class;" } : Jvm.MethodName) ({ cls := "java/lang/Object", name := "getClass", desc := "()Ljava/lang/Class;" } : Jvm.MethodName)).before a0 Z = true := hw _ (List.mem_of_getElem? (i := 203) rfl)
theorem w_204 {Z : State} {a0 : Array Value} (hw : ∀ d ∈ tables_1, d.before a0 Z = true) : (Jvm.Cond.native ({ cls := "java/lang/Object", name := "getClass", desc := "()Ljava/lang/Class;" } : Jvm.MethodName)).before a0 Z = true := hw _ (List.mem_of_getElem? (i := 204) rfl)
theorem w_206 {Z : State} {a0 : Array Value} (hw : ∀ d ∈ tables_1, d.before a0 Z = true) : (Jvm.Cond.methodLink "java/util/Arrays" (300 : Nat) ({ cls := "java/util/Arrays", name := "copyOf", desc := "([Ljava/lang/Object;ILjava/lang/Class;)[Ljava/lang/Object;" } : Jvm.MethodName)).before a0 Z = true := hw _ (List.mem_of_getElem? (i := 206) rfl)
theorem w_207 {Z : State} {a0 : Array Value} (hw : ∀ d ∈ tables_1, d.before a0 Z = true) : (Jvm.Cond.static ({ cls := "java/util/Arrays", name := "copyOf", desc := "([Ljava/lang/Object;ILjava/lang/Class;)[Ljava/lang/Object;" } : Jvm.MethodName)).before a0 Z = true := hw _ (List.mem_of_getElem? (i := 207) rfl)
theorem w_208 {Z : State} {a0 : Array Value} (hw : ∀ d ∈ tables_1, d.before a0 Z = true) : (Jvm.Cond.code ({ cls := "java/util/Arrays", name := "copyOf", desc := "([Ljava/lang/Object;ILjava/lang/Class;)[Ljava/lang/Object;" } : Jvm.MethodName) jdk_65_method_120_code (4 : Nat) (Option.some (Jvm.ClassFile.FieldType.array (Jvm.ClassFile.FieldType.object "java/lang/Object")))).before a0 Z = true := hw _ (List.mem_of_getElem? (i := 208) rfl)
theorem w_209 {Z : State} {a0 : Array Value} (hw : ∀ d ∈ tables_1, d.before a0 Z = true) : (Jvm.Cond.classLink "java/util/Arrays" (110 : Nat) "[Ljava/lang/Object;").before a0 Z = true := hw _ (List.mem_of_getElem? (i := 209) rfl)
theorem w_210 {Z : State} {a0 : Array Value} (hw : ∀ d ∈ tables_1, d.before a0 Z = true) : (Jvm.Cond.classLink "java/util/Arrays" (2 : Nat) "java/lang/Object").before a0 Z = true := hw _ (List.mem_of_getElem? (i := 210) rfl)
theorem w_211 {Z : State} {a0 : Array Value} (hw : ∀ d ∈ tables_1, d.before a0 Z = true) : (Jvm.Cond.methodLink "java/util/Arrays" (304 : Nat) ({ cls := "java/lang/Math", name := "min", desc := "(II)I" } : Jvm.MethodName)).before a0 Z = true := hw _ (List.mem_of_getElem? (i := 211) rfl)
theorem w_212 {Z : State} {a0 : Array Value} (hw : ∀ d ∈ tables_1, d.before a0 Z = true) : (Jvm.Cond.static ({ cls := "java/lang/Math", name := "min", desc := "(II)I" } : Jvm.MethodName)).before a0 Z = true := hw _ (List.mem_of_getElem? (i := 212) rfl)
theorem w_213 {Z : State} {a0 : Array Value} (hw : ∀ d ∈ tables_1, d.before a0 Z = true) : (Jvm.Cond.code ({ cls := "java/lang/Math", name := "min", desc := "(II)I" } : Jvm.MethodName) jdk_29_method_69_code (2 : Nat) (Option.some Jvm.ClassFile.FieldType.int)).before a0 Z = true := hw _ (List.mem_of_getElem? (i := 213) rfl)
theorem w_214 {Z : State} {a0 : Array Value} (hw : ∀ d ∈ tables_1, d.before a0 Z = true) : (Jvm.Cond.methodLink "java/util/Arrays" (150 : Nat) ({ cls := "java/lang/System", name := "arraycopy", desc := "(Ljava/lang/Object;ILjava/lang/Object;II)V" } : Jvm.MethodName)).before a0 Z = true := hw _ (List.mem_of_getElem? (i := 214) rfl)
theorem w_215 {Z : State} {a0 : Array Value} (hw : ∀ d ∈ tables_1, d.before a0 Z = true) : (Jvm.Cond.static ({ cls := "java/lang/System", name := "arraycopy", desc := "(Ljava/lang/Object;ILjava/lang/Object;II)V" } : Jvm.MethodName)).before a0 Z = true := hw _ (List.mem_of_getElem? (i := 215) rfl)
theorem w_216 {Z : State} {a0 : Array Value} (hw : ∀ d ∈ tables_1, d.before a0 Z = true) : (Jvm.Cond.initialized "java/lang/System").before a0 Z = true := hw _ (List.mem_of_getElem? (i := 216) rfl)
theorem w_217 {Z : State} {a0 : Array Value} (hw : ∀ d ∈ tables_1, d.before a0 Z = true) : (Jvm.Cond.native ({ cls := "java/lang/System", name := "arraycopy", desc := "(Ljava/lang/Object;ILjava/lang/Object;II)V" } : Jvm.MethodName)).before a0 Z = true := hw _ (List.mem_of_getElem? (i := 217) rfl)
theorem w_218 {Z : State} {a0 : Array Value} (hw : ∀ d ∈ tables_1, d.before a0 Z = true) : (Jvm.Cond.methodLink "java/util/ImmutableCollections" (34 : Nat) ({ cls := "java/util/List", name := "of", desc := "([Ljava/lang/Object;)Ljava/util/List;" } : Jvm.MethodName)).before a0 Z = true := hw _ (List.mem_of_getElem? (i := 218) rfl)
theorem w_219 {Z : State} {a0 : Array Value} (hw : ∀ d ∈ tables_1, d.before a0 Z = true) : (Jvm.Cond.static ({ cls := "java/util/List", name := "of", desc := "([Ljava/lang/Object;)Ljava/util/List;" } : Jvm.MethodName)).before a0 Z = true := hw _ (List.mem_of_getElem? (i := 219) rfl)
theorem w_220 {Z : State} {a0 : Array Value} (hw : ∀ d ∈ tables_1, d.before a0 Z = true) : (Jvm.Cond.code ({ cls := "java/util/List", name := "of", desc := "([Ljava/lang/Object;)Ljava/util/List;" } : Jvm.MethodName) jdk_40_method_47_code (2 : Nat) (Option.some (Jvm.ClassFile.FieldType.object "java/util/List"))).before a0 Z = true := hw _ (List.mem_of_getElem? (i := 220) rfl)
theorem w_221 {Z : State} {a0 : Array Value} (hw : ∀ d ∈ tables_1, d.before a0 Z = true) : (Jvm.Cond.classLink "java/util/List" (96 : Nat) "java/util/ImmutableCollections$List12").before a0 Z = true := hw _ (List.mem_of_getElem? (i := 221) rfl)
theorem w_222 {Z : State} {a0 : Array Value} (hw : ∀ d ∈ tables_1, d.before a0 Z = true) : (Jvm.Cond.instantiable "java/util/ImmutableCollections$List12" (2 : Nat)).before a0 Z = true := hw _ (List.mem_of_getElem? (i := 222) rfl)
theorem w_223 {Z : State} {a0 : Array Value} (hw : ∀ d ∈ tables_1, d.before a0 Z = true) : (Jvm.Cond.initialized "java/util/ImmutableCollections$List12").before a0 Z = true := hw _ (List.mem_of_getElem? (i := 223) rfl)
theorem w_224 {Z : State} {a0 : Array Value} (hw : ∀ d ∈ tables_1, d.before a0 Z = true) : (Jvm.Cond.methodLink "java/util/List" (98 : Nat) ({ cls := "java/util/ImmutableCollections$List12", name := "<init>", desc := "(Ljava/lang/Object;)V" } : Jvm.MethodName)).before a0 Z = true := hw _ (List.mem_of_getElem? (i := 224) rfl)
theorem w_225 {Z : State} {a0 : Array Value} (hw : ∀ d ∈ tables_1, d.before a0 Z = true) : (Jvm.Cond.instanceMethod ({ cls := "java/util/ImmutableCollections$List12", name := "<init>", desc := "(Ljava/lang/Object;)V" } : Jvm.MethodName)).before a0 Z = true := hw _ (List.mem_of_getElem? (i := 225) rfl)
theorem w_227 {Z : State} {a0 : Array Value} (hw : ∀ d ∈ tables_1, d.before a0 Z = true) : (Jvm.Cond.code ({ cls := "java/util/ImmutableCollections$List12", name := "<init>", desc := "(Ljava/lang/Object;)V" } : Jvm.MethodName) jdk_44_method_1_code (2 : Nat) (Option.none : Option Jvm.ClassFile.FieldType)).before a0 Z = true := hw _ (List.mem_of_getElem? (i := 227) rfl)
theorem w_228 {Z : State} {a0 : Array Value} (hw : ∀ d ∈ tables_1, d.before a0 Z = true) : (Jvm.Cond.methodLink "java/util/ImmutableCollections$List12" (1 : Nat) ({ cls := "java/util/ImmutableCollections$AbstractImmutableList", name := "<init>", desc := "()V" } : Jvm.MethodName)).before a0 Z = true := hw _ (List.mem_of_getElem? (i := 228) rfl)
theorem w_229 {Z : State} {a0 : Array Value} (hw : ∀ d ∈ tables_1, d.before a0 Z = true) : (Jvm.Cond.instanceMethod ({ cls := "java/util/ImmutableCollections$AbstractImmutableList", name := "<init>", desc := "()V" } : Jvm.MethodName)).before a0 Z = true := hw _ (List.mem_of_getElem? (i := 229) rfl)
theorem w_232 {Z : State} {a0 : Array Value} (hw : ∀ d ∈ tables_1, d.before a0 Z = true) : (Jvm.Cond.initialized "java/util/ImmutableCollections$AbstractImmutableList").before a0 Z = true := hw _ (List.mem_of_getElem? (i := 232) rfl)
theorem w_233 {Z : State} {a0 : Array Value} (hw : ∀ d ∈ tables_1, d.before a0 Z = true) : (Jvm.Cond.code ({ cls := "java/util/ImmutableCollections$AbstractImmutableList", name := "<init>", desc := "()V" } : Jvm.MethodName) jdk_46_method_1_code (1 : Nat) (Option.none : Option Jvm.ClassFile.FieldType)).before a0 Z = true := hw _ (List.mem_of_getElem? (i := 233) rfl)
theorem w_234 {Z : State} {a0 : Array Value} (hw : ∀ d ∈ tables_1, d.before a0 Z = true) : (Jvm.Cond.methodLink "java/util/ImmutableCollections$AbstractImmutableList" (1 : Nat) ({ cls := "java/util/ImmutableCollections$AbstractImmutableCollection", name := "<init>", desc := "()V" } : Jvm.MethodName)).before a0 Z = true := hw _ (List.mem_of_getElem? (i := 234) rfl)
theorem w_235 {Z : State} {a0 : Array Value} (hw : ∀ d ∈ tables_1, d.before a0 Z = true) : (Jvm.Cond.instanceMethod ({ cls := "java/util/ImmutableCollections$AbstractImmutableCollection", name := "<init>", desc := "()V" } : Jvm.MethodName)).before a0 Z = true := hw _ (List.mem_of_getElem? (i := 235) rfl)
theorem w_238 {Z : State} {a0 : Array Value} (hw : ∀ d ∈ tables_1, d.before a0 Z = true) : (Jvm.Cond.initialized "java/util/ImmutableCollections$AbstractImmutableCollection").before a0 Z = true := hw _ (List.mem_of_getElem? (i := 238) rfl)
theorem w_239 {Z : State} {a0 : Array Value} (hw : ∀ d ∈ tables_1, d.before a0 Z = true) : (Jvm.Cond.code ({ cls := "java/util/ImmutableCollections$AbstractImmutableCollection", name := "<init>", desc := "()V" } : Jvm.MethodName) jdk_47_method_1_code (1 : Nat) (Option.none : Option Jvm.ClassFile.FieldType)).before a0 Z = true := hw _ (List.mem_of_getElem? (i := 239) rfl)
theorem w_240 {Z : State} {a0 : Array Value} (hw : ∀ d ∈ tables_1, d.before a0 Z = true) : (Jvm.Cond.methodLink "java/util/ImmutableCollections$AbstractImmutableCollection" (1 : Nat) ({ cls := "java/util/AbstractCollection", name := "<init>", desc := "()V" } : Jvm.MethodName)).before a0 Z = true := hw _ (List.mem_of_getElem? (i := 240) rfl)
theorem w_242 {Z : State} {a0 : Array Value} (hw : ∀ d ∈ tables_1, d.before a0 Z = true) : (Jvm.Cond.methodLink "java/util/ImmutableCollections$List12" (7 : Nat) ({ cls := "java/util/Objects", name := "requireNonNull", desc := "(Ljava/lang/Object;)Ljava/lang/Object;" } : Jvm.MethodName)).before a0 Z = true := hw _ (List.mem_of_getElem? (i := 242) rfl)
theorem w_243 {Z : State} {a0 : Array Value} (hw : ∀ d ∈ tables_1, d.before a0 Z = true) : (Jvm.Cond.static ({ cls := "java/util/Objects", name := "requireNonNull", desc := "(Ljava/lang/Object;)Ljava/lang/Object;" } : Jvm.MethodName)).before a0 Z = true := hw _ (List.mem_of_getElem? (i := 243) rfl)
theorem w_244 {Z : State} {a0 : Array Value} (hw : ∀ d ∈ tables_1, d.before a0 Z = true) : (Jvm.Cond.initialized "java/util/Objects").before a0 Z = true := hw _ (List.mem_of_getElem? (i := 244) rfl)
theorem w_245 {Z : State} {a0 : Array Value} (hw : ∀ d ∈ tables_1, d.before a0 Z = true) : (Jvm.Cond.code ({ cls := "java/util/Objects", name := "requireNonNull", desc := "(Ljava/lang/Object;)Ljava/lang/Object;" } : Jvm.MethodName) jdk_31_method_10_code (1 : Nat) (Option.some (Jvm.ClassFile.FieldType.object "java/lang/Object"))).before a0 Z = true := hw _ (List.mem_of_getElem? (i := 245) rfl)
theorem w_246 {Z : State} {a0 : Array Value} (hw : ∀ d ∈ tables_1, d.before a0 Z = true) : (Jvm.Cond.fieldLink "java/util/ImmutableCollections$List12" (13 : Nat) "java/util/ImmutableCollections$List12" "e0" "Ljava/lang/Object;").before a0 Z = true := hw _ (List.mem_of_getElem? (i := 246) rfl)
theorem w_247 {Z : State} {a0 : Array Value} (hw : ∀ d ∈ tables_1, d.before a0 Z = true) : (Jvm.Cond.laysFinal "java/util/ImmutableCollections$List12" "java/util/ImmutableCollections$List12" "e0" "Ljava/lang/Object;").before a0 Z = true := hw _ (List.mem_of_getElem? (i := 247) rfl)
theorem w_248 {Z : State} {a0 : Array Value} (hw : ∀ d ∈ tables_1, d.before a0 Z = true) : (Jvm.Cond.fieldLinkNest "java/util/ImmutableCollections$List12" (19 : Nat) "java/util/ImmutableCollections" "EMPTY" "Ljava/lang/Object;" "java/util/ImmutableCollections").before a0 Z = true := hw _ (List.mem_of_getElem? (i := 248) rfl)
theorem w_249 {Z : State} {a0 : Array Value} (hw : ∀ d ∈ tables_1, d.before a0 Z = true) : (Jvm.Cond.fieldLink "java/util/ImmutableCollections$List12" (24 : Nat) "java/util/ImmutableCollections$List12" "e1" "Ljava/lang/Object;").before a0 Z = true := hw _ (List.mem_of_getElem? (i := 249) rfl)
theorem w_250 {Z : State} {a0 : Array Value} (hw : ∀ d ∈ tables_1, d.before a0 Z = true) : (Jvm.Cond.laysFinal "java/util/ImmutableCollections$List12" "java/util/ImmutableCollections$List12" "e1" "Ljava/lang/Object;").before a0 Z = true := hw _ (List.mem_of_getElem? (i := 250) rfl)
abbrev R_m_record : Room := { frames := 1, cells := 0, slots := 0, locals := 12 }
theorem pn_m_record : plainFor (⟨"java/lang/Record", "<init>", "()V"⟩ : MethodName) = true := by first | (refine plainFor_of_name ?_; simp [plainName, overriddenIn]; done) | decide +kernel
abbrev Q_m_record (Z : State) (a : Addr) (h0 : Heap) : Option Value → Heap → List Addr → Prop := fun res h' SN => res = none ∧ SN = [] ∧ h0 = h'
theorem ef_m_record (mid : MethodId) (a : Addr) : entryFrame mid #[(.ref a)] 1 = mkF mid 0 #[.val (.ref a)] [] := by first | (simp [entryFrame, mkF, argsToLocals, Value.category]; done) | rfl
set_option maxRecDepth 65536 in
set_option maxHeartbeats 40000000 in
theorem m_record {l : Launch} {Z : State} {a0 : Array Value} {n0 : Nat} (hw : ∀ d ∈ tables_1, d.before a0 Z = true) (hs : Stat Z) (a : Addr) (h0 : Heap) :
    Met l Z EL0 n0 NR0 KN0 N_0 jdk_30_method_1_code 1 (Option.none : Option Jvm.ClassFile.FieldType) R_m_record [] #[(.ref a)] h0 (Q_m_record Z a h0) := by
  refine Met.of_go pn_m_record (fun mid => ef_m_record mid a ) ?_
  intro hO hWS
  refine Go.aload_n (pc' := 1) d_jdk_30_method_1_0 rfl rfl rfl ?_
  refine Go.initO (pc' := 4) (W := 0) d_jdk_30_method_1_1 rfl (w_65 hw) (w_12 hw) (w_13 hw) rfl (by decide) (Nat.le_of_eq rfl) (by decide) ?_
  exact Go.retV d_jdk_30_method_1_4 rfl (by decide) (by decide) [] sn0 ⟨rfl, rfl, rfl⟩
abbrev R_m_cmpL : Room := { frames := 0, cells := 0, slots := 0, locals := 0 }
set_option maxRecDepth 65536 in
set_option maxHeartbeats 40000000 in
theorem m_cmpL_loop {l : Launch} {Z : State} {n0 : Nat} {h0 : Heap} {Q : Option Value → Heap → List Addr → Prop} {c t : Addr} {kc kt : ClassId} {cs : List Int32} {z : Int32} (hz : z.toNatClampNeg = cs.length) (hcs : ∀ x ∈ cs, ¬ x < 0 ∧ ¬ 255 < x) (ne_c_t : c ≠ t)
    (K : ∀ h' o, Arv Z h' t kt .byte z (cs.map lowV) (.int (0 : Int32)) → Go l Z EL0 n0 NR0 KN0 N_1 jdk_52_method_21_code 7 (Option.some Jvm.ClassFile.FieldType.int) R_m_cmpL h0 [t] Q [t] h' 0 0 44 #[.val (.ref c), .val (.int (Int32.ofNat cs.length)), .val (.ref t), .val (.int (Int32.ofNat cs.length)), .val (.int z), .val (.int (Int32.ofNat cs.length)), o] []) :
    ∀ (m i : Nat) (h : Heap) (o : Slot), i + m = cs.length → One o → Arv Z h c kc .char z (cs.map Value.int) (.int (0 : Int32)) → Arv Z h t kt .byte z ((cs.take i).map lowV ++ List.replicate m (.int (0 : Int32))) (.int (0 : Int32)) →
      Go l Z EL0 n0 NR0 KN0 N_1 jdk_52_method_21_code 7 (Option.some Jvm.ClassFile.FieldType.int) R_m_cmpL h0 [t] Q [t] h 0 0 3 #[.val (.ref c), .val (.int (Int32.ofNat i)), .val (.ref t), .val (.int (Int32.ofNat i)), .val (.int z), .val (.int (Int32.ofNat i)), o] [] := by
  intro m
  induction m with
  | zero =>
    intro i h o hi ho V_c V_t
    obtain rfl : i = cs.length := by omega
    have zn := arv_nn V_c
    have q := (back32 zn).2
    refine Go.iload (pc' := 5) d_jdk_52_method_21_3 rfl rfl ?_
    refine Go.iload (pc' := 7) d_jdk_52_method_21_5 rfl rfl ?_
    refine Go.icmpY (pc' := 44) d_jdk_52_method_21_7 (by decide) (by decide) (flt (ofNat_ge zn (by omega) (Nat.le_of_eq hz) : ¬ ((Int32.ofNat cs.length) < z))).2.1 ?_
    refine K h o ?_
    simpa using V_t
  | succ m ih =>
    intro i h o hi ho V_c V_t
    have zn := arv_nn V_c
    have q := (back32 zn).2
    have hi2 : i < cs.length := by omega
    have b1 := getD_mem hcs hi2
    have ci := ofNat_clamp (i := i) (by omega)
    have nn := ofNat_nn (i := i) (by omega)
    have lt := ofNat_lt (i := i) zn (by omega)
    refine Go.iload (pc' := 5) d_jdk_52_method_21_3 rfl rfl ?_
    refine Go.iload (pc' := 7) d_jdk_52_method_21_5 rfl rfl ?_
    refine Go.icmpN (pc' := 10) d_jdk_52_method_21_7 rfl (tlt (lt : (Int32.ofNat i) < z)).2.1 ?_
    refine Go.aload_n (pc' := 11) d_jdk_52_method_21_10 rfl rfl rfl ?_
    refine Go.iload_n (pc' := 12) d_jdk_52_method_21_11 rfl rfl ?_
    refine Go.caloadV (pc' := 13) (v := (.int (cs.getD i 0))) d_jdk_52_method_21_12 rfl V_c ⟨nn, lt⟩ (by rw [ci]; exact getD_int cs i) ?_
    refine Go.istoreS (pc' := 15) (Ls' := #[.val (.ref c), .val (.int (Int32.ofNat i)), .val (.ref t), .val (.int (Int32.ofNat i)), .val (.int z), .val (.int (Int32.ofNat i)), .val (.int (cs.getD i 0))]) d_jdk_52_method_21_13 rfl rfl ho rfl ?_
    refine Go.iload (pc' := 17) d_jdk_52_method_21_15 rfl rfl ?_
    refine Go.sipush (pc' := 20) d_jdk_52_method_21_17 rfl ics_255 ?_
    refine Go.icmpY (pc' := 26) d_jdk_52_method_21_20 (by decide) (by decide) (flt (b1.2 : ¬ ((255 : Int32) < (cs.getD i 0)))).2.2.2 ?_
    refine Go.aload_n (pc' := 27) d_jdk_52_method_21_26 rfl rfl rfl ?_
    refine Go.iload_n (pc' := 28) d_jdk_52_method_21_27 rfl rfl ?_
    refine Go.iload (pc' := 30) d_jdk_52_method_21_28 rfl rfl ?_
    refine Go.i2b (pc' := 31) d_jdk_52_method_21_30 rfl ?_
    refine Go.bastoreV (pc' := 32) (i := i) d_jdk_52_method_21_31 rfl (List.mem_of_getElem? (i := 0) rfl) V_t ⟨nn, lt⟩ ci (by simp; omega) ?_
    intro h2 W2 V_t2
    rw [nar_byte] at V_t2
    have V_t3 := V_t2
    rw [show (Value.int (cs.getD i 0).toInt8.toInt32) = lowV (cs.getD i 0) from rfl, set_low cs i m hi2] at V_t3
    replace V_c := V_c.other W2 ne_c_t
    change Go _ _ _ _ _ _ _ _ _ _ _ _ _ _ [t] h2 0 0 32 #[.val (.ref c), .val (.int (Int32.ofNat i)), .val (.ref t), .val (.int (Int32.ofNat i)), .val (.int z), .val (.int (Int32.ofNat i)), .val (.int (cs.getD i 0))] []
    refine Go.iinc (pc' := 35) (Ls' := #[.val (.ref c), .val (.int ((Int32.ofNat i) + (1 : Int32))), .val (.ref t), .val (.int (Int32.ofNat i)), .val (.int z), .val (.int (Int32.ofNat i)), .val (.int (cs.getD i 0))]) d_jdk_52_method_21_32 rfl ic_1 rfl rfl ?_
    refine Go.iinc (pc' := 38) (Ls' := #[.val (.ref c), .val (.int ((Int32.ofNat i) + (1 : Int32))), .val (.ref t), .val (.int ((Int32.ofNat i) + (1 : Int32))), .val (.int z), .val (.int (Int32.ofNat i)), .val (.int (cs.getD i 0))]) d_jdk_52_method_21_35 rfl ic_1 rfl rfl ?_
    refine Go.iinc (pc' := 41) (Ls' := #[.val (.ref c), .val (.int ((Int32.ofNat i) + (1 : Int32))), .val (.ref t), .val (.int ((Int32.ofNat i) + (1 : Int32))), .val (.int z), .val (.int ((Int32.ofNat i) + (1 : Int32))), .val (.int (cs.getD i 0))]) d_jdk_52_method_21_38 rfl ic_1 rfl rfl ?_
    refine Go.goto (pc' := 3) d_jdk_52_method_21_41 (by decide) (by decide) ?_
    rw [ofNat_succ i]
    exact ih (i + 1) h2 _ (by omega) (One.val rfl) V_c V_t3
theorem pn_m_cmpL : plainFor (⟨"java/lang/StringUTF16", "compress", "([CI[BII)I"⟩ : MethodName) = true := by first | (refine plainFor_of_name ?_; simp [plainName, overriddenIn]; done) | decide +kernel
theorem ef_m_cmpL (m : MethodId) (c t : Addr) (z : Int32) : entryFrame m #[(.ref c), (.int (0 : Int32)), (.ref t), (.int (0 : Int32)), (.int z)] 7 = mkF m 0 #[.val (.ref c), .val (.int (0 : Int32)), .val (.ref t), .val (.int (0 : Int32)), .val (.int z), .unset, .unset] [] := by first | (simp [entryFrame, mkF, argsToLocals, Value.category]; done) | rfl
set_option maxRecDepth 65536 in
set_option maxHeartbeats 40000000 in
theorem m_cmpL {l : Launch} {Z : State} {a0 : Array Value} {n0 : Nat} (hw : ∀ d ∈ tables_1, d.before a0 Z = true) (hs : Stat Z) (c t : Addr) (kc kt : ClassId) (cs : List Int32) (z : Int32) (h0 : Heap) (V_c : Arv Z h0 c kc .char z (cs.map Value.int) (.int (0 : Int32))) (V_t : Arv Z h0 t kt .byte z (List.replicate cs.length (.int (0 : Int32))) (.int (0 : Int32))) (hz : z.toNatClampNeg = cs.length) (hcs : ∀ x ∈ cs, ¬ x < 0 ∧ ¬ 255 < x) (ne_c_t : c ≠ t) :
    Met l Z EL0 n0 NR0 KN0 N_1 jdk_52_method_21_code 7 (Option.some Jvm.ClassFile.FieldType.int) R_m_cmpL [t] #[(.ref c), (.int (0 : Int32)), (.ref t), (.int (0 : Int32)), (.int z)] h0 (fun v h' SN => v = some (.int z) ∧ SN = [] ∧ Arv Z h' t kt .byte z (cs.map lowV) (.int (0 : Int32))) := by
  refine Met.of_go pn_m_cmpL (fun m => ef_m_cmpL m c t z) ?_
  intro hO hWS
  refine Go.iconst (pc' := 1) d_jdk_52_method_21_0 rfl ic_0 ?_
  refine Go.istore (pc' := 3) (Ls' := #[.val (.ref c), .val (.int (0 : Int32)), .val (.ref t), .val (.int (0 : Int32)), .val (.int z), .val (.int (0 : Int32)), .unset]) d_jdk_52_method_21_1 rfl rfl ?_
  refine m_cmpL_loop (kc := kc) hz hcs ne_c_t (fun h' o V => ?_) cs.length 0 h0 _ (by omega) One.u V_c (by simpa using V_t)
  refine Go.iload (pc' := 46) d_jdk_52_method_21_44 rfl rfl ?_
  exact Go.retI d_jdk_52_method_21_46 rfl (by decide) (by decide) [] sn0 ⟨rfl, rfl, V⟩
abbrev R_m_cmp : Room := { frames := 1, cells := 1, slots := 1, locals := 18 }
theorem pn_m_cmp : plainFor (⟨"java/lang/StringUTF16", "compress", "([CII)[B"⟩ : MethodName) = true := by first | (refine plainFor_of_name ?_; simp [plainName, overriddenIn]; done) | decide +kernel
abbrev Q_m_cmp (Z : State) (c : Addr) (kc : ClassId) (cs : List Int32) (z : Int32) (h0 : Heap) : Option Value → Heap → List Addr → Prop := fun res h' SN => ∃ (t : Addr) (kt : ClassId), res = some (.ref t) ∧ SN = [] ∧ h0.size ≤ t ∧ Arv Z h' t kt .byte z (cs.map lowV) (.int (0 : Int32))
theorem ef_m_cmp (mid : MethodId) (c : Addr) (kc : ClassId) (cs : List Int32) (z : Int32) : entryFrame mid #[(.ref c), (.int (0 : Int32)), (.int z)] 6 = mkF mid 0 #[.val (.ref c), .val (.int (0 : Int32)), .val (.int z), .unset, .unset, .unset] [] := by first | (simp [entryFrame, mkF, argsToLocals, Value.category]; done) | rfl
set_option maxRecDepth 65536 in
set_option maxHeartbeats 40000000 in
theorem m_cmp {l : Launch} {Z : State} {a0 : Array Value} {n0 : Nat} (hw : ∀ d ∈ tables_1, d.before a0 Z = true) (hs : Stat Z) (c : Addr) (kc : ClassId) (cs : List Int32) (z : Int32) (h0 : Heap) (V_c : Arv Z h0 c kc .char z (cs.map Value.int) (.int (0 : Int32))) (hz : z.toNatClampNeg = cs.length) (hcs : ∀ x ∈ cs, ¬ x < 0 ∧ ¬ 255 < x) (hcap : z.toNatClampNeg ≤ CAP) :
    Met l Z EL0 n0 NR0 KN0 N_2 jdk_52_method_16_code 6 (Option.some (Jvm.ClassFile.FieldType.array Jvm.ClassFile.FieldType.byte)) R_m_cmp [] #[(.ref c), (.int (0 : Int32)), (.int z)] h0 (Q_m_cmp Z c kc cs z h0) := by
  refine Met.of_go pn_m_cmp (fun mid => ef_m_cmp mid c kc cs z ) ?_
  intro hO hWS
  have zn := arv_nn V_c
  refine Go.iload_n (pc' := 1) d_jdk_52_method_16_0 rfl rfl ?_
  refine Go.newP (pc' := 3) (cap := CAP) (ad := "[B") d_jdk_52_method_16_1 rfl (w_19 hw) (by decide) zn hcap (by decide) (by decide) (by decide) ?_
  intro h1 b1 g1 ge_b1 k1 x1 V_b1 E_b1
  have o_c_b1 : c ≠ b1 := Nat.ne_of_lt (Nat.lt_of_lt_of_le V_c.lt (Nat.le_of_eq g1))
  replace V_c := V_c.ext x1
  replace V_b1 : Arv Z h1 b1 k1 .byte z (List.replicate cs.length (.int (0 : Int32))) (.int (0 : Int32)) := V_b1.pad (fun i => pad_rep [] _ cs.length i)
  change Go _ _ _ _ _ _ _ _ _ _ _ _ _ _ [b1] h1 1 1 3 #[.val (.ref c), .val (.int (0 : Int32)), .val (.int z), .unset, .unset, .unset] [(.ref b1)]
  refine Go.astore_n (pc' := 4) (Ls' := #[.val (.ref c), .val (.int (0 : Int32)), .val (.int z), .val (.ref b1), .unset, .unset]) d_jdk_52_method_16_3 rfl rfl rfl ?_
  refine Go.aload_n (pc' := 5) d_jdk_52_method_16_4 rfl rfl rfl ?_
  refine Go.iload_n (pc' := 6) d_jdk_52_method_16_5 rfl rfl ?_
  refine Go.aload_n (pc' := 7) d_jdk_52_method_16_6 rfl rfl rfl ?_
  refine Go.iconst (pc' := 8) d_jdk_52_method_16_7 rfl ic_0 ?_
  refine Go.iload_n (pc' := 9) d_jdk_52_method_16_8 rfl rfl ?_
  refine Go.callS (pc' := 12) (z := N_1) d_jdk_52_method_16_9 rfl (w_20 hw) (w_21 hw) (w_17 hw) (w_22 hw) (by decide) (argsL := [(.ref c), (.int (0 : Int32)), (.ref b1), (.int (0 : Int32)), (.int z)]) (rest := []) (Pays.of_met (W := 0) (len := 3) (m_cmpL hw hs c b1 kc k1 cs z h1 V_c V_b1 (hz) (hcs) o_c_b1) (w_22 hw) (w_17 hw) (by decide) (by decide)) rfl rfl (lenOf pd_0 rfl) rfl (Nat.le_of_eq rfl) (memS (List.mem_of_getElem? (i := 0) rfl) mem0) (by decide) (by decide) ?_
  rintro _ h1 _ K2 le3 ⟨rfl, rfl, p4⟩
  replace V_c := V_c.keep K2 (ninS o_c_b1 nin0)
  have V_b1 := p4
  change Go _ _ _ _ _ _ _ _ _ _ _ _ _ _ [b1] h1 1 1 12 #[.val (.ref c), .val (.int (0 : Int32)), .val (.int z), .val (.ref b1), .unset, .unset] [(.int z)]
  refine Go.istore (pc' := 14) (Ls' := #[.val (.ref c), .val (.int (0 : Int32)), .val (.int z), .val (.ref b1), .val (.int z), .unset]) d_jdk_52_method_16_12 rfl rfl ?_
  refine Go.iload (pc' := 16) d_jdk_52_method_16_14 rfl rfl ?_
  refine Go.iload_n (pc' := 17) d_jdk_52_method_16_16 rfl rfl ?_
  refine Go.icmpY (pc' := 57) d_jdk_52_method_16_17 (by decide) (by decide) (teq (rfl : z = z)).1 ?_
  refine Go.aload_n (pc' := 58) d_jdk_52_method_16_57 rfl rfl rfl ?_
  exact Go.retA d_jdk_52_method_16_58 rfl rfl rfl (by decide) (by decide) [] sn0 ⟨b1, k1, rfl, rfl, ge_b1, V_b1⟩
abbrev R_m_cfl : Room := { frames := 0, cells := 0, slots := 0, locals := 0 }
theorem pn_m_cfl : plainFor (⟨"java/lang/StringUTF16", "coderFromArrayLen", "([BI)B"⟩ : MethodName) = true := by first | (refine plainFor_of_name ?_; simp [plainName, overriddenIn]; done) | decide +kernel
abbrev Q_m_cfl (Z : State) (t : Addr) (kt : ClassId) (z : Int32) (vs : List Value) (h0 : Heap) : Option Value → Heap → List Addr → Prop := fun res h' SN => res = some (.int (0 : Int32)) ∧ SN = [] ∧ h0 = h'
theorem ef_m_cfl (mid : MethodId) (t : Addr) (kt : ClassId) (z : Int32) (vs : List Value) : entryFrame mid #[(.ref t), (.int z)] 2 = mkF mid 0 #[.val (.ref t), .val (.int z)] [] := by first | (simp [entryFrame, mkF, argsToLocals, Value.category]; done) | rfl
set_option maxRecDepth 65536 in
set_option maxHeartbeats 40000000 in
theorem m_cfl {l : Launch} {Z : State} {a0 : Array Value} {n0 : Nat} (hw : ∀ d ∈ tables_1, d.before a0 Z = true) (hs : Stat Z) (t : Addr) (kt : ClassId) (z : Int32) (vs : List Value) (h0 : Heap) (V_t : Arv Z h0 t kt .byte z vs (.int (0 : Int32))) :
    Met l Z EL0 n0 NR0 KN0 N_3 jdk_52_method_15_code 2 (Option.some Jvm.ClassFile.FieldType.byte) R_m_cfl [] #[(.ref t), (.int z)] h0 (Q_m_cfl Z t kt z vs h0) := by
  refine Met.of_go pn_m_cfl (fun mid => ef_m_cfl mid t kt z vs ) ?_
  intro hO hWS
  refine Go.iload_n (pc' := 1) d_jdk_52_method_15_0 rfl rfl ?_
  refine Go.aload_n (pc' := 2) d_jdk_52_method_15_1 rfl rfl rfl ?_
  refine Go.lenV (pc' := 3) d_jdk_52_method_15_2 rfl V_t ?_
  refine Go.isub (pc' := 4) d_jdk_52_method_15_3 rfl ?_
  refine Go.bipush (pc' := 6) d_jdk_52_method_15_4 rfl icb_31 ?_
  refine Go.iushr (pc' := 7) d_jdk_52_method_15_6 rfl ?_
  refine Go.i2b (pc' := 8) d_jdk_52_method_15_7 rfl ?_
  rw [own_coder0]
  exact Go.retS (ty := .byte) d_jdk_52_method_15_8 rfl (by simp) rfl (by decide) (by decide) [] sn0 ⟨rfl, rfl, rfl⟩
abbrev R_m_str4 : Room := { frames := 2, cells := 1, slots := 1, locals := 35 }
theorem pn_m_str4 : plainFor (⟨"java/lang/String", "<init>", "([CIILjava/lang/Void;)V"⟩ : MethodName) = true := by first | (refine plainFor_of_name ?_; simp [plainName, overriddenIn]; done) | decide +kernel
abbrev Q_m_str4 (Z : State) (a : Addr) (c : Addr) (kc : ClassId) (cs : List Int32) (z : Int32) (h0 : Heap) : Option Value → Heap → List Addr → Prop := fun res h' SN => ∃ (t : Addr) (kt : ClassId), res = none ∧ SN = [] ∧ Exa Z h' a "java/lang/String" ∧ Fld Z h' a "java/lang/String" "coder" "B" (.int (0 : Int32)) ∧ Fld Z h' a "java/lang/String" "value" "[B" (.ref t) ∧ Arv Z h' t kt .byte z (cs.map lowV) (.int (0 : Int32)) ∧ h0.size ≤ t
theorem ef_m_str4 (mid : MethodId) (a : Addr) (c : Addr) (kc : ClassId) (cs : List Int32) (z : Int32) : entryFrame mid #[(.ref a), (.ref c), (.int (0 : Int32)), (.int z), .null] 6 = mkF mid 0 #[.val (.ref a), .val (.ref c), .val (.int (0 : Int32)), .val (.int z), .val .null, .unset] [] := by first | (simp [entryFrame, mkF, argsToLocals, Value.category]; done) | rfl
set_option maxRecDepth 65536 in
set_option maxHeartbeats 40000000 in
theorem m_str4 {l : Launch} {Z : State} {a0 : Array Value} {n0 : Nat} (hw : ∀ d ∈ tables_1, d.before a0 Z = true) (hs : Stat Z) (a : Addr) (c : Addr) (kc : ClassId) (cs : List Int32) (z : Int32) (h0 : Heap) (E_a : Exa Z h0 a "java/lang/String") (F_a_coder : Fld Z h0 a "java/lang/String" "coder" "B" (.int (0 : Int32))) (F_a_value : Fld Z h0 a "java/lang/String" "value" "[B" .null) (V_c : Arv Z h0 c kc .char z (cs.map Value.int) (.int (0 : Int32))) (hz : z.toNatClampNeg = cs.length) (hcs : ∀ x ∈ cs, ¬ x < 0 ∧ ¬ 255 < x) (hcs0 : cs ≠ []) (hcap : z.toNatClampNeg ≤ CAP) (ne_c_a : c ≠ a) :
    Met l Z EL0 n0 NR0 KN0 N_4 jdk_42_method_149_code 6 (Option.none : Option Jvm.ClassFile.FieldType) R_m_str4 [a] #[(.ref a), (.ref c), (.int (0 : Int32)), (.int z), .null] h0 (Q_m_str4 Z a c kc cs z h0) := by
  refine Met.of_go pn_m_str4 (fun mid => ef_m_str4 mid a c kc cs z ) ?_
  intro hO hWS
  obtain ⟨zc, S_c, hzc⟩ := hs_c hs
  have zn := arv_nn V_c
  refine Go.aload_n (pc' := 1) d_jdk_42_method_149_0 rfl rfl rfl ?_
  refine Go.initO (pc' := 4) (W := 0) d_jdk_42_method_149_1 rfl (w_11 hw) (w_12 hw) (w_13 hw) rfl (by decide) (Nat.le_of_eq rfl) (by decide) ?_
  refine Go.iload_n (pc' := 5) d_jdk_42_method_149_4 rfl rfl ?_
  refine Go.ifY (pc' := 27) d_jdk_42_method_149_5 (by decide) (by decide) ((if0 _ _).trans (feq (own_nz hz hcs0 : ¬ (z = (0 : Int32)))).2) ?_
  refine Go.getS (pc' := 30) d_jdk_42_method_149_27 rfl (host := "") (Or.inl (w_14 hw)) Via.refl S_c ?_
  refine Go.ifN (pc' := 33) d_jdk_42_method_149_30 rfl ((if0 _ _).trans (feq (hzc : ¬ (zc = (0 : Int32)))).1) ?_
  refine Go.aload_n (pc' := 34) d_jdk_42_method_149_33 rfl rfl rfl ?_
  refine Go.iload_n (pc' := 35) d_jdk_42_method_149_34 rfl rfl ?_
  refine Go.iload_n (pc' := 36) d_jdk_42_method_149_35 rfl rfl ?_
  refine Go.callS (pc' := 39) (z := N_2) d_jdk_42_method_149_36 rfl (w_15 hw) (w_16 hw) (w_17 hw) (w_18 hw) (by decide) (argsL := [(.ref c), (.int (0 : Int32)), (.int z)]) (rest := []) (Pays.of_met (W := 0) (len := 3) (m_cmp hw hs c kc cs z h0 V_c (hz) (hcs) (hcap)) (w_18 hw) (w_17 hw) (by decide) (by decide)) rfl rfl (lenOf pd_1 rfl) rfl (Nat.le_of_eq rfl) mem0 (by decide) (by decide) ?_
  rintro _ h7 _ K8 le9 ⟨b5, q6, rfl, rfl, p10, p11⟩
  have o_a_b5 : a ≠ b5 := Nat.ne_of_lt (Nat.lt_of_lt_of_le E_a.lt p10)
  have o_c_b5 : c ≠ b5 := Nat.ne_of_lt (Nat.lt_of_lt_of_le V_c.lt p10)
  have ge_b5 := Nat.le_trans le9 p10
  replace E_a := E_a.keep K8
  replace F_a_coder := F_a_coder.keep K8 nin0
  replace F_a_value := F_a_value.keep K8 nin0
  replace V_c := V_c.keep K8 nin0
  have V_b5 := p11
  change Go _ _ _ _ _ _ _ _ _ _ _ _ _ _ [a] h7 1 1 39 #[.val (.ref a), .val (.ref c), .val (.int (0 : Int32)), .val (.int z), .val .null, .unset] [(.ref b5)]
  refine Go.astore (pc' := 41) (Ls' := #[.val (.ref a), .val (.ref c), .val (.int (0 : Int32)), .val (.int z), .val .null, .val (.ref b5)]) d_jdk_42_method_149_39 rfl rfl rfl ?_
  refine Go.aload_n (pc' := 42) d_jdk_42_method_149_41 rfl rfl rfl ?_
  refine Go.aload (pc' := 44) d_jdk_42_method_149_42 rfl rfl rfl ?_
  refine Go.iload_n (pc' := 45) d_jdk_42_method_149_44 rfl rfl ?_
  refine Go.callS (pc' := 48) (z := N_3) d_jdk_42_method_149_45 rfl (w_23 hw) (w_24 hw) (w_17 hw) (w_25 hw) (by decide) (argsL := [(.ref b5), (.int z)]) (rest := [(.ref a)]) (Pays.of_met (W := 1) (len := 3) (m_cfl hw hs b5 q6 z (cs.map lowV) h7 V_b5) (w_25 hw) (w_17 hw) (by decide) (by decide)) rfl rfl (lenOf pd_2 rfl) rfl (Nat.le_of_eq rfl) mem0 (by decide) (by decide) ?_
  rintro _ _ _ - - ⟨rfl, rfl, rfl⟩
  change Go _ _ _ _ _ _ _ _ _ _ _ _ _ _ [a] h7 1 1 48 #[.val (.ref a), .val (.ref c), .val (.int (0 : Int32)), .val (.int z), .val .null, .val (.ref b5)] [(.int (0 : Int32)), (.ref a)]
  refine Go.putFN (pc' := 51) (v' := (.int (0 : Int32))) d_jdk_42_method_149_48 rfl (List.mem_of_getElem? (i := 0) rfl) (w_26 hw) Via.refl F_a_coder E_a (Or.inr ⟨(w_27 hw), rfl, rfl⟩) (w_1 hw) (ty := .byte) (by decide) rfl rfl ?_
  intro h12 W13
  replace F_a_coder := F_a_coder.same W13
  replace E_a := E_a.wr W13
  replace F_a_value := F_a_value.other W13 (Or.inr (slot_ne (Or.inr (w_29 hw)) (Or.inr (w_27 hw)) (by decide) (t := (.array .byte)) (t' := .byte) (by decide) (by decide)))
  replace V_c := V_c.other W13 ne_c_a
  replace V_b5 := V_b5.other W13 (Ne.symm o_a_b5)
  change Go _ _ _ _ _ _ _ _ _ _ _ _ _ _ [a] h12 1 1 51 #[.val (.ref a), .val (.ref c), .val (.int (0 : Int32)), .val (.int z), .val .null, .val (.ref b5)] []
  refine Go.aload_n (pc' := 52) d_jdk_42_method_149_51 rfl rfl rfl ?_
  refine Go.aload (pc' := 54) d_jdk_42_method_149_52 rfl rfl rfl ?_
  refine Go.putF (pc' := 57) d_jdk_42_method_149_54 rfl (List.mem_of_getElem? (i := 0) rfl) (host := "") (Or.inl (w_28 hw)) Via.refl F_a_value E_a (Or.inr ⟨(w_29 hw), rfl, rfl⟩) (w_1 hw) (ty := (.array .byte)) (by decide) rfl rfl ?_
  intro h14 W15
  replace F_a_value := F_a_value.same W15
  replace E_a := E_a.wr W15
  replace V_c := V_c.other W15 ne_c_a
  replace V_b5 := V_b5.other W15 (Ne.symm o_a_b5)
  replace F_a_coder := F_a_coder.other W15 (Or.inr (slot_ne (Or.inr (w_27 hw)) (Or.inr (w_29 hw)) (by decide) (t := .byte) (t' := (.array .byte)) (by decide) (by decide)))
  change Go _ _ _ _ _ _ _ _ _ _ _ _ _ _ [a] h14 1 1 57 #[.val (.ref a), .val (.ref c), .val (.int (0 : Int32)), .val (.int z), .val .null, .val (.ref b5)] []
  exact Go.retV d_jdk_42_method_149_57 rfl (by decide) (by decide) [] sn0 ⟨b5, q6, rfl, rfl, E_a, F_a_coder, F_a_value, V_b5, ge_b5⟩
abbrev R_m_str : Room := { frames := 3, cells := 1, slots := 1, locals := 52 }
theorem pn_m_str : plainFor (⟨"java/lang/String", "<init>", "([C)V"⟩ : MethodName) = true := by first | (refine plainFor_of_name ?_; simp [plainName, overriddenIn]; done) | decide +kernel
abbrev Q_m_str (Z : State) (a : Addr) (c : Addr) (kc : ClassId) (cs : List Int32) (z : Int32) (h0 : Heap) : Option Value → Heap → List Addr → Prop := fun res h' SN => ∃ (t : Addr) (kt : ClassId), res = none ∧ SN = [] ∧ Exa Z h' a "java/lang/String" ∧ Fld Z h' a "java/lang/String" "coder" "B" (.int (0 : Int32)) ∧ Fld Z h' a "java/lang/String" "value" "[B" (.ref t) ∧ Arv Z h' t kt .byte z (cs.map lowV) (.int (0 : Int32)) ∧ h0.size ≤ t
theorem ef_m_str (mid : MethodId) (a : Addr) (c : Addr) (kc : ClassId) (cs : List Int32) (z : Int32) : entryFrame mid #[(.ref a), (.ref c)] 2 = mkF mid 0 #[.val (.ref a), .val (.ref c)] [] := by first | (simp [entryFrame, mkF, argsToLocals, Value.category]; done) | rfl
set_option maxRecDepth 65536 in
set_option maxHeartbeats 40000000 in
theorem m_str {l : Launch} {Z : State} {a0 : Array Value} {n0 : Nat} (hw : ∀ d ∈ tables_1, d.before a0 Z = true) (hs : Stat Z) (a : Addr) (c : Addr) (kc : ClassId) (cs : List Int32) (z : Int32) (h0 : Heap) (E_a : Exa Z h0 a "java/lang/String") (F_a_coder : Fld Z h0 a "java/lang/String" "coder" "B" (.int (0 : Int32))) (F_a_value : Fld Z h0 a "java/lang/String" "value" "[B" .null) (V_c : Arv Z h0 c kc .char z (cs.map Value.int) (.int (0 : Int32))) (hz : z.toNatClampNeg = cs.length) (hcs : ∀ x ∈ cs, ¬ x < 0 ∧ ¬ 255 < x) (hcs0 : cs ≠ []) (hcap : z.toNatClampNeg ≤ CAP) (ne_c_a : c ≠ a) :
    Met l Z EL0 n0 NR0 KN0 N_5 jdk_42_method_3_code 2 (Option.none : Option Jvm.ClassFile.FieldType) R_m_str [a] #[(.ref a), (.ref c)] h0 (Q_m_str Z a c kc cs z h0) := by
  refine Met.of_go pn_m_str (fun mid => ef_m_str mid a c kc cs z ) ?_
  intro hO hWS
  refine Go.aload_n (pc' := 1) d_jdk_42_method_3_0 rfl rfl rfl ?_
  refine Go.aload_n (pc' := 2) d_jdk_42_method_3_1 rfl rfl rfl ?_
  refine Go.iconst (pc' := 3) d_jdk_42_method_3_2 rfl ic_0 ?_
  refine Go.aload_n (pc' := 4) d_jdk_42_method_3_3 rfl rfl rfl ?_
  refine Go.lenV (pc' := 5) d_jdk_42_method_3_4 rfl V_c ?_
  refine Go.aconst_null (pc' := 6) d_jdk_42_method_3_5 rfl ?_
  refine Go.callI (pc' := 9) (z := N_4) (a := a) d_jdk_42_method_3_6 rfl rfl (w_7 hw) (w_8 hw) (w_10 hw) (by decide) (argsL := [(.ref c), (.int (0 : Int32)), (.int z), .null]) (rest := []) (Pays.of_met (W := 0) (len := 3) (m_str4 hw hs a c kc cs z h0 E_a F_a_coder F_a_value V_c (hz) (hcs) (hcs0) (hcap) ne_c_a) (w_10 hw) (w_2 hw) (by decide) (by decide)) rfl rfl (lenOf pd_3 rfl) rfl (Nat.le_of_eq rfl) (memS (List.mem_of_getElem? (i := 0) rfl) mem0) (by decide) (by decide) ?_
  rintro _ h18 _ K19 le20 ⟨b16, q17, rfl, rfl, p21, p22, p23, p24, p25⟩
  have o_a_b16 : a ≠ b16 := Nat.ne_of_lt (Nat.lt_of_lt_of_le E_a.lt p25)
  have o_c_b16 : c ≠ b16 := Nat.ne_of_lt (Nat.lt_of_lt_of_le V_c.lt p25)
  have ge_b16 := Nat.le_trans le20 p25
  replace E_a := E_a.keep K19
  replace V_c := V_c.keep K19 (ninS ne_c_a nin0)
  have F_a_coder := p22
  have F_a_value := p23
  have V_b16 := p24
  change Go _ _ _ _ _ _ _ _ _ _ _ _ _ _ [a] h18 1 1 9 #[.val (.ref a), .val (.ref c)] []
  exact Go.retV d_jdk_42_method_3_9 rfl (by decide) (by decide) [] sn0 ⟨b16, q17, rfl, rfl, E_a, F_a_coder, F_a_value, V_b16, ge_b16⟩
abbrev R_m_absc : Room := { frames := 1, cells := 0, slots := 0, locals := 12 }
theorem pn_m_absc : plainFor (⟨"java/util/AbstractCollection", "<init>", "()V"⟩ : MethodName) = true := by first | (refine plainFor_of_name ?_; simp [plainName, overriddenIn]; done) | decide +kernel
abbrev Q_m_absc (Z : State) (a : Addr) (h0 : Heap) : Option Value → Heap → List Addr → Prop := fun res h' SN => res = none ∧ SN = [] ∧ h0 = h'
theorem ef_m_absc (mid : MethodId) (a : Addr) : entryFrame mid #[(.ref a)] 1 = mkF mid 0 #[.val (.ref a)] [] := by first | (simp [entryFrame, mkF, argsToLocals, Value.category]; done) | rfl
set_option maxRecDepth 65536 in
set_option maxHeartbeats 40000000 in
theorem m_absc {l : Launch} {Z : State} {a0 : Array Value} {n0 : Nat} (hw : ∀ d ∈ tables_1, d.before a0 Z = true) (hs : Stat Z) (a : Addr) (h0 : Heap) :
    Met l Z EL0 n0 NR0 KN0 N_6 jdk_22_method_1_code 1 (Option.none : Option Jvm.ClassFile.FieldType) R_m_absc [] #[(.ref a)] h0 (Q_m_absc Z a h0) := by
  refine Met.of_go pn_m_absc (fun mid => ef_m_absc mid a ) ?_
  intro hO hWS
  refine Go.aload_n (pc' := 1) d_jdk_22_method_1_0 rfl rfl rfl ?_
  refine Go.initO (pc' := 4) (W := 0) d_jdk_22_method_1_1 rfl (w_51 hw) (w_12 hw) (w_13 hw) rfl (by decide) (Nat.le_of_eq rfl) (by decide) ?_
  exact Go.retV d_jdk_22_method_1_4 rfl (by decide) (by decide) [] sn0 ⟨rfl, rfl, rfl⟩
abbrev R_m_absl : Room := { frames := 2, cells := 0, slots := 0, locals := 24 }
theorem pn_m_absl : plainFor (⟨"java/util/AbstractList", "<init>", "()V"⟩ : MethodName) = true := by first | (refine plainFor_of_name ?_; simp [plainName, overriddenIn]; done) | decide +kernel
abbrev Q_m_absl (Z : State) (a : Addr) (h0 : Heap) : Option Value → Heap → List Addr → Prop := fun res h' SN => res = none ∧ SN = [] ∧ Exa Z h' a "java/util/ArrayList" ∧ Fld Z h' a "java/util/AbstractList" "modCount" "I" (.int (0 : Int32)) ∧ Fld Z h' a "java/util/ArrayList" "elementData" "[Ljava/lang/Object;" .null ∧ Fld Z h' a "java/util/ArrayList" "size" "I" (.int (0 : Int32))
theorem ef_m_absl (mid : MethodId) (a : Addr) : entryFrame mid #[(.ref a)] 1 = mkF mid 0 #[.val (.ref a)] [] := by first | (simp [entryFrame, mkF, argsToLocals, Value.category]; done) | rfl
set_option maxRecDepth 65536 in
set_option maxHeartbeats 40000000 in
theorem m_absl {l : Launch} {Z : State} {a0 : Array Value} {n0 : Nat} (hw : ∀ d ∈ tables_1, d.before a0 Z = true) (hs : Stat Z) (a : Addr) (h0 : Heap) (E_a : Exa Z h0 a "java/util/ArrayList") (F_a_modCount : Fld Z h0 a "java/util/AbstractList" "modCount" "I" (.int (0 : Int32))) (F_a_elementData : Fld Z h0 a "java/util/ArrayList" "elementData" "[Ljava/lang/Object;" .null) (F_a_size : Fld Z h0 a "java/util/ArrayList" "size" "I" (.int (0 : Int32))) :
    Met l Z EL0 n0 NR0 KN0 N_7 jdk_39_method_1_code 1 (Option.none : Option Jvm.ClassFile.FieldType) R_m_absl [a] #[(.ref a)] h0 (Q_m_absl Z a h0) := by
  refine Met.of_go pn_m_absl (fun mid => ef_m_absl mid a ) ?_
  intro hO hWS
  refine Go.aload_n (pc' := 1) d_jdk_39_method_1_0 rfl rfl rfl ?_
  refine Go.callI (pc' := 4) (z := N_6) (a := a) d_jdk_39_method_1_1 rfl rfl (w_45 hw) (w_46 hw) (w_50 hw) (by decide) (argsL := []) (rest := []) (Pays.of_met (W := 0) (len := 3) (m_absc hw hs a h0) (w_50 hw) (w_49 hw) (by decide) (by decide)) rfl rfl (lenOf pd_4 rfl) rfl (Nat.le_of_eq rfl) mem0 (by decide) (by decide) ?_
  rintro _ _ _ - - ⟨rfl, rfl, rfl⟩
  change Go _ _ _ _ _ _ _ _ _ _ _ _ _ _ [a] h0 0 0 4 #[.val (.ref a)] []
  refine Go.aload_n (pc' := 5) d_jdk_39_method_1_4 rfl rfl rfl ?_
  refine Go.iconst (pc' := 6) d_jdk_39_method_1_5 rfl ic_0 ?_
  refine Go.putF (pc' := 9) d_jdk_39_method_1_6 rfl (List.mem_of_getElem? (i := 0) rfl) (host := "") (Or.inl (w_52 hw)) Via.refl F_a_modCount E_a (Or.inl (w_53 hw)) (w_34 hw) (ty := .int) (by decide) rfl rfl ?_
  intro h26 W27
  replace F_a_modCount := F_a_modCount.same W27
  replace E_a := E_a.wr W27
  replace F_a_elementData := F_a_elementData.other W27 (Or.inr (slot_ne (Or.inl (w_56 hw)) (Or.inl (w_53 hw)) (by decide) (t := (.array (.object "java/lang/Object"))) (t' := .int) (by decide) (by decide)))
  replace F_a_size := F_a_size.other W27 (Or.inr (slot_ne (Or.inl (w_90 hw)) (Or.inl (w_53 hw)) (by decide) (t := .int) (t' := .int) (by decide) (by decide)))
  change Go _ _ _ _ _ _ _ _ _ _ _ _ _ _ [a] h26 0 0 9 #[.val (.ref a)] []
  exact Go.retV d_jdk_39_method_1_9 rfl (by decide) (by decide) [] sn0 ⟨rfl, rfl, E_a, F_a_modCount, F_a_elementData, F_a_size⟩
abbrev R_m_al : Room := { frames := 3, cells := 0, slots := 0, locals := 36 }
theorem pn_m_al : plainFor (⟨"java/util/ArrayList", "<init>", "()V"⟩ : MethodName) = true := by first | (refine plainFor_of_name ?_; simp [plainName, overriddenIn]; done) | decide +kernel
abbrev Q_m_al (Z : State) (a : Addr) (h0 : Heap) : Option Value → Heap → List Addr → Prop := fun res h' SN => res = none ∧ SN = [] ∧ Exa Z h' a "java/util/ArrayList" ∧ Fld Z h' a "java/util/AbstractList" "modCount" "I" (.int (0 : Int32)) ∧ Fld Z h' a "java/util/ArrayList" "elementData" "[Ljava/lang/Object;" (.ref (stRef Z "java/util/ArrayList" "DEFAULTCAPACITY_EMPTY_ELEMENTDATA" "[Ljava/lang/Object;")) ∧ Fld Z h' a "java/util/ArrayList" "size" "I" (.int (0 : Int32))
theorem ef_m_al (mid : MethodId) (a : Addr) : entryFrame mid #[(.ref a)] 1 = mkF mid 0 #[.val (.ref a)] [] := by first | (simp [entryFrame, mkF, argsToLocals, Value.category]; done) | rfl
set_option maxRecDepth 65536 in
set_option maxHeartbeats 40000000 in
theorem m_al {l : Launch} {Z : State} {a0 : Array Value} {n0 : Nat} (hw : ∀ d ∈ tables_1, d.before a0 Z = true) (hs : Stat Z) (a : Addr) (h0 : Heap) (E_a : Exa Z h0 a "java/util/ArrayList") (F_a_modCount : Fld Z h0 a "java/util/AbstractList" "modCount" "I" (.int (0 : Int32))) (F_a_elementData : Fld Z h0 a "java/util/ArrayList" "elementData" "[Ljava/lang/Object;" .null) (F_a_size : Fld Z h0 a "java/util/ArrayList" "size" "I" (.int (0 : Int32))) :
    Met l Z EL0 n0 NR0 KN0 N_8 jdk_38_method_2_code 1 (Option.none : Option Jvm.ClassFile.FieldType) R_m_al [a] #[(.ref a)] h0 (Q_m_al Z a h0) := by
  refine Met.of_go pn_m_al (fun mid => ef_m_al mid a ) ?_
  intro hO hWS
  obtain ⟨S_ed, -⟩ := hs_a hs
  refine Go.aload_n (pc' := 1) d_jdk_38_method_2_0 rfl rfl rfl ?_
  refine Go.callI (pc' := 4) (z := N_7) (a := a) d_jdk_38_method_2_1 rfl rfl (w_39 hw) (w_40 hw) (w_44 hw) (by decide) (argsL := []) (rest := []) (Pays.of_met (W := 0) (len := 3) (m_absl hw hs a h0 E_a F_a_modCount F_a_elementData F_a_size) (w_44 hw) (w_43 hw) (by decide) (by decide)) rfl rfl (lenOf pd_4 rfl) rfl (Nat.le_of_eq rfl) (memS (List.mem_of_getElem? (i := 0) rfl) mem0) (by decide) (by decide) ?_
  rintro _ h28 _ K29 le30 ⟨rfl, rfl, p31, p32, p33, p34⟩
  replace E_a := E_a.keep K29
  have F_a_modCount := p32
  have F_a_elementData := p33
  have F_a_size := p34
  change Go _ _ _ _ _ _ _ _ _ _ _ _ _ _ [a] h28 0 0 4 #[.val (.ref a)] []
  refine Go.aload_n (pc' := 5) d_jdk_38_method_2_4 rfl rfl rfl ?_
  refine Go.getS (pc' := 8) d_jdk_38_method_2_5 rfl (host := "") (Or.inl (w_54 hw)) Via.refl S_ed ?_
  refine Go.putF (pc' := 11) d_jdk_38_method_2_8 rfl (List.mem_of_getElem? (i := 0) rfl) (host := "") (Or.inl (w_55 hw)) Via.refl F_a_elementData E_a (Or.inl (w_56 hw)) (w_34 hw) (ty := (.array (.object "java/lang/Object"))) (by decide) rfl rfl ?_
  intro h35 W36
  replace F_a_elementData := F_a_elementData.same W36
  replace E_a := E_a.wr W36
  replace F_a_modCount := F_a_modCount.other W36 (Or.inr (slot_ne (Or.inl (w_53 hw)) (Or.inl (w_56 hw)) (by decide) (t := .int) (t' := (.array (.object "java/lang/Object"))) (by decide) (by decide)))
  replace F_a_size := F_a_size.other W36 (Or.inr (slot_ne (Or.inl (w_90 hw)) (Or.inl (w_56 hw)) (by decide) (t := .int) (t' := (.array (.object "java/lang/Object"))) (by decide) (by decide)))
  change Go _ _ _ _ _ _ _ _ _ _ _ _ _ _ [a] h35 0 0 11 #[.val (.ref a)] []
  exact Go.retV d_jdk_38_method_2_11 rfl (by decide) (by decide) [] sn0 ⟨rfl, rfl, E_a, F_a_modCount, F_a_elementData, F_a_size⟩
abbrev R_m_max : Room := { frames := 0, cells := 0, slots := 0, locals := 0 }
theorem pn_m_max : plainFor (⟨"java/lang/Math", "max", "(II)I"⟩ : MethodName) = true := by first | (refine plainFor_of_name ?_; simp [plainName, overriddenIn]; done) | decide +kernel
abbrev Q_m_max (Z : State) (x : Int32) (z : Int32) (h0 : Heap) : Option Value → Heap → List Addr → Prop := fun res h' SN => res = some (.int (if x < z then z else x)) ∧ SN = [] ∧ h0 = h'
theorem ef_m_max (mid : MethodId) (x : Int32) (z : Int32) : entryFrame mid #[(.int x), (.int z)] 2 = mkF mid 0 #[.val (.int x), .val (.int z)] [] := by first | (simp [entryFrame, mkF, argsToLocals, Value.category]; done) | rfl
set_option maxRecDepth 65536 in
set_option maxHeartbeats 40000000 in
theorem m_max {l : Launch} {Z : State} {a0 : Array Value} {n0 : Nat} (hw : ∀ d ∈ tables_1, d.before a0 Z = true) (hs : Stat Z) (x : Int32) (z : Int32) (h0 : Heap) :
    Met l Z EL0 n0 NR0 KN0 N_9 jdk_29_method_65_code 2 (Option.some Jvm.ClassFile.FieldType.int) R_m_max [] #[(.int x), (.int z)] h0 (Q_m_max Z x z h0) := by
  refine Met.of_go pn_m_max (fun mid => ef_m_max mid x z ) ?_
  intro hO hWS
  refine Go.iload_n (pc' := 1) d_jdk_29_method_65_0 rfl rfl ?_
  refine Go.iload_n (pc' := 2) d_jdk_29_method_65_1 rfl rfl ?_
  by_cases h1 : x < z
  · skip
    refine Go.icmpY (pc' := 9) d_jdk_29_method_65_2 (by decide) (by decide) (tlt (h1 : x < z)).1 ?_
    refine Go.iload_n (pc' := 10) d_jdk_29_method_65_9 rfl rfl ?_
    exact Go.retI d_jdk_29_method_65_10 rfl (by decide) (by decide) [] sn0 ⟨by rw [if_pos h1], rfl, rfl⟩
  · skip
    refine Go.icmpN (pc' := 5) d_jdk_29_method_65_2 rfl (flt (h1 : ¬ (x < z))).1 ?_
    refine Go.iload_n (pc' := 6) d_jdk_29_method_65_5 rfl rfl ?_
    refine Go.goto (pc' := 10) d_jdk_29_method_65_6 (by decide) (by decide) ?_
    exact Go.retI d_jdk_29_method_65_10 rfl (by decide) (by decide) [] sn0 ⟨by rw [if_neg h1], rfl, rfl⟩
abbrev R_m_min : Room := { frames := 0, cells := 0, slots := 0, locals := 0 }
theorem pn_m_min : plainFor (⟨"java/lang/Math", "min", "(II)I"⟩ : MethodName) = true := by first | (refine plainFor_of_name ?_; simp [plainName, overriddenIn]; done) | decide +kernel
abbrev Q_m_min (Z : State) (x : Int32) (z : Int32) (h0 : Heap) : Option Value → Heap → List Addr → Prop := fun res h' SN => res = some (.int (if z < x then z else x)) ∧ SN = [] ∧ h0 = h'
theorem ef_m_min (mid : MethodId) (x : Int32) (z : Int32) : entryFrame mid #[(.int x), (.int z)] 2 = mkF mid 0 #[.val (.int x), .val (.int z)] [] := by first | (simp [entryFrame, mkF, argsToLocals, Value.category]; done) | rfl
set_option maxRecDepth 65536 in
set_option maxHeartbeats 40000000 in
theorem m_min {l : Launch} {Z : State} {a0 : Array Value} {n0 : Nat} (hw : ∀ d ∈ tables_1, d.before a0 Z = true) (hs : Stat Z) (x : Int32) (z : Int32) (h0 : Heap) :
    Met l Z EL0 n0 NR0 KN0 N_10 jdk_29_method_69_code 2 (Option.some Jvm.ClassFile.FieldType.int) R_m_min [] #[(.int x), (.int z)] h0 (Q_m_min Z x z h0) := by
  refine Met.of_go pn_m_min (fun mid => ef_m_min mid x z ) ?_
  intro hO hWS
  refine Go.iload_n (pc' := 1) d_jdk_29_method_69_0 rfl rfl ?_
  refine Go.iload_n (pc' := 2) d_jdk_29_method_69_1 rfl rfl ?_
  by_cases h1 : z < x
  · skip
    refine Go.icmpY (pc' := 9) d_jdk_29_method_69_2 (by decide) (by decide) (tlt (h1 : z < x)).2.2.1 ?_
    refine Go.iload_n (pc' := 10) d_jdk_29_method_69_9 rfl rfl ?_
    exact Go.retI d_jdk_29_method_69_10 rfl (by decide) (by decide) [] sn0 ⟨by rw [if_pos h1], rfl, rfl⟩
  · skip
    refine Go.icmpN (pc' := 5) d_jdk_29_method_69_2 rfl (flt (h1 : ¬ (z < x))).2.2.1 ?_
    refine Go.iload_n (pc' := 6) d_jdk_29_method_69_5 rfl rfl ?_
    refine Go.goto (pc' := 10) d_jdk_29_method_69_6 (by decide) (by decide) ?_
    exact Go.retI d_jdk_29_method_69_10 rfl (by decide) (by decide) [] sn0 ⟨by rw [if_neg h1], rfl, rfl⟩
abbrev R_m_grow1 : Room := { frames := 1, cells := 1, slots := 10, locals := 14 }
theorem pn_m_grow1 : plainFor (⟨"java/util/ArrayList", "grow", "(I)[Ljava/lang/Object;"⟩ : MethodName) = true := by first | (refine plainFor_of_name ?_; simp [plainName, overriddenIn]; done) | decide +kernel
abbrev Q_m_grow1 (Z : State) (a : Addr) (m : Int32) (h0 : Heap) : Option Value → Heap → List Addr → Prop := fun res h' SN => ∃ (nb : Addr) (kb : ClassId), res = some (.ref nb) ∧ SN = [nb] ∧ Exa Z h' a "java/util/ArrayList" ∧ Fld Z h' a "java/util/AbstractList" "modCount" "I" (.int m) ∧ Fld Z h' a "java/util/ArrayList" "elementData" "[Ljava/lang/Object;" (.ref nb) ∧ Fld Z h' a "java/util/ArrayList" "size" "I" (.int (0 : Int32)) ∧ h0.size ≤ nb ∧ Exa Z h' nb "[Ljava/lang/Object;" ∧ Arv Z h' nb kb (.object "java/lang/Object") (10 : Int32) [.null, .null, .null, .null, .null, .null, .null, .null, .null, .null] .null ∧ Ovr Z kb "java/lang/Object"
theorem ef_m_grow1 (mid : MethodId) (a : Addr) (m : Int32) : entryFrame mid #[(.ref a), (.int ((0 : Int32) + (1 : Int32)))] 4 = mkF mid 0 #[.val (.ref a), .val (.int ((0 : Int32) + (1 : Int32))), .unset, .unset] [] := by first | (simp [entryFrame, mkF, argsToLocals, Value.category]; done) | rfl
set_option maxRecDepth 65536 in
set_option maxHeartbeats 40000000 in
theorem m_grow1 {l : Launch} {Z : State} {a0 : Array Value} {n0 : Nat} (hw : ∀ d ∈ tables_1, d.before a0 Z = true) (hs : Stat Z) (a : Addr) (m : Int32) (h0 : Heap) (E_a : Exa Z h0 a "java/util/ArrayList") (F_a_modCount : Fld Z h0 a "java/util/AbstractList" "modCount" "I" (.int m)) (F_a_elementData : Fld Z h0 a "java/util/ArrayList" "elementData" "[Ljava/lang/Object;" (.ref (stRef Z "java/util/ArrayList" "DEFAULTCAPACITY_EMPTY_ELEMENTDATA" "[Ljava/lang/Object;"))) (F_a_size : Fld Z h0 a "java/util/ArrayList" "size" "I" (.int (0 : Int32))) :
    Met l Z EL0 n0 NR0 KN0 N_11 jdk_38_method_6_code 4 (Option.some (Jvm.ClassFile.FieldType.array (Jvm.ClassFile.FieldType.object "java/lang/Object"))) R_m_grow1 [a] #[(.ref a), (.int ((0 : Int32) + (1 : Int32)))] h0 (Q_m_grow1 Z a m h0) := by
  refine Met.of_go pn_m_grow1 (fun mid => ef_m_grow1 mid a m ) ?_
  intro hO hWS
  obtain ⟨S_ed, -, kd, V_ed⟩ := hs_a hs
  replace V_ed := V_ed.ext hO.2
  refine Go.aload_n (pc' := 1) d_jdk_38_method_6_0 rfl rfl rfl ?_
  refine Go.getF (pc' := 4) d_jdk_38_method_6_1 rfl (host := "") (Or.inl (w_55 hw)) Via.refl F_a_elementData ?_
  refine Go.lenV (pc' := 5) d_jdk_38_method_6_4 rfl V_ed ?_
  refine Go.istore_n (pc' := 6) (Ls' := #[.val (.ref a), .val (.int ((0 : Int32) + (1 : Int32))), .val (.int (0 : Int32)), .unset]) d_jdk_38_method_6_5 rfl rfl ?_
  refine Go.iload_n (pc' := 7) d_jdk_38_method_6_6 rfl rfl ?_
  refine Go.ifN (pc' := 10) d_jdk_38_method_6_7 rfl ((if0 _ _).trans (flt (by decide : ¬ ((0 : Int32) < (0 : Int32)))).2.2.1) ?_
  refine Go.aload_n (pc' := 11) d_jdk_38_method_6_10 rfl rfl rfl ?_
  refine Go.getF (pc' := 14) d_jdk_38_method_6_11 rfl (host := "") (Or.inl (w_55 hw)) Via.refl F_a_elementData ?_
  refine Go.getS (pc' := 17) d_jdk_38_method_6_14 rfl (host := "") (Or.inl (w_54 hw)) Via.refl S_ed ?_
  refine Go.acmp (pc' := 45) (same := true) d_jdk_38_method_6_17 rfl rfl (decide_eq_true rfl) (by decide) (by decide) ?_
  refine Go.aload_n (pc' := 46) d_jdk_38_method_6_45 rfl rfl rfl ?_
  refine Go.bipush (pc' := 48) d_jdk_38_method_6_46 rfl icb_10 ?_
  refine Go.iload_n (pc' := 49) d_jdk_38_method_6_48 rfl rfl ?_
  refine Go.callS (pc' := 52) (z := N_9) d_jdk_38_method_6_49 rfl (w_181 hw) (w_182 hw) (w_183 hw) (w_184 hw) (by decide) (argsL := [(.int (10 : Int32)), (.int ((0 : Int32) + (1 : Int32)))]) (rest := [(.ref a)]) (Pays.of_met (W := 1) (len := 3) (m_max hw hs (10 : Int32) ((0 : Int32) + (1 : Int32)) h0) (w_184 hw) (w_183 hw) (by decide) (by decide)) rfl rfl (lenOf pd_5 rfl) rfl (Nat.le_of_eq rfl) mem0 (by decide) (by decide) ?_
  rintro _ _ _ - - ⟨rfl, rfl, rfl⟩
  change Go _ _ _ _ _ _ _ _ _ _ _ _ _ _ [a] h0 0 0 52 #[.val (.ref a), .val (.int ((0 : Int32) + (1 : Int32))), .val (.int (0 : Int32)), .unset] [(.int (if (10 : Int32) < ((0 : Int32) + (1 : Int32)) then ((0 : Int32) + (1 : Int32)) else (10 : Int32))), (.ref a)]
  rw [show (if (10 : Int32) < ((0 : Int32) + (1 : Int32)) then ((0 : Int32) + (1 : Int32)) else (10 : Int32)) = (10 : Int32) from by decide]
  refine Go.newR (pc' := 55) (cap := 10) (ad := "[Ljava/lang/Object;") d_jdk_38_method_6_52 rfl (w_185 hw) (w_186 hw) (by decide) (by decide) (by decide) (by decide) (by decide) (by decide) ?_
  intro h37 b38 g39 ge_b38 q41 x40 V_b38 E_b38 O_b38
  have o_a_b38 : a ≠ b38 := Nat.ne_of_lt (Nat.lt_of_lt_of_le E_a.lt (Nat.le_of_eq g39))
  replace E_a := E_a.ext x40
  replace F_a_modCount := F_a_modCount.ext x40
  replace F_a_elementData := F_a_elementData.ext x40
  replace F_a_size := F_a_size.ext x40
  replace V_b38 : Arv Z h37 b38 q41 (.object "java/lang/Object") (10 : Int32) [.null, .null, .null, .null, .null, .null, .null, .null, .null, .null] .null := V_b38.pad (pad_rep [] _ 10)
  change Go _ _ _ _ _ _ _ _ _ _ _ _ _ _ [b38, a] h37 1 10 55 #[.val (.ref a), .val (.int ((0 : Int32) + (1 : Int32))), .val (.int (0 : Int32)), .unset] [(.ref b38), (.ref a)]
  refine Go.dup_x1 (pc' := 56) d_jdk_38_method_6_55 rfl rfl rfl ?_
  refine Go.putF (pc' := 59) d_jdk_38_method_6_56 rfl (List.mem_of_getElem? (i := 1) rfl) (host := "") (Or.inl (w_55 hw)) Via.refl F_a_elementData E_a (Or.inl (w_56 hw)) (w_34 hw) (ty := (.array (.object "java/lang/Object"))) (by decide) rfl rfl ?_
  intro h42 W43
  replace F_a_elementData := F_a_elementData.same W43
  replace E_a := E_a.wr W43
  replace F_a_modCount := F_a_modCount.other W43 (Or.inr (slot_ne (Or.inl (w_53 hw)) (Or.inl (w_56 hw)) (by decide) (t := .int) (t' := (.array (.object "java/lang/Object"))) (by decide) (by decide)))
  replace F_a_size := F_a_size.other W43 (Or.inr (slot_ne (Or.inl (w_90 hw)) (Or.inl (w_56 hw)) (by decide) (t := .int) (t' := (.array (.object "java/lang/Object"))) (by decide) (by decide)))
  replace V_b38 := V_b38.other W43 (Ne.symm o_a_b38)
  replace E_b38 := E_b38.wr W43
  change Go _ _ _ _ _ _ _ _ _ _ _ _ _ _ [b38, a] h42 1 10 59 #[.val (.ref a), .val (.int ((0 : Int32) + (1 : Int32))), .val (.int (0 : Int32)), .unset] [(.ref b38)]
  exact Go.retA d_jdk_38_method_6_59 rfl rfl rfl (by decide) (by decide) [b38] (snS ⟨(List.mem_of_getElem? (i := 0) rfl), ge_b38⟩ sn0) ⟨b38, q41, rfl, rfl, E_a, F_a_modCount, F_a_elementData, F_a_size, ge_b38, E_b38, V_b38, O_b38⟩
abbrev R_m_grow : Room := { frames := 2, cells := 1, slots := 10, locals := 29 }
theorem pn_m_grow : plainFor (⟨"java/util/ArrayList", "grow", "()[Ljava/lang/Object;"⟩ : MethodName) = true := by first | (refine plainFor_of_name ?_; simp [plainName, overriddenIn]; done) | decide +kernel
abbrev Q_m_grow (Z : State) (a : Addr) (m : Int32) (h0 : Heap) : Option Value → Heap → List Addr → Prop := fun res h' SN => ∃ (nb : Addr) (kb : ClassId), res = some (.ref nb) ∧ SN = [nb] ∧ Exa Z h' a "java/util/ArrayList" ∧ Fld Z h' a "java/util/AbstractList" "modCount" "I" (.int m) ∧ Fld Z h' a "java/util/ArrayList" "elementData" "[Ljava/lang/Object;" (.ref nb) ∧ Fld Z h' a "java/util/ArrayList" "size" "I" (.int (0 : Int32)) ∧ h0.size ≤ nb ∧ Exa Z h' nb "[Ljava/lang/Object;" ∧ Arv Z h' nb kb (.object "java/lang/Object") (10 : Int32) [.null, .null, .null, .null, .null, .null, .null, .null, .null, .null] .null ∧ Ovr Z kb "java/lang/Object"
theorem ef_m_grow (mid : MethodId) (a : Addr) (m : Int32) : entryFrame mid #[(.ref a)] 1 = mkF mid 0 #[.val (.ref a)] [] := by first | (simp [entryFrame, mkF, argsToLocals, Value.category]; done) | rfl
set_option maxRecDepth 65536 in
set_option maxHeartbeats 40000000 in
theorem m_grow {l : Launch} {Z : State} {a0 : Array Value} {n0 : Nat} (hw : ∀ d ∈ tables_1, d.before a0 Z = true) (hs : Stat Z) (a : Addr) (m : Int32) (h0 : Heap) (E_a : Exa Z h0 a "java/util/ArrayList") (F_a_modCount : Fld Z h0 a "java/util/AbstractList" "modCount" "I" (.int m)) (F_a_elementData : Fld Z h0 a "java/util/ArrayList" "elementData" "[Ljava/lang/Object;" (.ref (stRef Z "java/util/ArrayList" "DEFAULTCAPACITY_EMPTY_ELEMENTDATA" "[Ljava/lang/Object;"))) (F_a_size : Fld Z h0 a "java/util/ArrayList" "size" "I" (.int (0 : Int32))) :
    Met l Z EL0 n0 NR0 KN0 N_12 jdk_38_method_7_code 1 (Option.some (Jvm.ClassFile.FieldType.array (Jvm.ClassFile.FieldType.object "java/lang/Object"))) R_m_grow [a] #[(.ref a)] h0 (Q_m_grow Z a m h0) := by
  refine Met.of_go pn_m_grow (fun mid => ef_m_grow mid a m ) ?_
  intro hO hWS
  refine Go.aload_n (pc' := 1) d_jdk_38_method_7_0 rfl rfl rfl ?_
  refine Go.aload_n (pc' := 2) d_jdk_38_method_7_1 rfl rfl rfl ?_
  refine Go.getF (pc' := 5) d_jdk_38_method_7_2 rfl (host := "") (Or.inl (w_89 hw)) Via.refl F_a_size ?_
  refine Go.iconst (pc' := 6) d_jdk_38_method_7_5 rfl ic_1 ?_
  refine Go.iadd (pc' := 7) d_jdk_38_method_7_6 rfl ?_
  refine Go.callP (pc' := 10) (z := N_11) (a := a) d_jdk_38_method_7_7 rfl (w_176 hw) (w_177 hw) (w_179 hw) (w_178 hw) (w_180 hw) (by decide) E_a (argsL := [(.int ((0 : Int32) + (1 : Int32)))]) (rest := []) (Pays.of_met (W := 0) (len := 3) (m_grow1 hw hs a m h0 E_a F_a_modCount F_a_elementData F_a_size) (w_180 hw) (w_35 hw) (by decide) (by decide)) rfl rfl (lenOf pd_6 rfl) rfl (Nat.le_of_eq rfl) (memS (List.mem_of_getElem? (i := 0) rfl) mem0) (by decide) (by decide) ?_
  rintro _ h46 _ K47 le48 ⟨b44, q45, rfl, rfl, p49, p50, p51, p52, p53, p54, p55, p56⟩
  have o_a_b44 : a ≠ b44 := Nat.ne_of_lt (Nat.lt_of_lt_of_le E_a.lt p53)
  have ge_b44 := Nat.le_trans le48 p53
  replace E_a := E_a.keep K47
  have F_a_modCount := p50
  have F_a_elementData := p51
  have F_a_size := p52
  have E_b44 := p54
  have V_b44 := p55
  change Go _ _ _ _ _ _ _ _ _ _ _ _ _ _ [b44, a] h46 1 10 10 #[.val (.ref a)] [(.ref b44)]
  exact Go.retA d_jdk_38_method_7_10 rfl rfl rfl (by decide) (by decide) [b44] (snS ⟨(List.mem_of_getElem? (i := 0) rfl), ge_b44⟩ sn0) ⟨b44, q45, rfl, rfl, E_a, F_a_modCount, F_a_elementData, F_a_size, ge_b44, E_b44, V_b44, p56⟩
abbrev R_m_add3 : Room := { frames := 3, cells := 1, slots := 10, locals := 41 }
theorem pn_m_add3 : plainFor (⟨"java/util/ArrayList", "add", "(Ljava/lang/Object;[Ljava/lang/Object;I)V"⟩ : MethodName) = true := by first | (refine plainFor_of_name ?_; simp [plainName, overriddenIn]; done) | decide +kernel
abbrev Q_m_add3 (Z : State) (a : Addr) (y : Addr) (ed : Addr) (m : Int32) (h0 : Heap) : Option Value → Heap → List Addr → Prop := fun res h' SN => ∃ (nb : Addr) (kb : ClassId), res = none ∧ SN = [] ∧ Exa Z h' a "java/util/ArrayList" ∧ Fld Z h' a "java/util/ArrayList" "elementData" "[Ljava/lang/Object;" (.ref nb) ∧ Fld Z h' a "java/util/ArrayList" "size" "I" (.int (1 : Int32)) ∧ h0.size ≤ nb ∧ Exa Z h' nb "[Ljava/lang/Object;" ∧ Arv Z h' nb kb (.object "java/lang/Object") (10 : Int32) [(.ref y), .null, .null, .null, .null, .null, .null, .null, .null, .null] .null
theorem ef_m_add3 (mid : MethodId) (a : Addr) (y : Addr) (ed : Addr) (m : Int32) : entryFrame mid #[(.ref a), (.ref y), (.ref ed), (.int (0 : Int32))] 4 = mkF mid 0 #[.val (.ref a), .val (.ref y), .val (.ref ed), .val (.int (0 : Int32))] [] := by first | (simp [entryFrame, mkF, argsToLocals, Value.category]; done) | rfl
set_option maxRecDepth 65536 in
set_option maxHeartbeats 40000000 in
theorem m_add3 {l : Launch} {Z : State} {a0 : Array Value} {n0 : Nat} (hw : ∀ d ∈ tables_1, d.before a0 Z = true) (hs : Stat Z) (a : Addr) (y : Addr) (ed : Addr) (m : Int32) (h0 : Heap) (E_a : Exa Z h0 a "java/util/ArrayList") (F_a_modCount : Fld Z h0 a "java/util/AbstractList" "modCount" "I" (.int m)) (F_a_elementData : Fld Z h0 a "java/util/ArrayList" "elementData" "[Ljava/lang/Object;" (.ref (stRef Z "java/util/ArrayList" "DEFAULTCAPACITY_EMPTY_ELEMENTDATA" "[Ljava/lang/Object;"))) (F_a_size : Fld Z h0 a "java/util/ArrayList" "size" "I" (.int (0 : Int32))) (E_y : Exa Z h0 y "com/example/sumgen/sumgen/model/Field") (ne_y_a : y ≠ a) (hed : ed = (stRef Z "java/util/ArrayList" "DEFAULTCAPACITY_EMPTY_ELEMENTDATA" "[Ljava/lang/Object;")) :
    Met l Z EL0 n0 NR0 KN0 N_13 jdk_38_method_24_code 4 (Option.none : Option Jvm.ClassFile.FieldType) R_m_add3 [a] #[(.ref a), (.ref y), (.ref ed), (.int (0 : Int32))] h0 (Q_m_add3 Z a y ed m h0) := by
  refine Met.of_go pn_m_add3 (fun mid => ef_m_add3 mid a y ed m ) ?_
  intro hO hWS
  subst hed
  obtain ⟨-, -, kd, V_ed⟩ := hs_a hs
  replace V_ed := V_ed.ext hO.2
  refine Go.iload_n (pc' := 1) d_jdk_38_method_24_0 rfl rfl ?_
  refine Go.aload_n (pc' := 2) d_jdk_38_method_24_1 rfl rfl rfl ?_
  refine Go.lenV (pc' := 3) d_jdk_38_method_24_2 rfl V_ed ?_
  refine Go.icmpN (pc' := 6) d_jdk_38_method_24_3 rfl (teq (rfl : (0 : Int32) = (0 : Int32))).2 ?_
  refine Go.aload_n (pc' := 7) d_jdk_38_method_24_6 rfl rfl rfl ?_
  refine Go.callP (pc' := 10) (z := N_12) (a := a) d_jdk_38_method_24_7 rfl (w_171 hw) (w_172 hw) (w_174 hw) (w_173 hw) (w_175 hw) (by decide) E_a (argsL := []) (rest := []) (Pays.of_met (W := 0) (len := 3) (m_grow hw hs a m h0 E_a F_a_modCount F_a_elementData F_a_size) (w_175 hw) (w_35 hw) (by decide) (by decide)) rfl rfl (lenOf pd_7 rfl) rfl (Nat.le_of_eq rfl) (memS (List.mem_of_getElem? (i := 0) rfl) mem0) (by decide) (by decide) ?_
  rintro _ h59 _ K60 le61 ⟨b57, q58, rfl, rfl, p62, p63, p64, p65, p66, p67, p68, p69⟩
  have o_a_b57 : a ≠ b57 := Nat.ne_of_lt (Nat.lt_of_lt_of_le E_a.lt p66)
  have o_y_b57 : y ≠ b57 := Nat.ne_of_lt (Nat.lt_of_lt_of_le E_y.lt p66)
  have ge_b57 := Nat.le_trans le61 p66
  replace E_a := E_a.keep K60
  replace E_y := E_y.keep K60
  have F_a_modCount := p63
  have F_a_elementData := p64
  have F_a_size := p65
  have E_b57 := p67
  have V_b57 := p68
  change Go _ _ _ _ _ _ _ _ _ _ _ _ _ _ [b57, a] h59 1 10 10 #[.val (.ref a), .val (.ref y), .val (.ref (stRef Z "java/util/ArrayList" "DEFAULTCAPACITY_EMPTY_ELEMENTDATA" "[Ljava/lang/Object;")), .val (.int (0 : Int32))] [(.ref b57)]
  refine Go.astore_n (pc' := 11) (Ls' := #[.val (.ref a), .val (.ref y), .val (.ref b57), .val (.int (0 : Int32))]) d_jdk_38_method_24_10 rfl rfl rfl ?_
  refine Go.aload_n (pc' := 12) d_jdk_38_method_24_11 rfl rfl rfl ?_
  refine Go.iload_n (pc' := 13) d_jdk_38_method_24_12 rfl rfl ?_
  refine Go.aload_n (pc' := 14) d_jdk_38_method_24_13 rfl rfl rfl ?_
  refine Go.aastoreV (pc' := 15) (i := 0) d_jdk_38_method_24_14 rfl (List.mem_of_getElem? (i := 0) rfl) V_b57 rfl rfl (fun cl A q => Sto.ofV A q p69 (Ins.of_exa E_y (w_187 hw))) (by decide) (by decide) (by decide) ?_
  intro h70 W71 V_b57'
  replace E_a := E_a.wr W71
  replace E_y := E_y.wr W71
  replace F_a_modCount := F_a_modCount.other W71 (Or.inl o_a_b57)
  replace F_a_elementData := F_a_elementData.other W71 (Or.inl o_a_b57)
  replace F_a_size := F_a_size.other W71 (Or.inl o_a_b57)
  replace E_b57 := E_b57.wr W71
  replace V_b57 : Arv Z h70 b57 q58 (.object "java/lang/Object") (10 : Int32) [(.ref y), .null, .null, .null, .null, .null, .null, .null, .null, .null] .null := V_b57'
  change Go _ _ _ _ _ _ _ _ _ _ _ _ _ _ [b57, a] h70 1 10 15 #[.val (.ref a), .val (.ref y), .val (.ref b57), .val (.int (0 : Int32))] []
  refine Go.aload_n (pc' := 16) d_jdk_38_method_24_15 rfl rfl rfl ?_
  refine Go.iload_n (pc' := 17) d_jdk_38_method_24_16 rfl rfl ?_
  refine Go.iconst (pc' := 18) d_jdk_38_method_24_17 rfl ic_1 ?_
  refine Go.iadd (pc' := 19) d_jdk_38_method_24_18 rfl ?_
  rw [show ((0 : Int32) + (1 : Int32)) = (1 : Int32) from by decide]
  refine Go.putF (pc' := 22) d_jdk_38_method_24_19 rfl (List.mem_of_getElem? (i := 1) rfl) (host := "") (Or.inl (w_89 hw)) Via.refl F_a_size E_a (Or.inl (w_90 hw)) (w_34 hw) (ty := .int) (by decide) rfl rfl ?_
  intro h72 W73
  replace F_a_size := F_a_size.same W73
  replace E_a := E_a.wr W73
  replace E_y := E_y.wr W73
  replace F_a_modCount := F_a_modCount.other W73 (Or.inr (slot_ne (Or.inl (w_53 hw)) (Or.inl (w_90 hw)) (by decide) (t := .int) (t' := .int) (by decide) (by decide)))
  replace F_a_elementData := F_a_elementData.other W73 (Or.inr (slot_ne (Or.inl (w_56 hw)) (Or.inl (w_90 hw)) (by decide) (t := (.array (.object "java/lang/Object"))) (t' := .int) (by decide) (by decide)))
  replace E_b57 := E_b57.wr W73
  replace V_b57 := V_b57.other W73 (Ne.symm o_a_b57)
  change Go _ _ _ _ _ _ _ _ _ _ _ _ _ _ [b57, a] h72 1 10 22 #[.val (.ref a), .val (.ref y), .val (.ref b57), .val (.int (0 : Int32))] []
  exact Go.retV d_jdk_38_method_24_22 rfl (by decide) (by decide) [] sn0 ⟨b57, q58, rfl, rfl, E_a, F_a_elementData, F_a_size, ge_b57, E_b57, V_b57⟩
abbrev R_m_add : Room := { frames := 4, cells := 1, slots := 10, locals := 56 }
theorem pn_m_add : plainFor (⟨"java/util/ArrayList", "add", "(Ljava/lang/Object;)Z"⟩ : MethodName) = true := by first | (refine plainFor_of_name ?_; simp [plainName, overriddenIn]; done) | decide +kernel
abbrev Q_m_add (Z : State) (a : Addr) (y : Addr) (m : Int32) (h0 : Heap) : Option Value → Heap → List Addr → Prop := fun res h' SN => ∃ (nb : Addr) (kb : ClassId), res = some (.int (1 : Int32)) ∧ SN = [] ∧ Exa Z h' a "java/util/ArrayList" ∧ Fld Z h' a "java/util/ArrayList" "elementData" "[Ljava/lang/Object;" (.ref nb) ∧ Fld Z h' a "java/util/ArrayList" "size" "I" (.int (1 : Int32)) ∧ h0.size ≤ nb ∧ Exa Z h' nb "[Ljava/lang/Object;" ∧ Arv Z h' nb kb (.object "java/lang/Object") (10 : Int32) [(.ref y), .null, .null, .null, .null, .null, .null, .null, .null, .null] .null
theorem ef_m_add (mid : MethodId) (a : Addr) (y : Addr) (m : Int32) : entryFrame mid #[(.ref a), (.ref y)] 2 = mkF mid 0 #[.val (.ref a), .val (.ref y)] [] := by first | (simp [entryFrame, mkF, argsToLocals, Value.category]; done) | rfl
set_option maxRecDepth 65536 in
set_option maxHeartbeats 40000000 in
theorem m_add {l : Launch} {Z : State} {a0 : Array Value} {n0 : Nat} (hw : ∀ d ∈ tables_1, d.before a0 Z = true) (hs : Stat Z) (a : Addr) (y : Addr) (m : Int32) (h0 : Heap) (E_a : Exa Z h0 a "java/util/ArrayList") (F_a_modCount : Fld Z h0 a "java/util/AbstractList" "modCount" "I" (.int m)) (F_a_elementData : Fld Z h0 a "java/util/ArrayList" "elementData" "[Ljava/lang/Object;" (.ref (stRef Z "java/util/ArrayList" "DEFAULTCAPACITY_EMPTY_ELEMENTDATA" "[Ljava/lang/Object;"))) (F_a_size : Fld Z h0 a "java/util/ArrayList" "size" "I" (.int (0 : Int32))) (E_y : Exa Z h0 y "com/example/sumgen/sumgen/model/Field") (ne_y_a : y ≠ a) :
    Met l Z EL0 n0 NR0 KN0 N_14 jdk_38_method_25_code 2 (Option.some Jvm.ClassFile.FieldType.boolean) R_m_add [a] #[(.ref a), (.ref y)] h0 (Q_m_add Z a y m h0) := by
  refine Met.of_go pn_m_add (fun mid => ef_m_add mid a y m ) ?_
  intro hO hWS
  refine Go.aload_n (pc' := 1) d_jdk_38_method_25_0 rfl rfl rfl ?_
  refine Go.dup (pc' := 2) d_jdk_38_method_25_1 rfl rfl ?_
  refine Go.getF (pc' := 5) d_jdk_38_method_25_2 rfl (host := "") (Or.inl (w_164 hw)) (Via.of (w_165 hw)) F_a_modCount ?_
  refine Go.iconst (pc' := 6) d_jdk_38_method_25_5 rfl ic_1 ?_
  refine Go.iadd (pc' := 7) d_jdk_38_method_25_6 rfl ?_
  refine Go.putF (pc' := 10) d_jdk_38_method_25_7 rfl (List.mem_of_getElem? (i := 0) rfl) (host := "") (Or.inl (w_164 hw)) (Via.of (w_165 hw)) F_a_modCount E_a (Or.inl (w_53 hw)) (w_34 hw) (ty := .int) (by decide) rfl rfl ?_
  intro h74 W75
  replace F_a_modCount := F_a_modCount.same W75
  replace E_a := E_a.wr W75
  replace F_a_elementData := F_a_elementData.other W75 (Or.inr (slot_ne (Or.inl (w_56 hw)) (Or.inl (w_53 hw)) (by decide) (t := (.array (.object "java/lang/Object"))) (t' := .int) (by decide) (by decide)))
  replace F_a_size := F_a_size.other W75 (Or.inr (slot_ne (Or.inl (w_90 hw)) (Or.inl (w_53 hw)) (by decide) (t := .int) (t' := .int) (by decide) (by decide)))
  replace E_y := E_y.wr W75
  change Go _ _ _ _ _ _ _ _ _ _ _ _ _ _ [a] h74 0 0 10 #[.val (.ref a), .val (.ref y)] []
  refine Go.aload_n (pc' := 11) d_jdk_38_method_25_10 rfl rfl rfl ?_
  refine Go.aload_n (pc' := 12) d_jdk_38_method_25_11 rfl rfl rfl ?_
  refine Go.aload_n (pc' := 13) d_jdk_38_method_25_12 rfl rfl rfl ?_
  refine Go.getF (pc' := 16) d_jdk_38_method_25_13 rfl (host := "") (Or.inl (w_55 hw)) Via.refl F_a_elementData ?_
  refine Go.aload_n (pc' := 17) d_jdk_38_method_25_16 rfl rfl rfl ?_
  refine Go.getF (pc' := 20) d_jdk_38_method_25_17 rfl (host := "") (Or.inl (w_89 hw)) Via.refl F_a_size ?_
  refine Go.callP (pc' := 23) (z := N_13) (a := a) d_jdk_38_method_25_20 rfl (w_166 hw) (w_167 hw) (w_169 hw) (w_168 hw) (w_170 hw) (by decide) E_a (argsL := [(.ref y), (.ref (stRef Z "java/util/ArrayList" "DEFAULTCAPACITY_EMPTY_ELEMENTDATA" "[Ljava/lang/Object;")), (.int (0 : Int32))]) (rest := []) (Pays.of_met (W := 0) (len := 3) (m_add3 hw hs a y (stRef Z "java/util/ArrayList" "DEFAULTCAPACITY_EMPTY_ELEMENTDATA" "[Ljava/lang/Object;") (m + (1 : Int32)) h74 E_a F_a_modCount F_a_elementData F_a_size E_y ne_y_a (rfl)) (w_170 hw) (w_35 hw) (by decide) (by decide)) rfl rfl (lenOf pd_8 rfl) rfl (Nat.le_of_eq rfl) (memS (List.mem_of_getElem? (i := 0) rfl) mem0) (by decide) (by decide) ?_
  rintro _ h78 _ K79 le80 ⟨b76, q77, rfl, rfl, p81, p82, p83, p84, p85, p86⟩
  have o_a_b76 : a ≠ b76 := Nat.ne_of_lt (Nat.lt_of_lt_of_le E_a.lt p84)
  have o_y_b76 : y ≠ b76 := Nat.ne_of_lt (Nat.lt_of_lt_of_le E_y.lt p84)
  have ge_b76 := Nat.le_trans le80 p84
  replace E_a := E_a.keep K79
  replace E_y := E_y.keep K79
  have F_a_elementData := p82
  have F_a_size := p83
  have E_b76 := p85
  have V_b76 := p86
  change Go _ _ _ _ _ _ _ _ _ _ _ _ _ _ [a] h78 1 10 23 #[.val (.ref a), .val (.ref y)] []
  refine Go.iconst (pc' := 24) d_jdk_38_method_25_23 rfl ic_1 ?_
  exact Go.retS (ty := .boolean) d_jdk_38_method_25_24 rfl (by simp) rfl (by decide) (by decide) [] sn0 ⟨b76, q77, rfl, rfl, E_a, F_a_elementData, F_a_size, ge_b76, E_b76, V_b76⟩
abbrev R_m_rnn : Room := { frames := 0, cells := 0, slots := 0, locals := 0 }
theorem pn_m_rnn : plainFor (⟨"java/util/Objects", "requireNonNull", "(Ljava/lang/Object;)Ljava/lang/Object;"⟩ : MethodName) = true := by first | (refine plainFor_of_name ?_; simp [plainName, overriddenIn]; done) | decide +kernel
abbrev Q_m_rnn (Z : State) (y : Addr) (h0 : Heap) : Option Value → Heap → List Addr → Prop := fun res h' SN => res = some (.ref y) ∧ SN = [] ∧ h0 = h'
theorem ef_m_rnn (mid : MethodId) (y : Addr) : entryFrame mid #[(.ref y)] 1 = mkF mid 0 #[.val (.ref y)] [] := by first | (simp [entryFrame, mkF, argsToLocals, Value.category]; done) | rfl
set_option maxRecDepth 65536 in
set_option maxHeartbeats 40000000 in
theorem m_rnn {l : Launch} {Z : State} {a0 : Array Value} {n0 : Nat} (hw : ∀ d ∈ tables_1, d.before a0 Z = true) (hs : Stat Z) (y : Addr) (h0 : Heap) :
    Met l Z EL0 n0 NR0 KN0 N_15 jdk_31_method_10_code 1 (Option.some (Jvm.ClassFile.FieldType.object "java/lang/Object")) R_m_rnn [] #[(.ref y)] h0 (Q_m_rnn Z y h0) := by
  refine Met.of_go pn_m_rnn (fun mid => ef_m_rnn mid y ) ?_
  intro hO hWS
  refine Go.aload_n (pc' := 1) d_jdk_31_method_10_0 rfl rfl rfl ?_
  refine Go.ifnonnullY (pc' := 12) d_jdk_31_method_10_1 (by decide) (by decide) ?_
  refine Go.aload_n (pc' := 13) d_jdk_31_method_10_12 rfl rfl rfl ?_
  exact Go.retA d_jdk_31_method_10_13 rfl rfl rfl (by decide) (by decide) [] sn0 ⟨rfl, rfl, rfl⟩
abbrev R_m_aic : Room := { frames := 2, cells := 0, slots := 0, locals := 24 }
theorem pn_m_aic : plainFor (⟨"java/util/ImmutableCollections$AbstractImmutableCollection", "<init>", "()V"⟩ : MethodName) = true := by first | (refine plainFor_of_name ?_; simp [plainName, overriddenIn]; done) | decide +kernel
abbrev Q_m_aic (Z : State) (a : Addr) (h0 : Heap) : Option Value → Heap → List Addr → Prop := fun res h' SN => res = none ∧ SN = [] ∧ h0 = h'
theorem ef_m_aic (mid : MethodId) (a : Addr) : entryFrame mid #[(.ref a)] 1 = mkF mid 0 #[.val (.ref a)] [] := by first | (simp [entryFrame, mkF, argsToLocals, Value.category]; done) | rfl
set_option maxRecDepth 65536 in
set_option maxHeartbeats 40000000 in
theorem m_aic {l : Launch} {Z : State} {a0 : Array Value} {n0 : Nat} (hw : ∀ d ∈ tables_1, d.before a0 Z = true) (hs : Stat Z) (a : Addr) (h0 : Heap) :
    Met l Z EL0 n0 NR0 KN0 N_16 jdk_47_method_1_code 1 (Option.none : Option Jvm.ClassFile.FieldType) R_m_aic [] #[(.ref a)] h0 (Q_m_aic Z a h0) := by
  refine Met.of_go pn_m_aic (fun mid => ef_m_aic mid a ) ?_
  intro hO hWS
  refine Go.aload_n (pc' := 1) d_jdk_47_method_1_0 rfl rfl rfl ?_
  refine Go.callI (pc' := 4) (z := N_6) (a := a) d_jdk_47_method_1_1 rfl rfl (w_240 hw) (w_46 hw) (w_50 hw) (by decide) (argsL := []) (rest := []) (Pays.of_met (W := 0) (len := 3) (m_absc hw hs a h0) (w_50 hw) (w_49 hw) (by decide) (by decide)) rfl rfl (lenOf pd_4 rfl) rfl (Nat.le_of_eq rfl) mem0 (by decide) (by decide) ?_
  rintro _ _ _ - - ⟨rfl, rfl, rfl⟩
  change Go _ _ _ _ _ _ _ _ _ _ _ _ _ _ [] h0 0 0 4 #[.val (.ref a)] []
  exact Go.retV d_jdk_47_method_1_4 rfl (by decide) (by decide) [] sn0 ⟨rfl, rfl, rfl⟩
abbrev R_m_ail : Room := { frames := 3, cells := 0, slots := 0, locals := 36 }
theorem pn_m_ail : plainFor (⟨"java/util/ImmutableCollections$AbstractImmutableList", "<init>", "()V"⟩ : MethodName) = true := by first | (refine plainFor_of_name ?_; simp [plainName, overriddenIn]; done) | decide +kernel
abbrev Q_m_ail (Z : State) (a : Addr) (h0 : Heap) : Option Value → Heap → List Addr → Prop := fun res h' SN => res = none ∧ SN = [] ∧ h0 = h'
theorem ef_m_ail (mid : MethodId) (a : Addr) : entryFrame mid #[(.ref a)] 1 = mkF mid 0 #[.val (.ref a)] [] := by first | (simp [entryFrame, mkF, argsToLocals, Value.category]; done) | rfl
set_option maxRecDepth 65536 in
set_option maxHeartbeats 40000000 in
theorem m_ail {l : Launch} {Z : State} {a0 : Array Value} {n0 : Nat} (hw : ∀ d ∈ tables_1, d.before a0 Z = true) (hs : Stat Z) (a : Addr) (h0 : Heap) :
    Met l Z EL0 n0 NR0 KN0 N_17 jdk_46_method_1_code 1 (Option.none : Option Jvm.ClassFile.FieldType) R_m_ail [] #[(.ref a)] h0 (Q_m_ail Z a h0) := by
  refine Met.of_go pn_m_ail (fun mid => ef_m_ail mid a ) ?_
  intro hO hWS
  refine Go.aload_n (pc' := 1) d_jdk_46_method_1_0 rfl rfl rfl ?_
  refine Go.callI (pc' := 4) (z := N_16) (a := a) d_jdk_46_method_1_1 rfl rfl (w_234 hw) (w_235 hw) (w_239 hw) (by decide) (argsL := []) (rest := []) (Pays.of_met (W := 0) (len := 3) (m_aic hw hs a h0) (w_239 hw) (w_238 hw) (by decide) (by decide)) rfl rfl (lenOf pd_4 rfl) rfl (Nat.le_of_eq rfl) mem0 (by decide) (by decide) ?_
  rintro _ _ _ - - ⟨rfl, rfl, rfl⟩
  change Go _ _ _ _ _ _ _ _ _ _ _ _ _ _ [] h0 0 0 4 #[.val (.ref a)] []
  exact Go.retV d_jdk_46_method_1_4 rfl (by decide) (by decide) [] sn0 ⟨rfl, rfl, rfl⟩
abbrev R_m_l12 : Room := { frames := 4, cells := 0, slots := 0, locals := 48 }
theorem pn_m_l12 : plainFor (⟨"java/util/ImmutableCollections$List12", "<init>", "(Ljava/lang/Object;)V"⟩ : MethodName) = true := by first | (refine plainFor_of_name ?_; simp [plainName, overriddenIn]; done) | decide +kernel
abbrev Q_m_l12 (Z : State) (a : Addr) (y : Addr) (h0 : Heap) : Option Value → Heap → List Addr → Prop := fun res h' SN => res = none ∧ SN = [] ∧ Exa Z h' a "java/util/ImmutableCollections$List12"
theorem ef_m_l12 (mid : MethodId) (a : Addr) (y : Addr) : entryFrame mid #[(.ref a), (.ref y)] 2 = mkF mid 0 #[.val (.ref a), .val (.ref y)] [] := by first | (simp [entryFrame, mkF, argsToLocals, Value.category]; done) | rfl
set_option maxRecDepth 65536 in
set_option maxHeartbeats 40000000 in
theorem m_l12 {l : Launch} {Z : State} {a0 : Array Value} {n0 : Nat} (hw : ∀ d ∈ tables_1, d.before a0 Z = true) (hs : Stat Z) (a : Addr) (y : Addr) (h0 : Heap) (E_a : Exa Z h0 a "java/util/ImmutableCollections$List12") (F_a_e0 : Fld Z h0 a "java/util/ImmutableCollections$List12" "e0" "Ljava/lang/Object;" .null) (F_a_e1 : Fld Z h0 a "java/util/ImmutableCollections$List12" "e1" "Ljava/lang/Object;" .null) :
    Met l Z EL0 n0 NR0 KN0 N_18 jdk_44_method_1_code 2 (Option.none : Option Jvm.ClassFile.FieldType) R_m_l12 [a] #[(.ref a), (.ref y)] h0 (Q_m_l12 Z a y h0) := by
  refine Met.of_go pn_m_l12 (fun mid => ef_m_l12 mid a y ) ?_
  intro hO hWS
  obtain ⟨eo, S_eo⟩ := hs_o hs
  refine Go.aload_n (pc' := 1) d_jdk_44_method_1_0 rfl rfl rfl ?_
  refine Go.callI (pc' := 4) (z := N_17) (a := a) d_jdk_44_method_1_1 rfl rfl (w_228 hw) (w_229 hw) (w_233 hw) (by decide) (argsL := []) (rest := []) (Pays.of_met (W := 0) (len := 3) (m_ail hw hs a h0) (w_233 hw) (w_232 hw) (by decide) (by decide)) rfl rfl (lenOf pd_4 rfl) rfl (Nat.le_of_eq rfl) mem0 (by decide) (by decide) ?_
  rintro _ _ _ - - ⟨rfl, rfl, rfl⟩
  change Go _ _ _ _ _ _ _ _ _ _ _ _ _ _ [a] h0 0 0 4 #[.val (.ref a), .val (.ref y)] []
  refine Go.aload_n (pc' := 5) d_jdk_44_method_1_4 rfl rfl rfl ?_
  refine Go.aload_n (pc' := 6) d_jdk_44_method_1_5 rfl rfl rfl ?_
  refine Go.callS (pc' := 9) (z := N_15) d_jdk_44_method_1_6 rfl (w_242 hw) (w_243 hw) (w_244 hw) (w_245 hw) (by decide) (argsL := [(.ref y)]) (rest := [(.ref a)]) (Pays.of_met (W := 1) (len := 3) (m_rnn hw hs y h0) (w_245 hw) (w_244 hw) (by decide) (by decide)) rfl rfl (lenOf pd_9 rfl) rfl (Nat.le_of_eq rfl) mem0 (by decide) (by decide) ?_
  rintro _ _ _ - - ⟨rfl, rfl, rfl⟩
  change Go _ _ _ _ _ _ _ _ _ _ _ _ _ _ [a] h0 0 0 9 #[.val (.ref a), .val (.ref y)] [(.ref y), (.ref a)]
  refine Go.putF (pc' := 12) d_jdk_44_method_1_9 rfl (List.mem_of_getElem? (i := 0) rfl) (host := "") (Or.inl (w_246 hw)) Via.refl F_a_e0 E_a (Or.inr ⟨(w_247 hw), rfl, rfl⟩) (w_222 hw) (ty := (.object "java/lang/Object")) (by decide) rfl rfl ?_
  intro h87 W88
  replace F_a_e0 := F_a_e0.same W88
  replace E_a := E_a.wr W88
  replace F_a_e1 := F_a_e1.other W88 (Or.inr (slot_ne (Or.inr (w_250 hw)) (Or.inr (w_247 hw)) (by decide) (t := (.object "java/lang/Object")) (t' := (.object "java/lang/Object")) (by decide) (by decide)))
  change Go _ _ _ _ _ _ _ _ _ _ _ _ _ _ [a] h87 0 0 12 #[.val (.ref a), .val (.ref y)] []
  refine Go.aload_n (pc' := 13) d_jdk_44_method_1_12 rfl rfl rfl ?_
  refine Go.getS (pc' := 16) d_jdk_44_method_1_13 rfl (Or.inr (w_248 hw)) Via.refl S_eo ?_
  refine Go.putF (pc' := 19) d_jdk_44_method_1_16 rfl (List.mem_of_getElem? (i := 0) rfl) (host := "") (Or.inl (w_249 hw)) Via.refl F_a_e1 E_a (Or.inr ⟨(w_250 hw), rfl, rfl⟩) (w_222 hw) (ty := (.object "java/lang/Object")) (by decide) rfl rfl ?_
  intro h89 W90
  replace F_a_e1 := F_a_e1.same W90
  replace E_a := E_a.wr W90
  replace F_a_e0 := F_a_e0.other W90 (Or.inr (slot_ne (Or.inr (w_247 hw)) (Or.inr (w_250 hw)) (by decide) (t := (.object "java/lang/Object")) (t' := (.object "java/lang/Object")) (by decide) (by decide)))
  change Go _ _ _ _ _ _ _ _ _ _ _ _ _ _ [a] h89 0 0 19 #[.val (.ref a), .val (.ref y)] []
  exact Go.retV d_jdk_44_method_1_19 rfl (by decide) (by decide) [] sn0 ⟨rfl, rfl, E_a⟩
abbrev R_m_of1 : Room := { frames := 5, cells := 1, slots := 2, locals := 62 }
theorem pn_m_of1 : plainFor (⟨"java/util/List", "of", "([Ljava/lang/Object;)Ljava/util/List;"⟩ : MethodName) = true := by first | (refine plainFor_of_name ?_; simp [plainName, overriddenIn]; done) | decide +kernel
abbrev Q_m_of1 (Z : State) (b : Addr) (kb : ClassId) (y : Addr) (h0 : Heap) : Option Value → Heap → List Addr → Prop := fun res h' SN => ∃ (u : Addr), res = some (.ref u) ∧ SN = [] ∧ True
theorem ef_m_of1 (mid : MethodId) (b : Addr) (kb : ClassId) (y : Addr) : entryFrame mid #[(.ref b)] 2 = mkF mid 0 #[.val (.ref b), .unset] [] := by first | (simp [entryFrame, mkF, argsToLocals, Value.category]; done) | rfl
set_option maxRecDepth 65536 in
set_option maxHeartbeats 40000000 in
theorem m_of1 {l : Launch} {Z : State} {a0 : Array Value} {n0 : Nat} (hw : ∀ d ∈ tables_1, d.before a0 Z = true) (hs : Stat Z) (b : Addr) (kb : ClassId) (y : Addr) (h0 : Heap) (V_b : Arv Z h0 b kb (.object "java/lang/Object") (1 : Int32) [(.ref y)] .null) :
    Met l Z EL0 n0 NR0 KN0 N_19 jdk_40_method_47_code 2 (Option.some (Jvm.ClassFile.FieldType.object "java/util/List")) R_m_of1 [] #[(.ref b)] h0 (Q_m_of1 Z b kb y h0) := by
  refine Met.of_go pn_m_of1 (fun mid => ef_m_of1 mid b kb y ) ?_
  intro hO hWS
  refine Go.aload_n (pc' := 1) d_jdk_40_method_47_0 rfl rfl rfl ?_
  refine Go.lenV (pc' := 2) d_jdk_40_method_47_1 rfl V_b ?_
  refine Go.tsw (pc' := 34) (o := 32) d_jdk_40_method_47_2 (by decide) (by decide) (by decide) (by decide) ?_
  refine Go.newO (pc' := 37) d_jdk_40_method_47_34 rfl (w_221 hw) (w_222 hw) (w_223 hw) (by decide) (by decide) ?_
  intro h91 b92 g93 ge_b92 x94 E_b92 D_b92 U_b92
  have o_b_b92 : b ≠ b92 := Nat.ne_of_lt (Nat.lt_of_lt_of_le V_b.lt (Nat.le_of_eq g93))
  replace V_b := V_b.ext x94
  have F_b92_e0 : Fld Z h91 b92 "java/util/ImmutableCollections$List12" "e0" "Ljava/lang/Object;" .null := D_b92 (Or.inr (w_247 hw)) (ty := (.object "java/lang/Object")) (by decide)
  have F_b92_e1 : Fld Z h91 b92 "java/util/ImmutableCollections$List12" "e1" "Ljava/lang/Object;" .null := D_b92 (Or.inr (w_250 hw)) (ty := (.object "java/lang/Object")) (by decide)
  change Go _ _ _ _ _ _ _ _ _ _ _ _ _ _ [b92] h91 1 2 37 #[.val (.ref b), .unset] [(.ref b92)]
  refine Go.dup (pc' := 38) d_jdk_40_method_47_37 rfl rfl ?_
  refine Go.aload_n (pc' := 39) d_jdk_40_method_47_38 rfl rfl rfl ?_
  refine Go.iconst (pc' := 40) d_jdk_40_method_47_39 rfl ic_0 ?_
  refine Go.aaloadV (pc' := 41) (v := (.ref y)) d_jdk_40_method_47_40 rfl V_b rfl (by decide) rfl ?_
  refine Go.callI (pc' := 44) (z := N_18) (a := b92) d_jdk_40_method_47_41 rfl rfl (w_224 hw) (w_225 hw) (w_227 hw) (by decide) (argsL := [(.ref y)]) (rest := [(.ref b92)]) (Pays.of_met (W := 1) (len := 3) (m_l12 hw hs b92 y h91 E_b92 F_b92_e0 F_b92_e1) (w_227 hw) (w_223 hw) (by decide) (by decide)) rfl rfl (lenOf pd_10 rfl) rfl (Nat.le_of_eq rfl) (memS (List.mem_of_getElem? (i := 0) rfl) mem0) (by decide) (by decide) ?_
  rintro _ h95 _ K96 le97 ⟨rfl, rfl, p98⟩
  replace V_b := V_b.keep K96 (ninS o_b_b92 nin0)
  replace E_b92 := E_b92.keep K96
  change Go _ _ _ _ _ _ _ _ _ _ _ _ _ _ [b92] h95 1 2 44 #[.val (.ref b), .unset] [(.ref b92)]
  exact Go.retA d_jdk_40_method_47_44 rfl rfl rfl (by decide) (by decide) [] sn0 ⟨b92, rfl, rfl, trivial⟩
abbrev R_m_copy3 : Room := { frames := 1, cells := 1, slots := 1, locals := 24 }
theorem pn_m_copy3 : plainFor (⟨"java/util/Arrays", "copyOf", "([Ljava/lang/Object;ILjava/lang/Class;)[Ljava/lang/Object;"⟩ : MethodName) = true := by first | (refine plainFor_of_name ?_; simp [plainName, overriddenIn]; done) | decide +kernel
abbrev Q_m_copy3 (Z : State) (b : Addr) (mr : Addr) (kb : ClassId) (y : Addr) (h0 : Heap) : Option Value → Heap → List Addr → Prop := fun res h' SN => ∃ (nb : Addr) (kn : ClassId), res = some (.ref nb) ∧ SN = [] ∧ h0.size ≤ nb ∧ Arv Z h' nb kn (.object "java/lang/Object") (1 : Int32) [(.ref y)] .null
theorem ef_m_copy3 (mid : MethodId) (b : Addr) (mr : Addr) (kb : ClassId) (y : Addr) : entryFrame mid #[(.ref b), (.int (1 : Int32)), (.ref mr)] 4 = mkF mid 0 #[.val (.ref b), .val (.int (1 : Int32)), .val (.ref mr), .unset] [] := by first | (simp [entryFrame, mkF, argsToLocals, Value.category]; done) | rfl
set_option maxRecDepth 65536 in
set_option maxHeartbeats 40000000 in
theorem m_copy3 {l : Launch} {Z : State} {a0 : Array Value} {n0 : Nat} (hw : ∀ d ∈ tables_1, d.before a0 Z = true) (hs : Stat Z) (b : Addr) (mr : Addr) (kb : ClassId) (y : Addr) (h0 : Heap) (V_b : Arv Z h0 b kb (.object "java/lang/Object") (10 : Int32) [(.ref y), .null, .null, .null, .null, .null, .null, .null, .null, .null] .null) (E_y : Exa Z h0 y "com/example/sumgen/sumgen/model/Field") (hM : Mr Z "[Ljava/lang/Object;" mr) :
    Met l Z EL0 n0 NR0 KN0 N_20 jdk_65_method_120_code 4 (Option.some (Jvm.ClassFile.FieldType.array (Jvm.ClassFile.FieldType.object "java/lang/Object"))) R_m_copy3 [] #[(.ref b), (.int (1 : Int32)), (.ref mr)] h0 (Q_m_copy3 Z b mr kb y h0) := by
  refine Met.of_go pn_m_copy3 (fun mid => ef_m_copy3 mid b mr kb y ) ?_
  intro hO hWS
  refine Go.aload_n (pc' := 1) d_jdk_65_method_120_0 rfl rfl rfl ?_
  refine Go.ldcM (pc' := 3) d_jdk_65_method_120_1 rfl (w_209 hw) hM ?_
  refine Go.acmp (pc' := 6) (same := true) d_jdk_65_method_120_3 rfl rfl (decide_eq_true rfl) (by decide) (by decide) ?_
  refine Go.iload_n (pc' := 7) d_jdk_65_method_120_6 rfl rfl ?_
  refine Go.newR (pc' := 10) (cap := 1) (ad := "[Ljava/lang/Object;") d_jdk_65_method_120_7 rfl (w_210 hw) (w_186 hw) (by decide) (by decide) (by decide) (by decide) (by decide) (by decide) ?_
  intro h99 b100 g101 ge_b100 q103 x102 V_b100 E_b100 O_b100
  have o_b_b100 : b ≠ b100 := Nat.ne_of_lt (Nat.lt_of_lt_of_le V_b.lt (Nat.le_of_eq g101))
  have o_y_b100 : y ≠ b100 := Nat.ne_of_lt (Nat.lt_of_lt_of_le E_y.lt (Nat.le_of_eq g101))
  replace V_b := V_b.ext x102
  replace E_y := E_y.ext x102
  replace V_b100 : Arv Z h99 b100 q103 (.object "java/lang/Object") (1 : Int32) [.null] .null := V_b100.pad (pad_rep [] _ 1)
  change Go _ _ _ _ _ _ _ _ _ _ _ _ _ _ [b100] h99 1 1 10 #[.val (.ref b), .val (.int (1 : Int32)), .val (.ref mr), .unset] [(.ref b100)]
  refine Go.goto (pc' := 24) d_jdk_65_method_120_10 (by decide) (by decide) ?_
  refine Go.astore_n (pc' := 25) (Ls' := #[.val (.ref b), .val (.int (1 : Int32)), .val (.ref mr), .val (.ref b100)]) d_jdk_65_method_120_24 rfl rfl rfl ?_
  refine Go.aload_n (pc' := 26) d_jdk_65_method_120_25 rfl rfl rfl ?_
  refine Go.iconst (pc' := 27) d_jdk_65_method_120_26 rfl ic_0 ?_
  refine Go.aload_n (pc' := 28) d_jdk_65_method_120_27 rfl rfl rfl ?_
  refine Go.iconst (pc' := 29) d_jdk_65_method_120_28 rfl ic_0 ?_
  refine Go.aload_n (pc' := 30) d_jdk_65_method_120_29 rfl rfl rfl ?_
  refine Go.lenV (pc' := 31) d_jdk_65_method_120_30 rfl V_b ?_
  refine Go.iload_n (pc' := 32) d_jdk_65_method_120_31 rfl rfl ?_
  refine Go.callS (pc' := 35) (z := N_10) d_jdk_65_method_120_32 rfl (w_211 hw) (w_212 hw) (w_183 hw) (w_213 hw) (by decide) (argsL := [(.int (10 : Int32)), (.int (1 : Int32))]) (rest := [(.int (0 : Int32)), (.ref b100), (.int (0 : Int32)), (.ref b)]) (Pays.of_met (W := 4) (len := 3) (m_min hw hs (10 : Int32) (1 : Int32) h99) (w_213 hw) (w_183 hw) (by decide) (by decide)) rfl rfl (lenOf pd_5 rfl) rfl (Nat.le_of_eq rfl) mem0 (by decide) (by decide) ?_
  rintro _ _ _ - - ⟨rfl, rfl, rfl⟩
  change Go _ _ _ _ _ _ _ _ _ _ _ _ _ _ [b100] h99 1 1 35 #[.val (.ref b), .val (.int (1 : Int32)), .val (.ref mr), .val (.ref b100)] [(.int (if (1 : Int32) < (10 : Int32) then (1 : Int32) else (10 : Int32))), (.int (0 : Int32)), (.ref b100), (.int (0 : Int32)), (.ref b)]
  rw [show (if (1 : Int32) < (10 : Int32) then (1 : Int32) else (10 : Int32)) = (1 : Int32) from by decide]
  refine Go.cpA (pc' := 38) (W := 0) (us := [(.ref y)]) d_jdk_65_method_120_35 rfl (List.mem_of_getElem? (i := 0) rfl) (w_214 hw) (w_217 hw) (w_215 hw) (w_216 hw) V_b V_b100 (Or.inr ⟨rfl, rfl, own_sto V_b100 O_b100 (Ins.of_exa E_y (w_187 hw)), trivial⟩) (by decide) (by decide) (by decide) (by decide) (by decide) rfl (by decide) rfl (by decide) (Nat.le_of_eq rfl) (by decide) ?_
  intro h104 K105 V_b100'
  replace V_b := V_b.keep K105 (ninS o_b_b100 nin0)
  replace E_y := E_y.keep K105
  replace E_b100 := E_b100.keep K105
  replace V_b100 : Arv Z h104 b100 q103 (.object "java/lang/Object") (1 : Int32) [(.ref y)] .null := V_b100'
  change Go _ _ _ _ _ _ _ _ _ _ _ _ _ _ [b100] h104 1 1 38 #[.val (.ref b), .val (.int (1 : Int32)), .val (.ref mr), .val (.ref b100)] []
  refine Go.aload_n (pc' := 39) d_jdk_65_method_120_38 rfl rfl rfl ?_
  exact Go.retA d_jdk_65_method_120_39 rfl rfl rfl (by decide) (by decide) [] sn0 ⟨b100, q103, rfl, rfl, ge_b100, V_b100⟩
abbrev R_m_copy2 : Room := { frames := 2, cells := 1, slots := 1, locals := 39 }
theorem pn_m_copy2 : plainFor (⟨"java/util/Arrays", "copyOf", "([Ljava/lang/Object;I)[Ljava/lang/Object;"⟩ : MethodName) = true := by first | (refine plainFor_of_name ?_; simp [plainName, overriddenIn]; done) | decide +kernel
abbrev Q_m_copy2 (Z : State) (b : Addr) (kb : ClassId) (y : Addr) (h0 : Heap) : Option Value → Heap → List Addr → Prop := fun res h' SN => ∃ (nb : Addr) (kn : ClassId), res = some (.ref nb) ∧ SN = [] ∧ h0.size ≤ nb ∧ Arv Z h' nb kn (.object "java/lang/Object") (1 : Int32) [(.ref y)] .null
theorem ef_m_copy2 (mid : MethodId) (b : Addr) (kb : ClassId) (y : Addr) : entryFrame mid #[(.ref b), (.int (1 : Int32))] 2 = mkF mid 0 #[.val (.ref b), .val (.int (1 : Int32))] [] := by first | (simp [entryFrame, mkF, argsToLocals, Value.category]; done) | rfl
set_option maxRecDepth 65536 in
set_option maxHeartbeats 40000000 in
theorem m_copy2 {l : Launch} {Z : State} {a0 : Array Value} {n0 : Nat} (hw : ∀ d ∈ tables_1, d.before a0 Z = true) (hs : Stat Z) (b : Addr) (kb : ClassId) (y : Addr) (h0 : Heap) (V_b : Arv Z h0 b kb (.object "java/lang/Object") (10 : Int32) [(.ref y), .null, .null, .null, .null, .null, .null, .null, .null, .null] .null) (E_y : Exa Z h0 y "com/example/sumgen/sumgen/model/Field") (E_b : Exa Z h0 b "[Ljava/lang/Object;") :
    Met l Z EL0 n0 NR0 KN0 N_21 jdk_65_method_119_code 2 (Option.some (Jvm.ClassFile.FieldType.array (Jvm.ClassFile.FieldType.object "java/lang/Object"))) R_m_copy2 [] #[(.ref b), (.int (1 : Int32))] h0 (Q_m_copy2 Z b kb y h0) := by
  refine Met.of_go pn_m_copy2 (fun mid => ef_m_copy2 mid b kb y ) ?_
  intro hO hWS
  obtain ⟨mr, hM⟩ := hs_m hs
  refine Go.aload_n (pc' := 1) d_jdk_65_method_119_0 rfl rfl rfl ?_
  refine Go.iload_n (pc' := 2) d_jdk_65_method_119_1 rfl rfl ?_
  refine Go.aload_n (pc' := 3) d_jdk_65_method_119_2 rfl rfl rfl ?_
  refine Go.gcls (pc' := 6) (W := 2) d_jdk_65_method_119_3 rfl (w_200 hw) (w_201 hw) (w_78 hw) (w_203 hw) (w_202 hw) (w_204 hw) E_b hM rfl (by decide) (Nat.le_of_eq rfl) (by decide) ?_
  refine Go.callS (pc' := 9) (z := N_20) d_jdk_65_method_119_6 rfl (w_206 hw) (w_207 hw) (w_198 hw) (w_208 hw) (by decide) (argsL := [(.ref b), (.int (1 : Int32)), (.ref mr)]) (rest := []) (Pays.of_met (W := 0) (len := 3) (m_copy3 hw hs b mr kb y h0 V_b E_y (hM)) (w_208 hw) (w_198 hw) (by decide) (by decide)) rfl rfl (lenOf pd_11 rfl) rfl (Nat.le_of_eq rfl) mem0 (by decide) (by decide) ?_
  rintro _ h108 _ K109 le110 ⟨b106, q107, rfl, rfl, p111, p112⟩
  have o_b_b106 : b ≠ b106 := Nat.ne_of_lt (Nat.lt_of_lt_of_le V_b.lt p111)
  have o_y_b106 : y ≠ b106 := Nat.ne_of_lt (Nat.lt_of_lt_of_le E_y.lt p111)
  have ge_b106 := Nat.le_trans le110 p111
  replace V_b := V_b.keep K109 nin0
  replace E_y := E_y.keep K109
  replace E_b := E_b.keep K109
  have V_b106 := p112
  change Go _ _ _ _ _ _ _ _ _ _ _ _ _ _ [] h108 1 1 9 #[.val (.ref b), .val (.int (1 : Int32))] [(.ref b106)]
  exact Go.retA d_jdk_65_method_119_9 rfl rfl rfl (by decide) (by decide) [] sn0 ⟨b106, q107, rfl, rfl, ge_b106, V_b106⟩
abbrev R_m_toArr : Room := { frames := 3, cells := 1, slots := 1, locals := 52 }
theorem pn_m_toArr : plainFor (⟨"java/util/ArrayList", "toArray", "()[Ljava/lang/Object;"⟩ : MethodName) = true := by first | (refine plainFor_of_name ?_; simp [plainName, overriddenIn]; done) | decide +kernel
abbrev Q_m_toArr (Z : State) (a : Addr) (b : Addr) (kb : ClassId) (y : Addr) (h0 : Heap) : Option Value → Heap → List Addr → Prop := fun res h' SN => ∃ (nb : Addr) (kn : ClassId), res = some (.ref nb) ∧ SN = [] ∧ h0.size ≤ nb ∧ Arv Z h' nb kn (.object "java/lang/Object") (1 : Int32) [(.ref y)] .null
theorem ef_m_toArr (mid : MethodId) (a : Addr) (b : Addr) (kb : ClassId) (y : Addr) : entryFrame mid #[(.ref a)] 1 = mkF mid 0 #[.val (.ref a)] [] := by first | (simp [entryFrame, mkF, argsToLocals, Value.category]; done) | rfl
set_option maxRecDepth 65536 in
set_option maxHeartbeats 40000000 in
theorem m_toArr {l : Launch} {Z : State} {a0 : Array Value} {n0 : Nat} (hw : ∀ d ∈ tables_1, d.before a0 Z = true) (hs : Stat Z) (a : Addr) (b : Addr) (kb : ClassId) (y : Addr) (h0 : Heap) (E_a : Exa Z h0 a "java/util/ArrayList") (F_a_size : Fld Z h0 a "java/util/ArrayList" "size" "I" (.int (1 : Int32))) (F_a_elementData : Fld Z h0 a "java/util/ArrayList" "elementData" "[Ljava/lang/Object;" (.ref b)) (V_b : Arv Z h0 b kb (.object "java/lang/Object") (10 : Int32) [(.ref y), .null, .null, .null, .null, .null, .null, .null, .null, .null] .null) (E_b : Exa Z h0 b "[Ljava/lang/Object;") (E_y : Exa Z h0 y "com/example/sumgen/sumgen/model/Field") :
    Met l Z EL0 n0 NR0 KN0 N_22 jdk_38_method_16_code 1 (Option.some (Jvm.ClassFile.FieldType.array (Jvm.ClassFile.FieldType.object "java/lang/Object"))) R_m_toArr [] #[(.ref a)] h0 (Q_m_toArr Z a b kb y h0) := by
  refine Met.of_go pn_m_toArr (fun mid => ef_m_toArr mid a b kb y ) ?_
  intro hO hWS
  refine Go.aload_n (pc' := 1) d_jdk_38_method_16_0 rfl rfl rfl ?_
  refine Go.getF (pc' := 4) d_jdk_38_method_16_1 rfl (host := "") (Or.inl (w_55 hw)) Via.refl F_a_elementData ?_
  refine Go.aload_n (pc' := 5) d_jdk_38_method_16_4 rfl rfl rfl ?_
  refine Go.getF (pc' := 8) d_jdk_38_method_16_5 rfl (host := "") (Or.inl (w_89 hw)) Via.refl F_a_size ?_
  refine Go.callS (pc' := 11) (z := N_21) d_jdk_38_method_16_8 rfl (w_196 hw) (w_197 hw) (w_198 hw) (w_199 hw) (by decide) (argsL := [(.ref b), (.int (1 : Int32))]) (rest := []) (Pays.of_met (W := 0) (len := 3) (m_copy2 hw hs b kb y h0 V_b E_y E_b) (w_199 hw) (w_198 hw) (by decide) (by decide)) rfl rfl (lenOf pd_12 rfl) rfl (Nat.le_of_eq rfl) mem0 (by decide) (by decide) ?_
  rintro _ h115 _ K116 le117 ⟨b113, q114, rfl, rfl, p118, p119⟩
  have o_a_b113 : a ≠ b113 := Nat.ne_of_lt (Nat.lt_of_lt_of_le E_a.lt p118)
  have o_b_b113 : b ≠ b113 := Nat.ne_of_lt (Nat.lt_of_lt_of_le V_b.lt p118)
  have o_y_b113 : y ≠ b113 := Nat.ne_of_lt (Nat.lt_of_lt_of_le E_y.lt p118)
  have ge_b113 := Nat.le_trans le117 p118
  replace E_a := E_a.keep K116
  replace F_a_size := F_a_size.keep K116 nin0
  replace F_a_elementData := F_a_elementData.keep K116 nin0
  replace V_b := V_b.keep K116 nin0
  replace E_b := E_b.keep K116
  replace E_y := E_y.keep K116
  have V_b113 := p119
  change Go _ _ _ _ _ _ _ _ _ _ _ _ _ _ [] h115 1 1 11 #[.val (.ref a)] [(.ref b113)]
  exact Go.retA d_jdk_38_method_16_11 rfl rfl rfl (by decide) (by decide) [] sn0 ⟨b113, q114, rfl, rfl, ge_b113, V_b113⟩
abbrev R_m_alE0 : Room := { frames := 0, cells := 0, slots := 0, locals := 0 }
theorem pn_m_alE0 : plainFor (⟨"java/util/ArrayList", "isEmpty", "()Z"⟩ : MethodName) = true := by first | (refine plainFor_of_name ?_; simp [plainName, overriddenIn]; done) | decide +kernel
abbrev Q_m_alE0 (Z : State) (a : Addr) (h0 : Heap) : Option Value → Heap → List Addr → Prop := fun res h' SN => res = some (.int (1 : Int32)) ∧ SN = [] ∧ h0 = h'
theorem ef_m_alE0 (mid : MethodId) (a : Addr) : entryFrame mid #[(.ref a)] 1 = mkF mid 0 #[.val (.ref a)] [] := by first | (simp [entryFrame, mkF, argsToLocals, Value.category]; done) | rfl
set_option maxRecDepth 65536 in
set_option maxHeartbeats 40000000 in
theorem m_alE0 {l : Launch} {Z : State} {a0 : Array Value} {n0 : Nat} (hw : ∀ d ∈ tables_1, d.before a0 Z = true) (hs : Stat Z) (a : Addr) (h0 : Heap) (F_a_size : Fld Z h0 a "java/util/ArrayList" "size" "I" (.int (0 : Int32))) :
    Met l Z EL0 n0 NR0 KN0 N_23 jdk_38_method_9_code 1 (Option.some Jvm.ClassFile.FieldType.boolean) R_m_alE0 [] #[(.ref a)] h0 (Q_m_alE0 Z a h0) := by
  refine Met.of_go pn_m_alE0 (fun mid => ef_m_alE0 mid a ) ?_
  intro hO hWS
  refine Go.aload_n (pc' := 1) d_jdk_38_method_9_0 rfl rfl rfl ?_
  refine Go.getF (pc' := 4) d_jdk_38_method_9_1 rfl (host := "") (Or.inl (w_89 hw)) Via.refl F_a_size ?_
  refine Go.ifN (pc' := 7) d_jdk_38_method_9_4 rfl ((if0 _ _).trans (teq (by decide : (0 : Int32) = (0 : Int32))).2) ?_
  refine Go.iconst (pc' := 8) d_jdk_38_method_9_7 rfl ic_1 ?_
  refine Go.goto (pc' := 12) d_jdk_38_method_9_8 (by decide) (by decide) ?_
  exact Go.retS (ty := .boolean) d_jdk_38_method_9_12 rfl (by simp) rfl (by decide) (by decide) [] sn0 ⟨rfl, rfl, rfl⟩
abbrev R_m_alE1 : Room := { frames := 0, cells := 0, slots := 0, locals := 0 }
theorem pn_m_alE1 : plainFor (⟨"java/util/ArrayList", "isEmpty", "()Z"⟩ : MethodName) = true := by first | (refine plainFor_of_name ?_; simp [plainName, overriddenIn]; done) | decide +kernel
abbrev Q_m_alE1 (Z : State) (a : Addr) (h0 : Heap) : Option Value → Heap → List Addr → Prop := fun res h' SN => res = some (.int (0 : Int32)) ∧ SN = [] ∧ h0 = h'
theorem ef_m_alE1 (mid : MethodId) (a : Addr) : entryFrame mid #[(.ref a)] 1 = mkF mid 0 #[.val (.ref a)] [] := by first | (simp [entryFrame, mkF, argsToLocals, Value.category]; done) | rfl
set_option maxRecDepth 65536 in
set_option maxHeartbeats 40000000 in
theorem m_alE1 {l : Launch} {Z : State} {a0 : Array Value} {n0 : Nat} (hw : ∀ d ∈ tables_1, d.before a0 Z = true) (hs : Stat Z) (a : Addr) (h0 : Heap) (F_a_size : Fld Z h0 a "java/util/ArrayList" "size" "I" (.int (1 : Int32))) :
    Met l Z EL0 n0 NR0 KN0 N_23 jdk_38_method_9_code 1 (Option.some Jvm.ClassFile.FieldType.boolean) R_m_alE1 [] #[(.ref a)] h0 (Q_m_alE1 Z a h0) := by
  refine Met.of_go pn_m_alE1 (fun mid => ef_m_alE1 mid a ) ?_
  intro hO hWS
  refine Go.aload_n (pc' := 1) d_jdk_38_method_9_0 rfl rfl rfl ?_
  refine Go.getF (pc' := 4) d_jdk_38_method_9_1 rfl (host := "") (Or.inl (w_89 hw)) Via.refl F_a_size ?_
  refine Go.ifY (pc' := 11) d_jdk_38_method_9_4 (by decide) (by decide) ((if0 _ _).trans (feq (by decide : ¬ ((1 : Int32) = (0 : Int32)))).2) ?_
  refine Go.iconst (pc' := 12) d_jdk_38_method_9_11 rfl ic_0 ?_
  exact Go.retS (ty := .boolean) d_jdk_38_method_9_12 rfl (by simp) rfl (by decide) (by decide) [] sn0 ⟨rfl, rfl, rfl⟩
abbrev R_m_of0 : Room := { frames := 0, cells := 0, slots := 0, locals := 0 }
theorem pn_m_of0 : plainFor (⟨"java/util/List", "of", "()Ljava/util/List;"⟩ : MethodName) = true := by first | (refine plainFor_of_name ?_; simp [plainName, overriddenIn]; done) | decide +kernel
abbrev Q_m_of0 (Z : State)  (h0 : Heap) : Option Value → Heap → List Addr → Prop := fun res h' SN => res = some (.ref (stRef Z "java/util/ImmutableCollections" "EMPTY_LIST" "Ljava/util/ImmutableCollections$ListN;")) ∧ SN = [] ∧ h0 = h'
theorem ef_m_of0 (mid : MethodId)  : entryFrame mid #[] 0 = mkF mid 0 #[] [] := by first | (simp [entryFrame, mkF, argsToLocals, Value.category]; done) | rfl
set_option maxRecDepth 65536 in
set_option maxHeartbeats 40000000 in
theorem m_of0 {l : Launch} {Z : State} {a0 : Array Value} {n0 : Nat} (hw : ∀ d ∈ tables_1, d.before a0 Z = true) (hs : Stat Z) (h0 : Heap) :
    Met l Z EL0 n0 NR0 KN0 N_24 jdk_40_method_36_code 0 (Option.some (Jvm.ClassFile.FieldType.object "java/util/List")) R_m_of0 [] #[] h0 (Q_m_of0 Z  h0) := by
  refine Met.of_go pn_m_of0 (fun mid => ef_m_of0 mid  ) ?_
  intro hO hWS
  obtain ⟨S_el, -⟩ := hs_e hs
  refine Go.getS (pc' := 3) d_jdk_40_method_36_0 rfl (host := "") (Or.inl (w_94 hw)) Via.refl S_el ?_
  exact Go.retA d_jdk_40_method_36_3 rfl rfl rfl (by decide) (by decide) [] sn0 ⟨rfl, rfl, rfl⟩
abbrev R_m_lc0 : Room := { frames := 1, cells := 0, slots := 0, locals := 12 }
theorem pn_m_lc0 : plainFor (⟨"java/util/ImmutableCollections", "listCopy", "(Ljava/util/Collection;)Ljava/util/List;"⟩ : MethodName) = true := by first | (refine plainFor_of_name ?_; simp [plainName, overriddenIn]; done) | decide +kernel
abbrev Q_m_lc0 (Z : State) (a : Addr) (h0 : Heap) : Option Value → Heap → List Addr → Prop := fun res h' SN => res = some (.ref (stRef Z "java/util/ImmutableCollections" "EMPTY_LIST" "Ljava/util/ImmutableCollections$ListN;")) ∧ SN = [] ∧ h0 = h'
theorem ef_m_lc0 (mid : MethodId) (a : Addr) : entryFrame mid #[(.ref a)] 2 = mkF mid 0 #[.val (.ref a), .unset] [] := by first | (simp [entryFrame, mkF, argsToLocals, Value.category]; done) | rfl
set_option maxRecDepth 65536 in
set_option maxHeartbeats 40000000 in
theorem m_lc0 {l : Launch} {Z : State} {a0 : Array Value} {n0 : Nat} (hw : ∀ d ∈ tables_1, d.before a0 Z = true) (hs : Stat Z) (a : Addr) (h0 : Heap) (E_a : Exa Z h0 a "java/util/ArrayList") (F_a_size : Fld Z h0 a "java/util/ArrayList" "size" "I" (.int (0 : Int32))) :
    Met l Z EL0 n0 NR0 KN0 N_26 jdk_56_method_3_code 2 (Option.some (Jvm.ClassFile.FieldType.object "java/util/List")) R_m_lc0 [] #[(.ref a)] h0 (Q_m_lc0 Z a h0) := by
  refine Met.of_go pn_m_lc0 (fun mid => ef_m_lc0 mid a ) ?_
  intro hO hWS
  refine Go.aload_n (pc' := 1) d_jdk_56_method_3_0 rfl rfl rfl ?_
  refine Go.instNo (pc' := 4) d_jdk_56_method_3_1 rfl (w_74 hw) E_a (own_nsno (w_34 hw) (own_face_inst (w_222 hw)) (NS.step (w_75 hw) (NS.step (w_76 hw) (NS.step (w_77 hw) (own_root (w_78 hw) (own_face_inst (w_222 hw)) (by decide)) (by decide)) (by decide)) (by decide)) (by decide)) ?_
  refine Go.ifN (pc' := 7) d_jdk_56_method_3_4 rfl ((if0 _ _).trans (teq (rfl : (0 : Int32) = (0 : Int32))).2) ?_
  refine Go.aload_n (pc' := 8) d_jdk_56_method_3_7 rfl rfl rfl ?_
  refine Go.instNo (pc' := 11) d_jdk_56_method_3_8 rfl (w_79 hw) E_a (own_nsno (w_34 hw) (own_face_sel (w_98 hw)) (NS.step (w_75 hw) (NS.step (w_76 hw) (NS.step (w_77 hw) (own_root (w_78 hw) (own_face_sel (w_98 hw)) (by decide)) (by decide)) (by decide)) (by decide)) (by decide)) ?_
  refine Go.ifY (pc' := 31) d_jdk_56_method_3_11 (by decide) (by decide) ((if0 _ _).trans (teq (rfl : (0 : Int32) = (0 : Int32))).1) ?_
  refine Go.aload_n (pc' := 32) d_jdk_56_method_3_31 rfl rfl rfl ?_
  refine Go.callF (pc' := 37) (u := N_25) (z := N_23) (a := a) d_jdk_56_method_3_32 rfl (w_80 hw) (w_81 hw) (w_82 hw) (w_83 hw) (w_84 hw) (w_85 hw) (w_86 hw) (w_87 hw) (by decide) E_a (argsL := []) (rest := []) (Pays.of_met (W := 0) (len := 5) (m_alE0 hw hs a h0 F_a_size) (w_88 hw) (w_35 hw) (by decide) (by decide)) rfl rfl (lenOf pd_13 rfl) rfl (Nat.le_of_eq rfl) mem0 (by decide) (by decide) ?_
  rintro _ _ _ - - ⟨rfl, rfl, rfl⟩
  change Go _ _ _ _ _ _ _ _ _ _ _ _ _ _ [] h0 0 0 37 #[.val (.ref a), .unset] [(.int (1 : Int32))]
  refine Go.ifN (pc' := 40) d_jdk_56_method_3_37 rfl ((if0 _ _).trans (feq (by decide : ¬ ((1 : Int32) = (0 : Int32)))).1) ?_
  refine Go.callS (pc' := 43) (z := N_24) d_jdk_56_method_3_40 rfl (w_91 hw) (w_92 hw) (w_68 hw) (w_93 hw) (by decide) (argsL := []) (rest := []) (Pays.of_met (W := 0) (len := 3) (m_of0 hw hs  h0) (w_93 hw) (w_68 hw) (by decide) (by decide)) rfl rfl (lenOf pd_14 rfl) rfl (Nat.le_of_eq rfl) mem0 (by decide) (by decide) ?_
  rintro _ _ _ - - ⟨rfl, rfl, rfl⟩
  change Go _ _ _ _ _ _ _ _ _ _ _ _ _ _ [] h0 0 0 43 #[.val (.ref a), .unset] [(.ref (stRef Z "java/util/ImmutableCollections" "EMPTY_LIST" "Ljava/util/ImmutableCollections$ListN;"))]
  exact Go.retA d_jdk_56_method_3_43 rfl rfl rfl (by decide) (by decide) [] sn0 ⟨rfl, rfl, rfl⟩
abbrev R_m_lc1 : Room := { frames := 6, cells := 2, slots := 3, locals := 75 }
theorem pn_m_lc1 : plainFor (⟨"java/util/ImmutableCollections", "listCopy", "(Ljava/util/Collection;)Ljava/util/List;"⟩ : MethodName) = true := by first | (refine plainFor_of_name ?_; simp [plainName, overriddenIn]; done) | decide +kernel
abbrev Q_m_lc1 (Z : State) (a : Addr) (b : Addr) (kb : ClassId) (y : Addr) (h0 : Heap) : Option Value → Heap → List Addr → Prop := fun res h' SN => ∃ (u : Addr), res = some (.ref u) ∧ SN = [] ∧ True
theorem ef_m_lc1 (mid : MethodId) (a : Addr) (b : Addr) (kb : ClassId) (y : Addr) : entryFrame mid #[(.ref a)] 2 = mkF mid 0 #[.val (.ref a), .unset] [] := by first | (simp [entryFrame, mkF, argsToLocals, Value.category]; done) | rfl
set_option maxRecDepth 65536 in
set_option maxHeartbeats 40000000 in
theorem m_lc1 {l : Launch} {Z : State} {a0 : Array Value} {n0 : Nat} (hw : ∀ d ∈ tables_1, d.before a0 Z = true) (hs : Stat Z) (a : Addr) (b : Addr) (kb : ClassId) (y : Addr) (h0 : Heap) (E_a : Exa Z h0 a "java/util/ArrayList") (F_a_size : Fld Z h0 a "java/util/ArrayList" "size" "I" (.int (1 : Int32))) (F_a_elementData : Fld Z h0 a "java/util/ArrayList" "elementData" "[Ljava/lang/Object;" (.ref b)) (V_b : Arv Z h0 b kb (.object "java/lang/Object") (10 : Int32) [(.ref y), .null, .null, .null, .null, .null, .null, .null, .null, .null] .null) (E_b : Exa Z h0 b "[Ljava/lang/Object;") (E_y : Exa Z h0 y "com/example/sumgen/sumgen/model/Field") :
    Met l Z EL0 n0 NR0 KN0 N_26 jdk_56_method_3_code 2 (Option.some (Jvm.ClassFile.FieldType.object "java/util/List")) R_m_lc1 [] #[(.ref a)] h0 (Q_m_lc1 Z a b kb y h0) := by
  refine Met.of_go pn_m_lc1 (fun mid => ef_m_lc1 mid a b kb y ) ?_
  intro hO hWS
  refine Go.aload_n (pc' := 1) d_jdk_56_method_3_0 rfl rfl rfl ?_
  refine Go.instNo (pc' := 4) d_jdk_56_method_3_1 rfl (w_74 hw) E_a (own_nsno (w_34 hw) (own_face_inst (w_222 hw)) (NS.step (w_75 hw) (NS.step (w_76 hw) (NS.step (w_77 hw) (own_root (w_78 hw) (own_face_inst (w_222 hw)) (by decide)) (by decide)) (by decide)) (by decide)) (by decide)) ?_
  refine Go.ifN (pc' := 7) d_jdk_56_method_3_4 rfl ((if0 _ _).trans (teq (rfl : (0 : Int32) = (0 : Int32))).2) ?_
  refine Go.aload_n (pc' := 8) d_jdk_56_method_3_7 rfl rfl rfl ?_
  refine Go.instNo (pc' := 11) d_jdk_56_method_3_8 rfl (w_79 hw) E_a (own_nsno (w_34 hw) (own_face_sel (w_98 hw)) (NS.step (w_75 hw) (NS.step (w_76 hw) (NS.step (w_77 hw) (own_root (w_78 hw) (own_face_sel (w_98 hw)) (by decide)) (by decide)) (by decide)) (by decide)) (by decide)) ?_
  refine Go.ifY (pc' := 31) d_jdk_56_method_3_11 (by decide) (by decide) ((if0 _ _).trans (teq (rfl : (0 : Int32) = (0 : Int32))).1) ?_
  refine Go.aload_n (pc' := 32) d_jdk_56_method_3_31 rfl rfl rfl ?_
  refine Go.callF (pc' := 37) (u := N_25) (z := N_23) (a := a) d_jdk_56_method_3_32 rfl (w_80 hw) (w_81 hw) (w_82 hw) (w_83 hw) (w_84 hw) (w_85 hw) (w_86 hw) (w_87 hw) (by decide) E_a (argsL := []) (rest := []) (Pays.of_met (W := 0) (len := 5) (m_alE1 hw hs a h0 F_a_size) (w_88 hw) (w_35 hw) (by decide) (by decide)) rfl rfl (lenOf pd_13 rfl) rfl (Nat.le_of_eq rfl) mem0 (by decide) (by decide) ?_
  rintro _ _ _ - - ⟨rfl, rfl, rfl⟩
  change Go _ _ _ _ _ _ _ _ _ _ _ _ _ _ [] h0 0 0 37 #[.val (.ref a), .unset] [(.int (0 : Int32))]
  refine Go.ifY (pc' := 44) d_jdk_56_method_3_37 (by decide) (by decide) ((if0 _ _).trans (teq (rfl : (0 : Int32) = (0 : Int32))).1) ?_
  refine Go.aload_n (pc' := 45) d_jdk_56_method_3_44 rfl rfl rfl ?_
  refine Go.callF (pc' := 50) (u := N_27) (z := N_22) (a := a) d_jdk_56_method_3_45 rfl (w_188 hw) (w_189 hw) (w_190 hw) (w_191 hw) (w_192 hw) (w_193 hw) (w_194 hw) (w_87 hw) (by decide) E_a (argsL := []) (rest := []) (Pays.of_met (W := 0) (len := 5) (m_toArr hw hs a b kb y h0 E_a F_a_size F_a_elementData V_b E_b E_y) (w_195 hw) (w_35 hw) (by decide) (by decide)) rfl rfl (lenOf pd_7 rfl) rfl (Nat.le_of_eq rfl) mem0 (by decide) (by decide) ?_
  rintro _ h122 _ K123 le124 ⟨b120, q121, rfl, rfl, p125, p126⟩
  have o_a_b120 : a ≠ b120 := Nat.ne_of_lt (Nat.lt_of_lt_of_le E_a.lt p125)
  have o_b_b120 : b ≠ b120 := Nat.ne_of_lt (Nat.lt_of_lt_of_le V_b.lt p125)
  have o_y_b120 : y ≠ b120 := Nat.ne_of_lt (Nat.lt_of_lt_of_le E_y.lt p125)
  have ge_b120 := Nat.le_trans le124 p125
  replace E_a := E_a.keep K123
  replace F_a_size := F_a_size.keep K123 nin0
  replace F_a_elementData := F_a_elementData.keep K123 nin0
  replace V_b := V_b.keep K123 nin0
  replace E_b := E_b.keep K123
  replace E_y := E_y.keep K123
  have V_b120 := p126
  change Go _ _ _ _ _ _ _ _ _ _ _ _ _ _ [] h122 1 1 50 #[.val (.ref a), .unset] [(.ref b120)]
  refine Go.callS (pc' := 53) (z := N_19) d_jdk_56_method_3_50 rfl (w_218 hw) (w_219 hw) (w_68 hw) (w_220 hw) (by decide) (argsL := [(.ref b120)]) (rest := []) (Pays.of_met (W := 0) (len := 3) (m_of1 hw hs b120 q121 y h122 V_b120) (w_220 hw) (w_68 hw) (by decide) (by decide)) rfl rfl (lenOf pd_15 rfl) rfl (Nat.le_of_eq rfl) mem0 (by decide) (by decide) ?_
  rintro _ h128 _ K129 le130 ⟨b127, rfl, rfl, p131⟩
  replace E_a := E_a.keep K129
  replace F_a_size := F_a_size.keep K129 nin0
  replace F_a_elementData := F_a_elementData.keep K129 nin0
  replace V_b := V_b.keep K129 nin0
  replace E_b := E_b.keep K129
  replace E_y := E_y.keep K129
  replace V_b120 := V_b120.keep K129 nin0
  change Go _ _ _ _ _ _ _ _ _ _ _ _ _ _ [] h128 2 3 53 #[.val (.ref a), .unset] [(.ref b127)]
  exact Go.retA d_jdk_56_method_3_53 rfl rfl rfl (by decide) (by decide) [] sn0 ⟨b127, rfl, rfl, trivial⟩
abbrev R_m_co0 : Room := { frames := 2, cells := 0, slots := 0, locals := 25 }
theorem pn_m_co0 : plainFor (⟨"java/util/List", "copyOf", "(Ljava/util/Collection;)Ljava/util/List;"⟩ : MethodName) = true := by first | (refine plainFor_of_name ?_; simp [plainName, overriddenIn]; done) | decide +kernel
abbrev Q_m_co0 (Z : State) (a : Addr) (h0 : Heap) : Option Value → Heap → List Addr → Prop := fun res h' SN => res = some (.ref (stRef Z "java/util/ImmutableCollections" "EMPTY_LIST" "Ljava/util/ImmutableCollections$ListN;")) ∧ SN = [] ∧ h0 = h'
theorem ef_m_co0 (mid : MethodId) (a : Addr) : entryFrame mid #[(.ref a)] 1 = mkF mid 0 #[.val (.ref a)] [] := by first | (simp [entryFrame, mkF, argsToLocals, Value.category]; done) | rfl
set_option maxRecDepth 65536 in
set_option maxHeartbeats 40000000 in
theorem m_co0 {l : Launch} {Z : State} {a0 : Array Value} {n0 : Nat} (hw : ∀ d ∈ tables_1, d.before a0 Z = true) (hs : Stat Z) (a : Addr) (h0 : Heap) (E_a : Exa Z h0 a "java/util/ArrayList") (F_a_size : Fld Z h0 a "java/util/ArrayList" "size" "I" (.int (0 : Int32))) :
    Met l Z EL0 n0 NR0 KN0 N_28 jdk_40_method_48_code 1 (Option.some (Jvm.ClassFile.FieldType.object "java/util/List")) R_m_co0 [] #[(.ref a)] h0 (Q_m_co0 Z a h0) := by
  refine Met.of_go pn_m_co0 (fun mid => ef_m_co0 mid a ) ?_
  intro hO hWS
  refine Go.aload_n (pc' := 1) d_jdk_40_method_48_0 rfl rfl rfl ?_
  refine Go.callS (pc' := 4) (z := N_26) d_jdk_40_method_48_1 rfl (w_70 hw) (w_71 hw) (w_72 hw) (w_73 hw) (by decide) (argsL := [(.ref a)]) (rest := []) (Pays.of_met (W := 0) (len := 3) (m_lc0 hw hs a h0 E_a F_a_size) (w_73 hw) (w_72 hw) (by decide) (by decide)) rfl rfl (lenOf pd_16 rfl) rfl (Nat.le_of_eq rfl) mem0 (by decide) (by decide) ?_
  rintro _ _ _ - - ⟨rfl, rfl, rfl⟩
  change Go _ _ _ _ _ _ _ _ _ _ _ _ _ _ [] h0 0 0 4 #[.val (.ref a)] [(.ref (stRef Z "java/util/ImmutableCollections" "EMPTY_LIST" "Ljava/util/ImmutableCollections$ListN;"))]
  exact Go.retA d_jdk_40_method_48_4 rfl rfl rfl (by decide) (by decide) [] sn0 ⟨rfl, rfl, rfl⟩
abbrev R_m_co1 : Room := { frames := 7, cells := 2, slots := 3, locals := 88 }
theorem pn_m_co1 : plainFor (⟨"java/util/List", "copyOf", "(Ljava/util/Collection;)Ljava/util/List;"⟩ : MethodName) = true := by first | (refine plainFor_of_name ?_; simp [plainName, overriddenIn]; done) | decide +kernel
abbrev Q_m_co1 (Z : State) (a : Addr) (b : Addr) (kb : ClassId) (y : Addr) (h0 : Heap) : Option Value → Heap → List Addr → Prop := fun res h' SN => ∃ (u : Addr), res = some (.ref u) ∧ SN = [] ∧ True
theorem ef_m_co1 (mid : MethodId) (a : Addr) (b : Addr) (kb : ClassId) (y : Addr) : entryFrame mid #[(.ref a)] 1 = mkF mid 0 #[.val (.ref a)] [] := by first | (simp [entryFrame, mkF, argsToLocals, Value.category]; done) | rfl
set_option maxRecDepth 65536 in
set_option maxHeartbeats 40000000 in
theorem m_co1 {l : Launch} {Z : State} {a0 : Array Value} {n0 : Nat} (hw : ∀ d ∈ tables_1, d.before a0 Z = true) (hs : Stat Z) (a : Addr) (b : Addr) (kb : ClassId) (y : Addr) (h0 : Heap) (E_a : Exa Z h0 a "java/util/ArrayList") (F_a_size : Fld Z h0 a "java/util/ArrayList" "size" "I" (.int (1 : Int32))) (F_a_elementData : Fld Z h0 a "java/util/ArrayList" "elementData" "[Ljava/lang/Object;" (.ref b)) (V_b : Arv Z h0 b kb (.object "java/lang/Object") (10 : Int32) [(.ref y), .null, .null, .null, .null, .null, .null, .null, .null, .null] .null) (E_b : Exa Z h0 b "[Ljava/lang/Object;") (E_y : Exa Z h0 y "com/example/sumgen/sumgen/model/Field") :
    Met l Z EL0 n0 NR0 KN0 N_28 jdk_40_method_48_code 1 (Option.some (Jvm.ClassFile.FieldType.object "java/util/List")) R_m_co1 [] #[(.ref a)] h0 (Q_m_co1 Z a b kb y h0) := by
  refine Met.of_go pn_m_co1 (fun mid => ef_m_co1 mid a b kb y ) ?_
  intro hO hWS
  refine Go.aload_n (pc' := 1) d_jdk_40_method_48_0 rfl rfl rfl ?_
  refine Go.callS (pc' := 4) (z := N_26) d_jdk_40_method_48_1 rfl (w_70 hw) (w_71 hw) (w_72 hw) (w_73 hw) (by decide) (argsL := [(.ref a)]) (rest := []) (Pays.of_met (W := 0) (len := 3) (m_lc1 hw hs a b kb y h0 E_a F_a_size F_a_elementData V_b E_b E_y) (w_73 hw) (w_72 hw) (by decide) (by decide)) rfl rfl (lenOf pd_16 rfl) rfl (Nat.le_of_eq rfl) mem0 (by decide) (by decide) ?_
  rintro _ h133 _ K134 le135 ⟨b132, rfl, rfl, p136⟩
  replace E_a := E_a.keep K134
  replace F_a_size := F_a_size.keep K134 nin0
  replace F_a_elementData := F_a_elementData.keep K134 nin0
  replace V_b := V_b.keep K134 nin0
  replace E_b := E_b.keep K134
  replace E_y := E_y.keep K134
  change Go _ _ _ _ _ _ _ _ _ _ _ _ _ _ [] h133 2 3 4 #[.val (.ref a)] [(.ref b132)]
  exact Go.retA d_jdk_40_method_48_4 rfl rfl rfl (by decide) (by decide) [] sn0 ⟨b132, rfl, rfl, trivial⟩
abbrev R_m_field : Room := { frames := 2, cells := 0, slots := 0, locals := 24 }
theorem pn_m_field : plainFor (⟨"com/example/sumgen/sumgen/model/Field", "<init>", "(Ljava/lang/String;Lcom/example/sumgen/sumgen/model/FieldType;Lcom/example/sumgen/sumgen/model/Field$Multiplicity;Lcom/example/sumgen/sumgen/model/Place;)V"⟩ : MethodName) = true := by first | (refine plainFor_of_name ?_; simp [plainName, overriddenIn]; done) | decide +kernel
abbrev Q_m_field (Z : State) (a : Addr) (s : Addr) (h0 : Heap) : Option Value → Heap → List Addr → Prop := fun res h' SN => res = none ∧ SN = [] ∧ Exa Z h' a "com/example/sumgen/sumgen/model/Field"
theorem ef_m_field (mid : MethodId) (a : Addr) (s : Addr) : entryFrame mid #[(.ref a), (.ref s), .null, .null, .null] 5 = mkF mid 0 #[.val (.ref a), .val (.ref s), .val .null, .val .null, .val .null] [] := by first | (simp [entryFrame, mkF, argsToLocals, Value.category]; done) | rfl
set_option maxRecDepth 65536 in
set_option maxHeartbeats 40000000 in
theorem m_field {l : Launch} {Z : State} {a0 : Array Value} {n0 : Nat} (hw : ∀ d ∈ tables_1, d.before a0 Z = true) (hs : Stat Z) (a : Addr) (s : Addr) (h0 : Heap) (E_a : Exa Z h0 a "com/example/sumgen/sumgen/model/Field") (F_a_name : Fld Z h0 a "com/example/sumgen/sumgen/model/Field" "name" "Ljava/lang/String;" .null) (F_a_type : Fld Z h0 a "com/example/sumgen/sumgen/model/Field" "type" "Lcom/example/sumgen/sumgen/model/FieldType;" .null) (F_a_multiplicity : Fld Z h0 a "com/example/sumgen/sumgen/model/Field" "multiplicity" "Lcom/example/sumgen/sumgen/model/Field$Multiplicity;" .null) (F_a_place : Fld Z h0 a "com/example/sumgen/sumgen/model/Field" "place" "Lcom/example/sumgen/sumgen/model/Place;" .null) :
    Met l Z EL0 n0 NR0 KN0 N_29 prog_14_method_1_code 5 (Option.none : Option Jvm.ClassFile.FieldType) R_m_field [a] #[(.ref a), (.ref s), .null, .null, .null] h0 (Q_m_field Z a s h0) := by
  refine Met.of_go pn_m_field (fun mid => ef_m_field mid a s ) ?_
  intro hO hWS
  refine Go.aload_n (pc' := 1) d_prog_14_method_1_0 rfl rfl rfl ?_
  refine Go.callI (pc' := 4) (z := N_0) (a := a) d_prog_14_method_1_1 rfl rfl (w_150 hw) (w_61 hw) (w_64 hw) (by decide) (argsL := []) (rest := []) (Pays.of_met (W := 0) (len := 3) (m_record hw hs a h0) (w_64 hw) (w_63 hw) (by decide) (by decide)) rfl rfl (lenOf pd_4 rfl) rfl (Nat.le_of_eq rfl) mem0 (by decide) (by decide) ?_
  rintro _ _ _ - - ⟨rfl, rfl, rfl⟩
  change Go _ _ _ _ _ _ _ _ _ _ _ _ _ _ [a] h0 0 0 4 #[.val (.ref a), .val (.ref s), .val .null, .val .null, .val .null] []
  refine Go.aload_n (pc' := 5) d_prog_14_method_1_4 rfl rfl rfl ?_
  refine Go.aload_n (pc' := 6) d_prog_14_method_1_5 rfl rfl rfl ?_
  refine Go.putF (pc' := 9) d_prog_14_method_1_6 rfl (List.mem_of_getElem? (i := 0) rfl) (host := "") (Or.inl (w_151 hw)) Via.refl F_a_name E_a (Or.inr ⟨(w_152 hw), rfl, rfl⟩) (w_145 hw) (ty := (.object "java/lang/String")) (by decide) rfl rfl ?_
  intro h137 W138
  replace F_a_name := F_a_name.same W138
  replace E_a := E_a.wr W138
  replace F_a_type := F_a_type.other W138 (Or.inr (slot_ne (Or.inr (w_154 hw)) (Or.inr (w_152 hw)) (by decide) (t := (.object "com/example/sumgen/sumgen/model/FieldType")) (t' := (.object "java/lang/String")) (by decide) (by decide)))
  replace F_a_multiplicity := F_a_multiplicity.other W138 (Or.inr (slot_ne (Or.inr (w_156 hw)) (Or.inr (w_152 hw)) (by decide) (t := (.object "com/example/sumgen/sumgen/model/Field$Multiplicity")) (t' := (.object "java/lang/String")) (by decide) (by decide)))
  replace F_a_place := F_a_place.other W138 (Or.inr (slot_ne (Or.inr (w_158 hw)) (Or.inr (w_152 hw)) (by decide) (t := (.object "com/example/sumgen/sumgen/model/Place")) (t' := (.object "java/lang/String")) (by decide) (by decide)))
  change Go _ _ _ _ _ _ _ _ _ _ _ _ _ _ [a] h137 0 0 9 #[.val (.ref a), .val (.ref s), .val .null, .val .null, .val .null] []
  refine Go.aload_n (pc' := 10) d_prog_14_method_1_9 rfl rfl rfl ?_
  refine Go.aload_n (pc' := 11) d_prog_14_method_1_10 rfl rfl rfl ?_
  refine Go.putF (pc' := 14) d_prog_14_method_1_11 rfl (List.mem_of_getElem? (i := 0) rfl) (host := "") (Or.inl (w_153 hw)) Via.refl F_a_type E_a (Or.inr ⟨(w_154 hw), rfl, rfl⟩) (w_145 hw) (ty := (.object "com/example/sumgen/sumgen/model/FieldType")) (by decide) rfl rfl ?_
  intro h139 W140
  replace F_a_type := F_a_type.same W140
  replace E_a := E_a.wr W140
  replace F_a_multiplicity := F_a_multiplicity.other W140 (Or.inr (slot_ne (Or.inr (w_156 hw)) (Or.inr (w_154 hw)) (by decide) (t := (.object "com/example/sumgen/sumgen/model/Field$Multiplicity")) (t' := (.object "com/example/sumgen/sumgen/model/FieldType")) (by decide) (by decide)))
  replace F_a_place := F_a_place.other W140 (Or.inr (slot_ne (Or.inr (w_158 hw)) (Or.inr (w_154 hw)) (by decide) (t := (.object "com/example/sumgen/sumgen/model/Place")) (t' := (.object "com/example/sumgen/sumgen/model/FieldType")) (by decide) (by decide)))
  replace F_a_name := F_a_name.other W140 (Or.inr (slot_ne (Or.inr (w_152 hw)) (Or.inr (w_154 hw)) (by decide) (t := (.object "java/lang/String")) (t' := (.object "com/example/sumgen/sumgen/model/FieldType")) (by decide) (by decide)))
  change Go _ _ _ _ _ _ _ _ _ _ _ _ _ _ [a] h139 0 0 14 #[.val (.ref a), .val (.ref s), .val .null, .val .null, .val .null] []
  refine Go.aload_n (pc' := 15) d_prog_14_method_1_14 rfl rfl rfl ?_
  refine Go.aload_n (pc' := 16) d_prog_14_method_1_15 rfl rfl rfl ?_
  refine Go.putF (pc' := 19) d_prog_14_method_1_16 rfl (List.mem_of_getElem? (i := 0) rfl) (host := "") (Or.inl (w_155 hw)) Via.refl F_a_multiplicity E_a (Or.inr ⟨(w_156 hw), rfl, rfl⟩) (w_145 hw) (ty := (.object "com/example/sumgen/sumgen/model/Field$Multiplicity")) (by decide) rfl rfl ?_
  intro h141 W142
  replace F_a_multiplicity := F_a_multiplicity.same W142
  replace E_a := E_a.wr W142
  replace F_a_place := F_a_place.other W142 (Or.inr (slot_ne (Or.inr (w_158 hw)) (Or.inr (w_156 hw)) (by decide) (t := (.object "com/example/sumgen/sumgen/model/Place")) (t' := (.object "com/example/sumgen/sumgen/model/Field$Multiplicity")) (by decide) (by decide)))
  replace F_a_name := F_a_name.other W142 (Or.inr (slot_ne (Or.inr (w_152 hw)) (Or.inr (w_156 hw)) (by decide) (t := (.object "java/lang/String")) (t' := (.object "com/example/sumgen/sumgen/model/Field$Multiplicity")) (by decide) (by decide)))
  replace F_a_type := F_a_type.other W142 (Or.inr (slot_ne (Or.inr (w_154 hw)) (Or.inr (w_156 hw)) (by decide) (t := (.object "com/example/sumgen/sumgen/model/FieldType")) (t' := (.object "com/example/sumgen/sumgen/model/Field$Multiplicity")) (by decide) (by decide)))
  change Go _ _ _ _ _ _ _ _ _ _ _ _ _ _ [a] h141 0 0 19 #[.val (.ref a), .val (.ref s), .val .null, .val .null, .val .null] []
  refine Go.aload_n (pc' := 20) d_prog_14_method_1_19 rfl rfl rfl ?_
  refine Go.aload (pc' := 22) d_prog_14_method_1_20 rfl rfl rfl ?_
  refine Go.putF (pc' := 25) d_prog_14_method_1_22 rfl (List.mem_of_getElem? (i := 0) rfl) (host := "") (Or.inl (w_157 hw)) Via.refl F_a_place E_a (Or.inr ⟨(w_158 hw), rfl, rfl⟩) (w_145 hw) (ty := (.object "com/example/sumgen/sumgen/model/Place")) (by decide) rfl rfl ?_
  intro h143 W144
  replace F_a_place := F_a_place.same W144
  replace E_a := E_a.wr W144
  replace F_a_name := F_a_name.other W144 (Or.inr (slot_ne (Or.inr (w_152 hw)) (Or.inr (w_158 hw)) (by decide) (t := (.object "java/lang/String")) (t' := (.object "com/example/sumgen/sumgen/model/Place")) (by decide) (by decide)))
  replace F_a_type := F_a_type.other W144 (Or.inr (slot_ne (Or.inr (w_154 hw)) (Or.inr (w_158 hw)) (by decide) (t := (.object "com/example/sumgen/sumgen/model/FieldType")) (t' := (.object "com/example/sumgen/sumgen/model/Place")) (by decide) (by decide)))
  replace F_a_multiplicity := F_a_multiplicity.other W144 (Or.inr (slot_ne (Or.inr (w_156 hw)) (Or.inr (w_158 hw)) (by decide) (t := (.object "com/example/sumgen/sumgen/model/Field$Multiplicity")) (t' := (.object "com/example/sumgen/sumgen/model/Place")) (by decide) (by decide)))
  change Go _ _ _ _ _ _ _ _ _ _ _ _ _ _ [a] h143 0 0 25 #[.val (.ref a), .val (.ref s), .val .null, .val .null, .val .null] []
  exact Go.retV d_prog_14_method_1_25 rfl (by decide) (by decide) [] sn0 ⟨rfl, rfl, E_a⟩
abbrev R_m_lnE : Room := { frames := 0, cells := 0, slots := 0, locals := 0 }
theorem pn_m_lnE : plainFor (⟨"java/util/ImmutableCollections$ListN", "isEmpty", "()Z"⟩ : MethodName) = true := by first | (refine plainFor_of_name ?_; simp [plainName, overriddenIn]; done) | decide +kernel
abbrev Q_m_lnE (Z : State) (a : Addr) (te : Addr) (ke : ClassId) (h0 : Heap) : Option Value → Heap → List Addr → Prop := fun res h' SN => res = some (.int (1 : Int32)) ∧ SN = [] ∧ h0 = h'
theorem ef_m_lnE (mid : MethodId) (a : Addr) (te : Addr) (ke : ClassId) : entryFrame mid #[(.ref a)] 1 = mkF mid 0 #[.val (.ref a)] [] := by first | (simp [entryFrame, mkF, argsToLocals, Value.category]; done) | rfl
set_option maxRecDepth 65536 in
set_option maxHeartbeats 40000000 in
theorem m_lnE {l : Launch} {Z : State} {a0 : Array Value} {n0 : Nat} (hw : ∀ d ∈ tables_1, d.before a0 Z = true) (hs : Stat Z) (a : Addr) (te : Addr) (ke : ClassId) (h0 : Heap) (F_a_elements : Fld Z h0 a "java/util/ImmutableCollections$ListN" "elements" "[Ljava/lang/Object;" (.ref te)) (V_te : Arv Z h0 te ke (.object "java/lang/Object") (0 : Int32) [] .null) :
    Met l Z EL0 n0 NR0 KN0 N_30 jdk_45_method_2_code 1 (Option.some Jvm.ClassFile.FieldType.boolean) R_m_lnE [] #[(.ref a)] h0 (Q_m_lnE Z a te ke h0) := by
  refine Met.of_go pn_m_lnE (fun mid => ef_m_lnE mid a te ke ) ?_
  intro hO hWS
  refine Go.aload_n (pc' := 1) d_jdk_45_method_2_0 rfl rfl rfl ?_
  refine Go.getF (pc' := 4) d_jdk_45_method_2_1 rfl (host := "") (Or.inl (w_105 hw)) Via.refl F_a_elements ?_
  refine Go.lenV (pc' := 5) d_jdk_45_method_2_4 rfl V_te ?_
  refine Go.ifN (pc' := 8) d_jdk_45_method_2_5 rfl ((if0 _ _).trans (teq (rfl : (0 : Int32) = (0 : Int32))).2) ?_
  refine Go.iconst (pc' := 9) d_jdk_45_method_2_8 rfl ic_1 ?_
  refine Go.goto (pc' := 13) d_jdk_45_method_2_9 (by decide) (by decide) ?_
  exact Go.retS (ty := .boolean) d_jdk_45_method_2_13 rfl (by simp) rfl (by decide) (by decide) [] sn0 ⟨rfl, rfl, rfl⟩
abbrev R_m_sum : Room := { frames := 3, cells := 0, slots := 0, locals := 37 }
theorem pn_m_sum : plainFor (⟨"com/example/sumgen/sumgen/model/SumType", "<init>", "(Ljava/lang/String;Ljava/lang/String;Ljava/util/List;Ljava/util/List;Lcom/example/sumgen/sumgen/model/Place;Lcom/example/sumgen/sumgen/model/Place;)V"⟩ : MethodName) = true := by first | (refine plainFor_of_name ?_; simp [plainName, overriddenIn]; done) | decide +kernel
abbrev Q_m_sum (Z : State) (a : Addr) (s : Addr) (la : Addr) (lb : Addr) (h0 : Heap) : Option Value → Heap → List Addr → Prop := fun res h' SN => res = none ∧ SN = [] ∧ Exa Z h' a "com/example/sumgen/sumgen/model/SumType"
theorem ef_m_sum (mid : MethodId) (a : Addr) (s : Addr) (la : Addr) (lb : Addr) : entryFrame mid #[(.ref a), (.ref s), .null, (.ref la), (.ref lb), .null, .null] 7 = mkF mid 0 #[.val (.ref a), .val (.ref s), .val .null, .val (.ref la), .val (.ref lb), .val .null, .val .null] [] := by first | (simp [entryFrame, mkF, argsToLocals, Value.category]; done) | rfl
set_option maxRecDepth 65536 in
set_option maxHeartbeats 40000000 in
theorem m_sum {l : Launch} {Z : State} {a0 : Array Value} {n0 : Nat} (hw : ∀ d ∈ tables_1, d.before a0 Z = true) (hs : Stat Z) (a : Addr) (s : Addr) (la : Addr) (lb : Addr) (h0 : Heap) (E_a : Exa Z h0 a "com/example/sumgen/sumgen/model/SumType") (F_a_name : Fld Z h0 a "com/example/sumgen/sumgen/model/SumType" "name" "Ljava/lang/String;" .null) (F_a_tag : Fld Z h0 a "com/example/sumgen/sumgen/model/SumType" "tag" "Ljava/lang/String;" .null) (F_a_commonFields : Fld Z h0 a "com/example/sumgen/sumgen/model/SumType" "commonFields" "Ljava/util/List;" .null) (F_a_variants : Fld Z h0 a "com/example/sumgen/sumgen/model/SumType" "variants" "Ljava/util/List;" .null) (F_a_place : Fld Z h0 a "com/example/sumgen/sumgen/model/SumType" "place" "Lcom/example/sumgen/sumgen/model/Place;" .null) (F_a_tagPlace : Fld Z h0 a "com/example/sumgen/sumgen/model/SumType" "tagPlace" "Lcom/example/sumgen/sumgen/model/Place;" .null) (E_la : Exa Z h0 la "java/util/ArrayList") (F_la_size : Fld Z h0 la "java/util/ArrayList" "size" "I" (.int (0 : Int32))) (E_lb : Exa Z h0 lb "java/util/ArrayList") (F_lb_size : Fld Z h0 lb "java/util/ArrayList" "size" "I" (.int (0 : Int32))) :
    Met l Z EL0 n0 NR0 KN0 N_32 prog_25_method_1_code 7 (Option.none : Option Jvm.ClassFile.FieldType) R_m_sum [a] #[(.ref a), (.ref s), .null, (.ref la), (.ref lb), .null, .null] h0 (Q_m_sum Z a s la lb h0) := by
  refine Met.of_go pn_m_sum (fun mid => ef_m_sum mid a s la lb ) ?_
  intro hO hWS
  refine Go.aload_n (pc' := 1) d_prog_25_method_1_0 rfl rfl rfl ?_
  refine Go.callI (pc' := 4) (z := N_0) (a := a) d_prog_25_method_1_1 rfl rfl (w_60 hw) (w_61 hw) (w_64 hw) (by decide) (argsL := []) (rest := []) (Pays.of_met (W := 0) (len := 3) (m_record hw hs a h0) (w_64 hw) (w_63 hw) (by decide) (by decide)) rfl rfl (lenOf pd_4 rfl) rfl (Nat.le_of_eq rfl) mem0 (by decide) (by decide) ?_
  rintro _ _ _ - - ⟨rfl, rfl, rfl⟩
  change Go _ _ _ _ _ _ _ _ _ _ _ _ _ _ [a] h0 0 0 4 #[.val (.ref a), .val (.ref s), .val .null, .val (.ref la), .val (.ref lb), .val .null, .val .null] []
  refine Go.aload_n (pc' := 5) d_prog_25_method_1_4 rfl rfl rfl ?_
  refine Go.callS (pc' := 8) (z := N_28) d_prog_25_method_1_5 rfl (w_66 hw) (w_67 hw) (w_68 hw) (w_69 hw) (by decide) (argsL := [(.ref la)]) (rest := []) (Pays.of_met (W := 0) (len := 3) (m_co0 hw hs la h0 E_la F_la_size) (w_69 hw) (w_68 hw) (by decide) (by decide)) rfl rfl (lenOf pd_16 rfl) rfl (Nat.le_of_eq rfl) mem0 (by decide) (by decide) ?_
  rintro _ _ _ - - ⟨rfl, rfl, rfl⟩
  change Go _ _ _ _ _ _ _ _ _ _ _ _ _ _ [a] h0 0 0 8 #[.val (.ref a), .val (.ref s), .val .null, .val (.ref la), .val (.ref lb), .val .null, .val .null] [(.ref (stRef Z "java/util/ImmutableCollections" "EMPTY_LIST" "Ljava/util/ImmutableCollections$ListN;"))]
  refine Go.astore_n (pc' := 9) (Ls' := #[.val (.ref a), .val (.ref s), .val .null, .val (.ref (stRef Z "java/util/ImmutableCollections" "EMPTY_LIST" "Ljava/util/ImmutableCollections$ListN;")), .val (.ref lb), .val .null, .val .null]) d_prog_25_method_1_8 rfl rfl rfl ?_
  refine Go.aload (pc' := 11) d_prog_25_method_1_9 rfl rfl rfl ?_
  refine Go.callS (pc' := 14) (z := N_28) d_prog_25_method_1_11 rfl (w_66 hw) (w_67 hw) (w_68 hw) (w_69 hw) (by decide) (argsL := [(.ref lb)]) (rest := []) (Pays.of_met (W := 0) (len := 3) (m_co0 hw hs lb h0 E_lb F_lb_size) (w_69 hw) (w_68 hw) (by decide) (by decide)) rfl rfl (lenOf pd_16 rfl) rfl (Nat.le_of_eq rfl) mem0 (by decide) (by decide) ?_
  rintro _ _ _ - - ⟨rfl, rfl, rfl⟩
  change Go _ _ _ _ _ _ _ _ _ _ _ _ _ _ [a] h0 0 0 14 #[.val (.ref a), .val (.ref s), .val .null, .val (.ref (stRef Z "java/util/ImmutableCollections" "EMPTY_LIST" "Ljava/util/ImmutableCollections$ListN;")), .val (.ref lb), .val .null, .val .null] [(.ref (stRef Z "java/util/ImmutableCollections" "EMPTY_LIST" "Ljava/util/ImmutableCollections$ListN;"))]
  refine Go.astore (pc' := 16) (Ls' := #[.val (.ref a), .val (.ref s), .val .null, .val (.ref (stRef Z "java/util/ImmutableCollections" "EMPTY_LIST" "Ljava/util/ImmutableCollections$ListN;")), .val (.ref (stRef Z "java/util/ImmutableCollections" "EMPTY_LIST" "Ljava/util/ImmutableCollections$ListN;")), .val .null, .val .null]) d_prog_25_method_1_14 rfl rfl rfl ?_
  refine Go.aload (pc' := 18) d_prog_25_method_1_16 rfl rfl rfl ?_
  refine Go.inv (fun hO145 _ _ => ?_)
  obtain ⟨-, E_el, te, ke, F_te, V_te⟩ := hs_e hs
  replace E_el := E_el.ext hO145.2
  replace F_te := F_te.ext hO145.2
  replace V_te := V_te.ext hO145.2
  refine Go.callF (pc' := 23) (u := N_31) (z := N_30) (a := (stRef Z "java/util/ImmutableCollections" "EMPTY_LIST" "Ljava/util/ImmutableCollections$ListN;")) d_prog_25_method_1_18 rfl (w_95 hw) (w_96 hw) (w_97 hw) (w_98 hw) (w_99 hw) (w_100 hw) (w_101 hw) (w_102 hw) (by decide) E_el (argsL := []) (rest := []) (Pays.of_met (W := 0) (len := 5) (m_lnE hw hs (stRef Z "java/util/ImmutableCollections" "EMPTY_LIST" "Ljava/util/ImmutableCollections$ListN;") te ke h0 F_te V_te) (w_104 hw) (w_103 hw) (by decide) (by decide)) rfl rfl (lenOf pd_13 rfl) rfl (Nat.le_of_eq rfl) mem0 (by decide) (by decide) ?_
  rintro _ _ _ - - ⟨rfl, rfl, rfl⟩
  change Go _ _ _ _ _ _ _ _ _ _ _ _ _ _ [a] h0 0 0 23 #[.val (.ref a), .val (.ref s), .val .null, .val (.ref (stRef Z "java/util/ImmutableCollections" "EMPTY_LIST" "Ljava/util/ImmutableCollections$ListN;")), .val (.ref (stRef Z "java/util/ImmutableCollections" "EMPTY_LIST" "Ljava/util/ImmutableCollections$ListN;")), .val .null, .val .null] [(.int (1 : Int32))]
  refine Go.aload_n (pc' := 24) d_prog_25_method_1_23 rfl rfl rfl ?_
  refine Go.ifnonnullN (pc' := 27) d_prog_25_method_1_24 rfl ?_
  refine Go.iconst (pc' := 28) d_prog_25_method_1_27 rfl ic_1 ?_
  refine Go.goto (pc' := 32) d_prog_25_method_1_28 (by decide) (by decide) ?_
  refine Go.icmpY (pc' := 49) d_prog_25_method_1_32 (by decide) (by decide) (teq (rfl : (1 : Int32) = (1 : Int32))).1 ?_
  refine Go.aload_n (pc' := 50) d_prog_25_method_1_49 rfl rfl rfl ?_
  refine Go.aload_n (pc' := 51) d_prog_25_method_1_50 rfl rfl rfl ?_
  refine Go.putF (pc' := 54) d_prog_25_method_1_51 rfl (List.mem_of_getElem? (i := 0) rfl) (host := "") (Or.inl (w_107 hw)) Via.refl F_a_name E_a (Or.inr ⟨(w_108 hw), rfl, rfl⟩) (w_31 hw) (ty := (.object "java/lang/String")) (by decide) rfl rfl ?_
  intro h146 W147
  replace F_a_name := F_a_name.same W147
  replace E_a := E_a.wr W147
  replace F_a_tag := F_a_tag.other W147 (Or.inr (slot_ne (Or.inr (w_110 hw)) (Or.inr (w_108 hw)) (by decide) (t := (.object "java/lang/String")) (t' := (.object "java/lang/String")) (by decide) (by decide)))
  replace F_a_commonFields := F_a_commonFields.other W147 (Or.inr (slot_ne (Or.inr (w_112 hw)) (Or.inr (w_108 hw)) (by decide) (t := (.object "java/util/List")) (t' := (.object "java/lang/String")) (by decide) (by decide)))
  replace F_a_variants := F_a_variants.other W147 (Or.inr (slot_ne (Or.inr (w_114 hw)) (Or.inr (w_108 hw)) (by decide) (t := (.object "java/util/List")) (t' := (.object "java/lang/String")) (by decide) (by decide)))
  replace F_a_place := F_a_place.other W147 (Or.inr (slot_ne (Or.inr (w_116 hw)) (Or.inr (w_108 hw)) (by decide) (t := (.object "com/example/sumgen/sumgen/model/Place")) (t' := (.object "java/lang/String")) (by decide) (by decide)))
  replace F_a_tagPlace := F_a_tagPlace.other W147 (Or.inr (slot_ne (Or.inr (w_118 hw)) (Or.inr (w_108 hw)) (by decide) (t := (.object "com/example/sumgen/sumgen/model/Place")) (t' := (.object "java/lang/String")) (by decide) (by decide)))
  replace E_la := E_la.wr W147
  replace E_lb := E_lb.wr W147
  change Go _ _ _ _ _ _ _ _ _ _ _ _ _ _ [a] h146 0 0 54 #[.val (.ref a), .val (.ref s), .val .null, .val (.ref (stRef Z "java/util/ImmutableCollections" "EMPTY_LIST" "Ljava/util/ImmutableCollections$ListN;")), .val (.ref (stRef Z "java/util/ImmutableCollections" "EMPTY_LIST" "Ljava/util/ImmutableCollections$ListN;")), .val .null, .val .null] []
  refine Go.aload_n (pc' := 55) d_prog_25_method_1_54 rfl rfl rfl ?_
  refine Go.aload_n (pc' := 56) d_prog_25_method_1_55 rfl rfl rfl ?_
  refine Go.putF (pc' := 59) d_prog_25_method_1_56 rfl (List.mem_of_getElem? (i := 0) rfl) (host := "") (Or.inl (w_109 hw)) Via.refl F_a_tag E_a (Or.inr ⟨(w_110 hw), rfl, rfl⟩) (w_31 hw) (ty := (.object "java/lang/String")) (by decide) rfl rfl ?_
  intro h148 W149
  replace F_a_tag := F_a_tag.same W149
  replace E_a := E_a.wr W149
  replace F_a_commonFields := F_a_commonFields.other W149 (Or.inr (slot_ne (Or.inr (w_112 hw)) (Or.inr (w_110 hw)) (by decide) (t := (.object "java/util/List")) (t' := (.object "java/lang/String")) (by decide) (by decide)))
  replace F_a_variants := F_a_variants.other W149 (Or.inr (slot_ne (Or.inr (w_114 hw)) (Or.inr (w_110 hw)) (by decide) (t := (.object "java/util/List")) (t' := (.object "java/lang/String")) (by decide) (by decide)))
  replace F_a_place := F_a_place.other W149 (Or.inr (slot_ne (Or.inr (w_116 hw)) (Or.inr (w_110 hw)) (by decide) (t := (.object "com/example/sumgen/sumgen/model/Place")) (t' := (.object "java/lang/String")) (by decide) (by decide)))
  replace F_a_tagPlace := F_a_tagPlace.other W149 (Or.inr (slot_ne (Or.inr (w_118 hw)) (Or.inr (w_110 hw)) (by decide) (t := (.object "com/example/sumgen/sumgen/model/Place")) (t' := (.object "java/lang/String")) (by decide) (by decide)))
  replace E_la := E_la.wr W149
  replace E_lb := E_lb.wr W149
  replace F_a_name := F_a_name.other W149 (Or.inr (slot_ne (Or.inr (w_108 hw)) (Or.inr (w_110 hw)) (by decide) (t := (.object "java/lang/String")) (t' := (.object "java/lang/String")) (by decide) (by decide)))
  change Go _ _ _ _ _ _ _ _ _ _ _ _ _ _ [a] h148 0 0 59 #[.val (.ref a), .val (.ref s), .val .null, .val (.ref (stRef Z "java/util/ImmutableCollections" "EMPTY_LIST" "Ljava/util/ImmutableCollections$ListN;")), .val (.ref (stRef Z "java/util/ImmutableCollections" "EMPTY_LIST" "Ljava/util/ImmutableCollections$ListN;")), .val .null, .val .null] []
  refine Go.aload_n (pc' := 60) d_prog_25_method_1_59 rfl rfl rfl ?_
  refine Go.aload_n (pc' := 61) d_prog_25_method_1_60 rfl rfl rfl ?_
  refine Go.putF (pc' := 64) d_prog_25_method_1_61 rfl (List.mem_of_getElem? (i := 0) rfl) (host := "") (Or.inl (w_111 hw)) Via.refl F_a_commonFields E_a (Or.inr ⟨(w_112 hw), rfl, rfl⟩) (w_31 hw) (ty := (.object "java/util/List")) (by decide) rfl rfl ?_
  intro h150 W151
  replace F_a_commonFields := F_a_commonFields.same W151
  replace E_a := E_a.wr W151
  replace F_a_variants := F_a_variants.other W151 (Or.inr (slot_ne (Or.inr (w_114 hw)) (Or.inr (w_112 hw)) (by decide) (t := (.object "java/util/List")) (t' := (.object "java/util/List")) (by decide) (by decide)))
  replace F_a_place := F_a_place.other W151 (Or.inr (slot_ne (Or.inr (w_116 hw)) (Or.inr (w_112 hw)) (by decide) (t := (.object "com/example/sumgen/sumgen/model/Place")) (t' := (.object "java/util/List")) (by decide) (by decide)))
  replace F_a_tagPlace := F_a_tagPlace.other W151 (Or.inr (slot_ne (Or.inr (w_118 hw)) (Or.inr (w_112 hw)) (by decide) (t := (.object "com/example/sumgen/sumgen/model/Place")) (t' := (.object "java/util/List")) (by decide) (by decide)))
  replace E_la := E_la.wr W151
  replace E_lb := E_lb.wr W151
  replace F_a_name := F_a_name.other W151 (Or.inr (slot_ne (Or.inr (w_108 hw)) (Or.inr (w_112 hw)) (by decide) (t := (.object "java/lang/String")) (t' := (.object "java/util/List")) (by decide) (by decide)))
  replace F_a_tag := F_a_tag.other W151 (Or.inr (slot_ne (Or.inr (w_110 hw)) (Or.inr (w_112 hw)) (by decide) (t := (.object "java/lang/String")) (t' := (.object "java/util/List")) (by decide) (by decide)))
  change Go _ _ _ _ _ _ _ _ _ _ _ _ _ _ [a] h150 0 0 64 #[.val (.ref a), .val (.ref s), .val .null, .val (.ref (stRef Z "java/util/ImmutableCollections" "EMPTY_LIST" "Ljava/util/ImmutableCollections$ListN;")), .val (.ref (stRef Z "java/util/ImmutableCollections" "EMPTY_LIST" "Ljava/util/ImmutableCollections$ListN;")), .val .null, .val .null] []
  refine Go.aload_n (pc' := 65) d_prog_25_method_1_64 rfl rfl rfl ?_
  refine Go.aload (pc' := 67) d_prog_25_method_1_65 rfl rfl rfl ?_
  refine Go.putF (pc' := 70) d_prog_25_method_1_67 rfl (List.mem_of_getElem? (i := 0) rfl) (host := "") (Or.inl (w_113 hw)) Via.refl F_a_variants E_a (Or.inr ⟨(w_114 hw), rfl, rfl⟩) (w_31 hw) (ty := (.object "java/util/List")) (by decide) rfl rfl ?_
  intro h152 W153
  replace F_a_variants := F_a_variants.same W153
  replace E_a := E_a.wr W153
  replace F_a_place := F_a_place.other W153 (Or.inr (slot_ne (Or.inr (w_116 hw)) (Or.inr (w_114 hw)) (by decide) (t := (.object "com/example/sumgen/sumgen/model/Place")) (t' := (.object "java/util/List")) (by decide) (by decide)))
  replace F_a_tagPlace := F_a_tagPlace.other W153 (Or.inr (slot_ne (Or.inr (w_118 hw)) (Or.inr (w_114 hw)) (by decide) (t := (.object "com/example/sumgen/sumgen/model/Place")) (t' := (.object "java/util/List")) (by decide) (by decide)))
  replace E_la := E_la.wr W153
  replace E_lb := E_lb.wr W153
  replace F_a_name := F_a_name.other W153 (Or.inr (slot_ne (Or.inr (w_108 hw)) (Or.inr (w_114 hw)) (by decide) (t := (.object "java/lang/String")) (t' := (.object "java/util/List")) (by decide) (by decide)))
  replace F_a_tag := F_a_tag.other W153 (Or.inr (slot_ne (Or.inr (w_110 hw)) (Or.inr (w_114 hw)) (by decide) (t := (.object "java/lang/String")) (t' := (.object "java/util/List")) (by decide) (by decide)))
  replace F_a_commonFields := F_a_commonFields.other W153 (Or.inr (slot_ne (Or.inr (w_112 hw)) (Or.inr (w_114 hw)) (by decide) (t := (.object "java/util/List")) (t' := (.object "java/util/List")) (by decide) (by decide)))
  change Go _ _ _ _ _ _ _ _ _ _ _ _ _ _ [a] h152 0 0 70 #[.val (.ref a), .val (.ref s), .val .null, .val (.ref (stRef Z "java/util/ImmutableCollections" "EMPTY_LIST" "Ljava/util/ImmutableCollections$ListN;")), .val (.ref (stRef Z "java/util/ImmutableCollections" "EMPTY_LIST" "Ljava/util/ImmutableCollections$ListN;")), .val .null, .val .null] []
  refine Go.aload_n (pc' := 71) d_prog_25_method_1_70 rfl rfl rfl ?_
  refine Go.aload (pc' := 73) d_prog_25_method_1_71 rfl rfl rfl ?_
  refine Go.putF (pc' := 76) d_prog_25_method_1_73 rfl (List.mem_of_getElem? (i := 0) rfl) (host := "") (Or.inl (w_115 hw)) Via.refl F_a_place E_a (Or.inr ⟨(w_116 hw), rfl, rfl⟩) (w_31 hw) (ty := (.object "com/example/sumgen/sumgen/model/Place")) (by decide) rfl rfl ?_
  intro h154 W155
  replace F_a_place := F_a_place.same W155
  replace E_a := E_a.wr W155
  replace F_a_tagPlace := F_a_tagPlace.other W155 (Or.inr (slot_ne (Or.inr (w_118 hw)) (Or.inr (w_116 hw)) (by decide) (t := (.object "com/example/sumgen/sumgen/model/Place")) (t' := (.object "com/example/sumgen/sumgen/model/Place")) (by decide) (by decide)))
  replace E_la := E_la.wr W155
  replace E_lb := E_lb.wr W155
  replace F_a_name := F_a_name.other W155 (Or.inr (slot_ne (Or.inr (w_108 hw)) (Or.inr (w_116 hw)) (by decide) (t := (.object "java/lang/String")) (t' := (.object "com/example/sumgen/sumgen/model/Place")) (by decide) (by decide)))
  replace F_a_tag := F_a_tag.other W155 (Or.inr (slot_ne (Or.inr (w_110 hw)) (Or.inr (w_116 hw)) (by decide) (t := (.object "java/lang/String")) (t' := (.object "com/example/sumgen/sumgen/model/Place")) (by decide) (by decide)))
  replace F_a_commonFields := F_a_commonFields.other W155 (Or.inr (slot_ne (Or.inr (w_112 hw)) (Or.inr (w_116 hw)) (by decide) (t := (.object "java/util/List")) (t' := (.object "com/example/sumgen/sumgen/model/Place")) (by decide) (by decide)))
  replace F_a_variants := F_a_variants.other W155 (Or.inr (slot_ne (Or.inr (w_114 hw)) (Or.inr (w_116 hw)) (by decide) (t := (.object "java/util/List")) (t' := (.object "com/example/sumgen/sumgen/model/Place")) (by decide) (by decide)))
  change Go _ _ _ _ _ _ _ _ _ _ _ _ _ _ [a] h154 0 0 76 #[.val (.ref a), .val (.ref s), .val .null, .val (.ref (stRef Z "java/util/ImmutableCollections" "EMPTY_LIST" "Ljava/util/ImmutableCollections$ListN;")), .val (.ref (stRef Z "java/util/ImmutableCollections" "EMPTY_LIST" "Ljava/util/ImmutableCollections$ListN;")), .val .null, .val .null] []
  refine Go.aload_n (pc' := 77) d_prog_25_method_1_76 rfl rfl rfl ?_
  refine Go.aload (pc' := 79) d_prog_25_method_1_77 rfl rfl rfl ?_
  refine Go.putF (pc' := 82) d_prog_25_method_1_79 rfl (List.mem_of_getElem? (i := 0) rfl) (host := "") (Or.inl (w_117 hw)) Via.refl F_a_tagPlace E_a (Or.inr ⟨(w_118 hw), rfl, rfl⟩) (w_31 hw) (ty := (.object "com/example/sumgen/sumgen/model/Place")) (by decide) rfl rfl ?_
  intro h156 W157
  replace F_a_tagPlace := F_a_tagPlace.same W157
  replace E_a := E_a.wr W157
  replace E_la := E_la.wr W157
  replace E_lb := E_lb.wr W157
  replace F_a_name := F_a_name.other W157 (Or.inr (slot_ne (Or.inr (w_108 hw)) (Or.inr (w_118 hw)) (by decide) (t := (.object "java/lang/String")) (t' := (.object "com/example/sumgen/sumgen/model/Place")) (by decide) (by decide)))
  replace F_a_tag := F_a_tag.other W157 (Or.inr (slot_ne (Or.inr (w_110 hw)) (Or.inr (w_118 hw)) (by decide) (t := (.object "java/lang/String")) (t' := (.object "com/example/sumgen/sumgen/model/Place")) (by decide) (by decide)))
  replace F_a_commonFields := F_a_commonFields.other W157 (Or.inr (slot_ne (Or.inr (w_112 hw)) (Or.inr (w_118 hw)) (by decide) (t := (.object "java/util/List")) (t' := (.object "com/example/sumgen/sumgen/model/Place")) (by decide) (by decide)))
  replace F_a_variants := F_a_variants.other W157 (Or.inr (slot_ne (Or.inr (w_114 hw)) (Or.inr (w_118 hw)) (by decide) (t := (.object "java/util/List")) (t' := (.object "com/example/sumgen/sumgen/model/Place")) (by decide) (by decide)))
  replace F_a_place := F_a_place.other W157 (Or.inr (slot_ne (Or.inr (w_116 hw)) (Or.inr (w_118 hw)) (by decide) (t := (.object "com/example/sumgen/sumgen/model/Place")) (t' := (.object "com/example/sumgen/sumgen/model/Place")) (by decide) (by decide)))
  change Go _ _ _ _ _ _ _ _ _ _ _ _ _ _ [a] h156 0 0 82 #[.val (.ref a), .val (.ref s), .val .null, .val (.ref (stRef Z "java/util/ImmutableCollections" "EMPTY_LIST" "Ljava/util/ImmutableCollections$ListN;")), .val (.ref (stRef Z "java/util/ImmutableCollections" "EMPTY_LIST" "Ljava/util/ImmutableCollections$ListN;")), .val .null, .val .null] []
  exact Go.retV d_prog_25_method_1_82 rfl (by decide) (by decide) [] sn0 ⟨rfl, rfl, E_a⟩
abbrev R_m_tc00 : Room := { frames := 3, cells := 0, slots := 0, locals := 37 }
theorem pn_m_tc00 : plainFor (⟨"com/example/sumgen/sumgen/sql/Changes$TypeChange", "<init>", "(Lcom/example/sumgen/sumgen/model/SumType;Lcom/example/sumgen/sumgen/model/SumType;Ljava/util/List;Ljava/util/List;Ljava/util/List;Ljava/util/List;)V"⟩ : MethodName) = true := by first | (refine plainFor_of_name ?_; simp [plainName, overriddenIn]; done) | decide +kernel
abbrev Q_m_tc00 (Z : State) (a : Addr) (v1 : Value) (v2 : Value) (la : Addr) (lb : Addr) (lc : Addr) (ld : Addr) (h0 : Heap) : Option Value → Heap → List Addr → Prop := fun res h' SN => res = none ∧ SN = [] ∧ Exa Z h' a "com/example/sumgen/sumgen/sql/Changes$TypeChange" ∧ Fld Z h' a "com/example/sumgen/sumgen/sql/Changes$TypeChange" "before" "Lcom/example/sumgen/sumgen/model/SumType;" v1
theorem ef_m_tc00 (mid : MethodId) (a : Addr) (v1 : Value) (v2 : Value) (la : Addr) (lb : Addr) (lc : Addr) (ld : Addr) (hv_v1 : v1.isRef = true) (hv_v2 : v2.isRef = true) : entryFrame mid #[(.ref a), v1, v2, (.ref la), (.ref lb), (.ref lc), (.ref ld)] 7 = mkF mid 0 #[.val (.ref a), .val v1, .val v2, .val (.ref la), .val (.ref lb), .val (.ref lc), .val (.ref ld)] [] := by rcases ref_cases hv_v1 with rfl | ⟨_, rfl⟩ <;> rcases ref_cases hv_v2 with rfl | ⟨_, rfl⟩ <;> first | (simp [entryFrame, mkF, argsToLocals, Value.category]; done) | rfl
set_option maxRecDepth 65536 in
set_option maxHeartbeats 40000000 in
theorem m_tc00 {l : Launch} {Z : State} {a0 : Array Value} {n0 : Nat} (hw : ∀ d ∈ tables_1, d.before a0 Z = true) (hs : Stat Z) (a : Addr) (v1 : Value) (v2 : Value) (la : Addr) (lb : Addr) (lc : Addr) (ld : Addr) (h0 : Heap) (E_a : Exa Z h0 a "com/example/sumgen/sumgen/sql/Changes$TypeChange") (F_a_before : Fld Z h0 a "com/example/sumgen/sumgen/sql/Changes$TypeChange" "before" "Lcom/example/sumgen/sumgen/model/SumType;" .null) (F_a_after : Fld Z h0 a "com/example/sumgen/sumgen/sql/Changes$TypeChange" "after" "Lcom/example/sumgen/sumgen/model/SumType;" .null) (F_a_addedFields : Fld Z h0 a "com/example/sumgen/sumgen/sql/Changes$TypeChange" "addedFields" "Ljava/util/List;" .null) (F_a_removedFields : Fld Z h0 a "com/example/sumgen/sumgen/sql/Changes$TypeChange" "removedFields" "Ljava/util/List;" .null) (F_a_variants : Fld Z h0 a "com/example/sumgen/sumgen/sql/Changes$TypeChange" "variants" "Ljava/util/List;" .null) (F_a_removedVariants : Fld Z h0 a "com/example/sumgen/sumgen/sql/Changes$TypeChange" "removedVariants" "Ljava/util/List;" .null) (E_la : Exa Z h0 la "java/util/ArrayList") (F_la_size : Fld Z h0 la "java/util/ArrayList" "size" "I" (.int (0 : Int32))) (E_lb : Exa Z h0 lb "java/util/ArrayList") (F_lb_size : Fld Z h0 lb "java/util/ArrayList" "size" "I" (.int (0 : Int32))) (E_lc : Exa Z h0 lc "java/util/ArrayList") (F_lc_size : Fld Z h0 lc "java/util/ArrayList" "size" "I" (.int (0 : Int32))) (E_ld : Exa Z h0 ld "java/util/ArrayList") (F_ld_size : Fld Z h0 ld "java/util/ArrayList" "size" "I" (.int (0 : Int32))) (hv_v1 : v1.isRef = true) (hv_v2 : v2.isRef = true) :
    Met l Z EL0 n0 NR0 KN0 N_33 prog_30_method_1_code 7 (Option.none : Option Jvm.ClassFile.FieldType) R_m_tc00 [a] #[(.ref a), v1, v2, (.ref la), (.ref lb), (.ref lc), (.ref ld)] h0 (Q_m_tc00 Z a v1 v2 la lb lc ld h0) := by
  refine Met.of_go pn_m_tc00 (fun mid => ef_m_tc00 mid a v1 v2 la lb lc ld hv_v1 hv_v2) ?_
  intro hO hWS
  refine Go.aload_n (pc' := 1) d_prog_30_method_1_0 rfl rfl rfl ?_
  refine Go.callI (pc' := 4) (z := N_0) (a := a) d_prog_30_method_1_1 rfl rfl (w_125 hw) (w_61 hw) (w_64 hw) (by decide) (argsL := []) (rest := []) (Pays.of_met (W := 0) (len := 3) (m_record hw hs a h0) (w_64 hw) (w_63 hw) (by decide) (by decide)) rfl rfl (lenOf pd_4 rfl) rfl (Nat.le_of_eq rfl) mem0 (by decide) (by decide) ?_
  rintro _ _ _ - - ⟨rfl, rfl, rfl⟩
  change Go _ _ _ _ _ _ _ _ _ _ _ _ _ _ [a] h0 0 0 4 #[.val (.ref a), .val v1, .val v2, .val (.ref la), .val (.ref lb), .val (.ref lc), .val (.ref ld)] []
  refine Go.aload_n (pc' := 5) d_prog_30_method_1_4 rfl rfl rfl ?_
  refine Go.callS (pc' := 8) (z := N_28) d_prog_30_method_1_5 rfl (w_126 hw) (w_67 hw) (w_68 hw) (w_69 hw) (by decide) (argsL := [(.ref la)]) (rest := []) (Pays.of_met (W := 0) (len := 3) (m_co0 hw hs la h0 E_la F_la_size) (w_69 hw) (w_68 hw) (by decide) (by decide)) rfl rfl (lenOf pd_16 rfl) rfl (Nat.le_of_eq rfl) mem0 (by decide) (by decide) ?_
  rintro _ _ _ - - ⟨rfl, rfl, rfl⟩
  change Go _ _ _ _ _ _ _ _ _ _ _ _ _ _ [a] h0 0 0 8 #[.val (.ref a), .val v1, .val v2, .val (.ref la), .val (.ref lb), .val (.ref lc), .val (.ref ld)] [(.ref (stRef Z "java/util/ImmutableCollections" "EMPTY_LIST" "Ljava/util/ImmutableCollections$ListN;"))]
  refine Go.astore_n (pc' := 9) (Ls' := #[.val (.ref a), .val v1, .val v2, .val (.ref (stRef Z "java/util/ImmutableCollections" "EMPTY_LIST" "Ljava/util/ImmutableCollections$ListN;")), .val (.ref lb), .val (.ref lc), .val (.ref ld)]) d_prog_30_method_1_8 rfl rfl rfl ?_
  refine Go.aload (pc' := 11) d_prog_30_method_1_9 rfl rfl rfl ?_
  refine Go.callS (pc' := 14) (z := N_28) d_prog_30_method_1_11 rfl (w_126 hw) (w_67 hw) (w_68 hw) (w_69 hw) (by decide) (argsL := [(.ref lb)]) (rest := []) (Pays.of_met (W := 0) (len := 3) (m_co0 hw hs lb h0 E_lb F_lb_size) (w_69 hw) (w_68 hw) (by decide) (by decide)) rfl rfl (lenOf pd_16 rfl) rfl (Nat.le_of_eq rfl) mem0 (by decide) (by decide) ?_
  rintro _ _ _ - - ⟨rfl, rfl, rfl⟩
  change Go _ _ _ _ _ _ _ _ _ _ _ _ _ _ [a] h0 0 0 14 #[.val (.ref a), .val v1, .val v2, .val (.ref (stRef Z "java/util/ImmutableCollections" "EMPTY_LIST" "Ljava/util/ImmutableCollections$ListN;")), .val (.ref lb), .val (.ref lc), .val (.ref ld)] [(.ref (stRef Z "java/util/ImmutableCollections" "EMPTY_LIST" "Ljava/util/ImmutableCollections$ListN;"))]
  refine Go.astore (pc' := 16) (Ls' := #[.val (.ref a), .val v1, .val v2, .val (.ref (stRef Z "java/util/ImmutableCollections" "EMPTY_LIST" "Ljava/util/ImmutableCollections$ListN;")), .val (.ref (stRef Z "java/util/ImmutableCollections" "EMPTY_LIST" "Ljava/util/ImmutableCollections$ListN;")), .val (.ref lc), .val (.ref ld)]) d_prog_30_method_1_14 rfl rfl rfl ?_
  refine Go.aload (pc' := 18) d_prog_30_method_1_16 rfl rfl rfl ?_
  refine Go.callS (pc' := 21) (z := N_28) d_prog_30_method_1_18 rfl (w_126 hw) (w_67 hw) (w_68 hw) (w_69 hw) (by decide) (argsL := [(.ref lc)]) (rest := []) (Pays.of_met (W := 0) (len := 3) (m_co0 hw hs lc h0 E_lc F_lc_size) (w_69 hw) (w_68 hw) (by decide) (by decide)) rfl rfl (lenOf pd_16 rfl) rfl (Nat.le_of_eq rfl) mem0 (by decide) (by decide) ?_
  rintro _ _ _ - - ⟨rfl, rfl, rfl⟩
  change Go _ _ _ _ _ _ _ _ _ _ _ _ _ _ [a] h0 0 0 21 #[.val (.ref a), .val v1, .val v2, .val (.ref (stRef Z "java/util/ImmutableCollections" "EMPTY_LIST" "Ljava/util/ImmutableCollections$ListN;")), .val (.ref (stRef Z "java/util/ImmutableCollections" "EMPTY_LIST" "Ljava/util/ImmutableCollections$ListN;")), .val (.ref lc), .val (.ref ld)] [(.ref (stRef Z "java/util/ImmutableCollections" "EMPTY_LIST" "Ljava/util/ImmutableCollections$ListN;"))]
  refine Go.astore (pc' := 23) (Ls' := #[.val (.ref a), .val v1, .val v2, .val (.ref (stRef Z "java/util/ImmutableCollections" "EMPTY_LIST" "Ljava/util/ImmutableCollections$ListN;")), .val (.ref (stRef Z "java/util/ImmutableCollections" "EMPTY_LIST" "Ljava/util/ImmutableCollections$ListN;")), .val (.ref (stRef Z "java/util/ImmutableCollections" "EMPTY_LIST" "Ljava/util/ImmutableCollections$ListN;")), .val (.ref ld)]) d_prog_30_method_1_21 rfl rfl rfl ?_
  refine Go.aload (pc' := 25) d_prog_30_method_1_23 rfl rfl rfl ?_
  refine Go.callS (pc' := 28) (z := N_28) d_prog_30_method_1_25 rfl (w_126 hw) (w_67 hw) (w_68 hw) (w_69 hw) (by decide) (argsL := [(.ref ld)]) (rest := []) (Pays.of_met (W := 0) (len := 3) (m_co0 hw hs ld h0 E_ld F_ld_size) (w_69 hw) (w_68 hw) (by decide) (by decide)) rfl rfl (lenOf pd_16 rfl) rfl (Nat.le_of_eq rfl) mem0 (by decide) (by decide) ?_
  rintro _ _ _ - - ⟨rfl, rfl, rfl⟩
  change Go _ _ _ _ _ _ _ _ _ _ _ _ _ _ [a] h0 0 0 28 #[.val (.ref a), .val v1, .val v2, .val (.ref (stRef Z "java/util/ImmutableCollections" "EMPTY_LIST" "Ljava/util/ImmutableCollections$ListN;")), .val (.ref (stRef Z "java/util/ImmutableCollections" "EMPTY_LIST" "Ljava/util/ImmutableCollections$ListN;")), .val (.ref (stRef Z "java/util/ImmutableCollections" "EMPTY_LIST" "Ljava/util/ImmutableCollections$ListN;")), .val (.ref ld)] [(.ref (stRef Z "java/util/ImmutableCollections" "EMPTY_LIST" "Ljava/util/ImmutableCollections$ListN;"))]
  refine Go.astore (pc' := 30) (Ls' := #[.val (.ref a), .val v1, .val v2, .val (.ref (stRef Z "java/util/ImmutableCollections" "EMPTY_LIST" "Ljava/util/ImmutableCollections$ListN;")), .val (.ref (stRef Z "java/util/ImmutableCollections" "EMPTY_LIST" "Ljava/util/ImmutableCollections$ListN;")), .val (.ref (stRef Z "java/util/ImmutableCollections" "EMPTY_LIST" "Ljava/util/ImmutableCollections$ListN;")), .val (.ref (stRef Z "java/util/ImmutableCollections" "EMPTY_LIST" "Ljava/util/ImmutableCollections$ListN;"))]) d_prog_30_method_1_28 rfl rfl rfl ?_
  refine Go.aload_n (pc' := 31) d_prog_30_method_1_30 rfl rfl rfl ?_
  refine Go.aload_n (pc' := 32) d_prog_30_method_1_31 rfl rfl hv_v1 ?_
  refine Go.putF (pc' := 35) d_prog_30_method_1_32 rfl (List.mem_of_getElem? (i := 0) rfl) (host := "") (Or.inl (w_127 hw)) Via.refl F_a_before E_a (Or.inr ⟨(w_128 hw), rfl, rfl⟩) (w_120 hw) (ty := (.object "com/example/sumgen/sumgen/model/SumType")) (by decide) (by rcases ref_cases hv_v1 with rfl | ⟨_, rfl⟩ <;> rfl) (by rcases ref_cases hv_v1 with rfl | ⟨_, rfl⟩ <;> rfl) ?_
  intro h158 W159
  replace F_a_before := F_a_before.same W159
  replace E_a := E_a.wr W159
  replace F_a_after := F_a_after.other W159 (Or.inr (slot_ne (Or.inr (w_130 hw)) (Or.inr (w_128 hw)) (by decide) (t := (.object "com/example/sumgen/sumgen/model/SumType")) (t' := (.object "com/example/sumgen/sumgen/model/SumType")) (by decide) (by decide)))
  replace F_a_addedFields := F_a_addedFields.other W159 (Or.inr (slot_ne (Or.inr (w_132 hw)) (Or.inr (w_128 hw)) (by decide) (t := (.object "java/util/List")) (t' := (.object "com/example/sumgen/sumgen/model/SumType")) (by decide) (by decide)))
  replace F_a_removedFields := F_a_removedFields.other W159 (Or.inr (slot_ne (Or.inr (w_134 hw)) (Or.inr (w_128 hw)) (by decide) (t := (.object "java/util/List")) (t' := (.object "com/example/sumgen/sumgen/model/SumType")) (by decide) (by decide)))
  replace F_a_variants := F_a_variants.other W159 (Or.inr (slot_ne (Or.inr (w_136 hw)) (Or.inr (w_128 hw)) (by decide) (t := (.object "java/util/List")) (t' := (.object "com/example/sumgen/sumgen/model/SumType")) (by decide) (by decide)))
  replace F_a_removedVariants := F_a_removedVariants.other W159 (Or.inr (slot_ne (Or.inr (w_138 hw)) (Or.inr (w_128 hw)) (by decide) (t := (.object "java/util/List")) (t' := (.object "com/example/sumgen/sumgen/model/SumType")) (by decide) (by decide)))
  replace E_la := E_la.wr W159
  replace E_lb := E_lb.wr W159
  replace E_lc := E_lc.wr W159
  replace E_ld := E_ld.wr W159
  change Go _ _ _ _ _ _ _ _ _ _ _ _ _ _ [a] h158 0 0 35 #[.val (.ref a), .val v1, .val v2, .val (.ref (stRef Z "java/util/ImmutableCollections" "EMPTY_LIST" "Ljava/util/ImmutableCollections$ListN;")), .val (.ref (stRef Z "java/util/ImmutableCollections" "EMPTY_LIST" "Ljava/util/ImmutableCollections$ListN;")), .val (.ref (stRef Z "java/util/ImmutableCollections" "EMPTY_LIST" "Ljava/util/ImmutableCollections$ListN;")), .val (.ref (stRef Z "java/util/ImmutableCollections" "EMPTY_LIST" "Ljava/util/ImmutableCollections$ListN;"))] []
  refine Go.aload_n (pc' := 36) d_prog_30_method_1_35 rfl rfl rfl ?_
  refine Go.aload_n (pc' := 37) d_prog_30_method_1_36 rfl rfl hv_v2 ?_
  refine Go.putF (pc' := 40) d_prog_30_method_1_37 rfl (List.mem_of_getElem? (i := 0) rfl) (host := "") (Or.inl (w_129 hw)) Via.refl F_a_after E_a (Or.inr ⟨(w_130 hw), rfl, rfl⟩) (w_120 hw) (ty := (.object "com/example/sumgen/sumgen/model/SumType")) (by decide) (by rcases ref_cases hv_v2 with rfl | ⟨_, rfl⟩ <;> rfl) (by rcases ref_cases hv_v2 with rfl | ⟨_, rfl⟩ <;> rfl) ?_
  intro h160 W161
  replace F_a_after := F_a_after.same W161
  replace E_a := E_a.wr W161
  replace F_a_addedFields := F_a_addedFields.other W161 (Or.inr (slot_ne (Or.inr (w_132 hw)) (Or.inr (w_130 hw)) (by decide) (t := (.object "java/util/List")) (t' := (.object "com/example/sumgen/sumgen/model/SumType")) (by decide) (by decide)))
  replace F_a_removedFields := F_a_removedFields.other W161 (Or.inr (slot_ne (Or.inr (w_134 hw)) (Or.inr (w_130 hw)) (by decide) (t := (.object "java/util/List")) (t' := (.object "com/example/sumgen/sumgen/model/SumType")) (by decide) (by decide)))
  replace F_a_variants := F_a_variants.other W161 (Or.inr (slot_ne (Or.inr (w_136 hw)) (Or.inr (w_130 hw)) (by decide) (t := (.object "java/util/List")) (t' := (.object "com/example/sumgen/sumgen/model/SumType")) (by decide) (by decide)))
  replace F_a_removedVariants := F_a_removedVariants.other W161 (Or.inr (slot_ne (Or.inr (w_138 hw)) (Or.inr (w_130 hw)) (by decide) (t := (.object "java/util/List")) (t' := (.object "com/example/sumgen/sumgen/model/SumType")) (by decide) (by decide)))
  replace E_la := E_la.wr W161
  replace E_lb := E_lb.wr W161
  replace E_lc := E_lc.wr W161
  replace E_ld := E_ld.wr W161
  replace F_a_before := F_a_before.other W161 (Or.inr (slot_ne (Or.inr (w_128 hw)) (Or.inr (w_130 hw)) (by decide) (t := (.object "com/example/sumgen/sumgen/model/SumType")) (t' := (.object "com/example/sumgen/sumgen/model/SumType")) (by decide) (by decide)))
  change Go _ _ _ _ _ _ _ _ _ _ _ _ _ _ [a] h160 0 0 40 #[.val (.ref a), .val v1, .val v2, .val (.ref (stRef Z "java/util/ImmutableCollections" "EMPTY_LIST" "Ljava/util/ImmutableCollections$ListN;")), .val (.ref (stRef Z "java/util/ImmutableCollections" "EMPTY_LIST" "Ljava/util/ImmutableCollections$ListN;")), .val (.ref (stRef Z "java/util/ImmutableCollections" "EMPTY_LIST" "Ljava/util/ImmutableCollections$ListN;")), .val (.ref (stRef Z "java/util/ImmutableCollections" "EMPTY_LIST" "Ljava/util/ImmutableCollections$ListN;"))] []
  refine Go.aload_n (pc' := 41) d_prog_30_method_1_40 rfl rfl rfl ?_
  refine Go.aload_n (pc' := 42) d_prog_30_method_1_41 rfl rfl rfl ?_
  refine Go.putF (pc' := 45) d_prog_30_method_1_42 rfl (List.mem_of_getElem? (i := 0) rfl) (host := "") (Or.inl (w_131 hw)) Via.refl F_a_addedFields E_a (Or.inr ⟨(w_132 hw), rfl, rfl⟩) (w_120 hw) (ty := (.object "java/util/List")) (by decide) rfl rfl ?_
  intro h162 W163
  replace F_a_addedFields := F_a_addedFields.same W163
  replace E_a := E_a.wr W163
  replace F_a_removedFields := F_a_removedFields.other W163 (Or.inr (slot_ne (Or.inr (w_134 hw)) (Or.inr (w_132 hw)) (by decide) (t := (.object "java/util/List")) (t' := (.object "java/util/List")) (by decide) (by decide)))
  replace F_a_variants := F_a_variants.other W163 (Or.inr (slot_ne (Or.inr (w_136 hw)) (Or.inr (w_132 hw)) (by decide) (t := (.object "java/util/List")) (t' := (.object "java/util/List")) (by decide) (by decide)))
  replace F_a_removedVariants := F_a_removedVariants.other W163 (Or.inr (slot_ne (Or.inr (w_138 hw)) (Or.inr (w_132 hw)) (by decide) (t := (.object "java/util/List")) (t' := (.object "java/util/List")) (by decide) (by decide)))
  replace E_la := E_la.wr W163
  replace E_lb := E_lb.wr W163
  replace E_lc := E_lc.wr W163
  replace E_ld := E_ld.wr W163
  replace F_a_before := F_a_before.other W163 (Or.inr (slot_ne (Or.inr (w_128 hw)) (Or.inr (w_132 hw)) (by decide) (t := (.object "com/example/sumgen/sumgen/model/SumType")) (t' := (.object "java/util/List")) (by decide) (by decide)))
  replace F_a_after := F_a_after.other W163 (Or.inr (slot_ne (Or.inr (w_130 hw)) (Or.inr (w_132 hw)) (by decide) (t := (.object "com/example/sumgen/sumgen/model/SumType")) (t' := (.object "java/util/List")) (by decide) (by decide)))
  change Go _ _ _ _ _ _ _ _ _ _ _ _ _ _ [a] h162 0 0 45 #[.val (.ref a), .val v1, .val v2, .val (.ref (stRef Z "java/util/ImmutableCollections" "EMPTY_LIST" "Ljava/util/ImmutableCollections$ListN;")), .val (.ref (stRef Z "java/util/ImmutableCollections" "EMPTY_LIST" "Ljava/util/ImmutableCollections$ListN;")), .val (.ref (stRef Z "java/util/ImmutableCollections" "EMPTY_LIST" "Ljava/util/ImmutableCollections$ListN;")), .val (.ref (stRef Z "java/util/ImmutableCollections" "EMPTY_LIST" "Ljava/util/ImmutableCollections$ListN;"))] []
  refine Go.aload_n (pc' := 46) d_prog_30_method_1_45 rfl rfl rfl ?_
  refine Go.aload (pc' := 48) d_prog_30_method_1_46 rfl rfl rfl ?_
  refine Go.putF (pc' := 51) d_prog_30_method_1_48 rfl (List.mem_of_getElem? (i := 0) rfl) (host := "") (Or.inl (w_133 hw)) Via.refl F_a_removedFields E_a (Or.inr ⟨(w_134 hw), rfl, rfl⟩) (w_120 hw) (ty := (.object "java/util/List")) (by decide) rfl rfl ?_
  intro h164 W165
  replace F_a_removedFields := F_a_removedFields.same W165
  replace E_a := E_a.wr W165
  replace F_a_variants := F_a_variants.other W165 (Or.inr (slot_ne (Or.inr (w_136 hw)) (Or.inr (w_134 hw)) (by decide) (t := (.object "java/util/List")) (t' := (.object "java/util/List")) (by decide) (by decide)))
  replace F_a_removedVariants := F_a_removedVariants.other W165 (Or.inr (slot_ne (Or.inr (w_138 hw)) (Or.inr (w_134 hw)) (by decide) (t := (.object "java/util/List")) (t' := (.object "java/util/List")) (by decide) (by decide)))
  replace E_la := E_la.wr W165
  replace E_lb := E_lb.wr W165
  replace E_lc := E_lc.wr W165
  replace E_ld := E_ld.wr W165
  replace F_a_before := F_a_before.other W165 (Or.inr (slot_ne (Or.inr (w_128 hw)) (Or.inr (w_134 hw)) (by decide) (t := (.object "com/example/sumgen/sumgen/model/SumType")) (t' := (.object "java/util/List")) (by decide) (by decide)))
  replace F_a_after := F_a_after.other W165 (Or.inr (slot_ne (Or.inr (w_130 hw)) (Or.inr (w_134 hw)) (by decide) (t := (.object "com/example/sumgen/sumgen/model/SumType")) (t' := (.object "java/util/List")) (by decide) (by decide)))
  replace F_a_addedFields := F_a_addedFields.other W165 (Or.inr (slot_ne (Or.inr (w_132 hw)) (Or.inr (w_134 hw)) (by decide) (t := (.object "java/util/List")) (t' := (.object "java/util/List")) (by decide) (by decide)))
  change Go _ _ _ _ _ _ _ _ _ _ _ _ _ _ [a] h164 0 0 51 #[.val (.ref a), .val v1, .val v2, .val (.ref (stRef Z "java/util/ImmutableCollections" "EMPTY_LIST" "Ljava/util/ImmutableCollections$ListN;")), .val (.ref (stRef Z "java/util/ImmutableCollections" "EMPTY_LIST" "Ljava/util/ImmutableCollections$ListN;")), .val (.ref (stRef Z "java/util/ImmutableCollections" "EMPTY_LIST" "Ljava/util/ImmutableCollections$ListN;")), .val (.ref (stRef Z "java/util/ImmutableCollections" "EMPTY_LIST" "Ljava/util/ImmutableCollections$ListN;"))] []
  refine Go.aload_n (pc' := 52) d_prog_30_method_1_51 rfl rfl rfl ?_
  refine Go.aload (pc' := 54) d_prog_30_method_1_52 rfl rfl rfl ?_
  refine Go.putF (pc' := 57) d_prog_30_method_1_54 rfl (List.mem_of_getElem? (i := 0) rfl) (host := "") (Or.inl (w_135 hw)) Via.refl F_a_variants E_a (Or.inr ⟨(w_136 hw), rfl, rfl⟩) (w_120 hw) (ty := (.object "java/util/List")) (by decide) rfl rfl ?_
  intro h166 W167
  replace F_a_variants := F_a_variants.same W167
  replace E_a := E_a.wr W167
  replace F_a_removedVariants := F_a_removedVariants.other W167 (Or.inr (slot_ne (Or.inr (w_138 hw)) (Or.inr (w_136 hw)) (by decide) (t := (.object "java/util/List")) (t' := (.object "java/util/List")) (by decide) (by decide)))
  replace E_la := E_la.wr W167
  replace E_lb := E_lb.wr W167
  replace E_lc := E_lc.wr W167
  replace E_ld := E_ld.wr W167
  replace F_a_before := F_a_before.other W167 (Or.inr (slot_ne (Or.inr (w_128 hw)) (Or.inr (w_136 hw)) (by decide) (t := (.object "com/example/sumgen/sumgen/model/SumType")) (t' := (.object "java/util/List")) (by decide) (by decide)))
  replace F_a_after := F_a_after.other W167 (Or.inr (slot_ne (Or.inr (w_130 hw)) (Or.inr (w_136 hw)) (by decide) (t := (.object "com/example/sumgen/sumgen/model/SumType")) (t' := (.object "java/util/List")) (by decide) (by decide)))
  replace F_a_addedFields := F_a_addedFields.other W167 (Or.inr (slot_ne (Or.inr (w_132 hw)) (Or.inr (w_136 hw)) (by decide) (t := (.object "java/util/List")) (t' := (.object "java/util/List")) (by decide) (by decide)))
  replace F_a_removedFields := F_a_removedFields.other W167 (Or.inr (slot_ne (Or.inr (w_134 hw)) (Or.inr (w_136 hw)) (by decide) (t := (.object "java/util/List")) (t' := (.object "java/util/List")) (by decide) (by decide)))
  change Go _ _ _ _ _ _ _ _ _ _ _ _ _ _ [a] h166 0 0 57 #[.val (.ref a), .val v1, .val v2, .val (.ref (stRef Z "java/util/ImmutableCollections" "EMPTY_LIST" "Ljava/util/ImmutableCollections$ListN;")), .val (.ref (stRef Z "java/util/ImmutableCollections" "EMPTY_LIST" "Ljava/util/ImmutableCollections$ListN;")), .val (.ref (stRef Z "java/util/ImmutableCollections" "EMPTY_LIST" "Ljava/util/ImmutableCollections$ListN;")), .val (.ref (stRef Z "java/util/ImmutableCollections" "EMPTY_LIST" "Ljava/util/ImmutableCollections$ListN;"))] []
  refine Go.aload_n (pc' := 58) d_prog_30_method_1_57 rfl rfl rfl ?_
  refine Go.aload (pc' := 60) d_prog_30_method_1_58 rfl rfl rfl ?_
  refine Go.putF (pc' := 63) d_prog_30_method_1_60 rfl (List.mem_of_getElem? (i := 0) rfl) (host := "") (Or.inl (w_137 hw)) Via.refl F_a_removedVariants E_a (Or.inr ⟨(w_138 hw), rfl, rfl⟩) (w_120 hw) (ty := (.object "java/util/List")) (by decide) rfl rfl ?_
  intro h168 W169
  replace F_a_removedVariants := F_a_removedVariants.same W169
  replace E_a := E_a.wr W169
  replace E_la := E_la.wr W169
  replace E_lb := E_lb.wr W169
  replace E_lc := E_lc.wr W169
  replace E_ld := E_ld.wr W169
  replace F_a_before := F_a_before.other W169 (Or.inr (slot_ne (Or.inr (w_128 hw)) (Or.inr (w_138 hw)) (by decide) (t := (.object "com/example/sumgen/sumgen/model/SumType")) (t' := (.object "java/util/List")) (by decide) (by decide)))
  replace F_a_after := F_a_after.other W169 (Or.inr (slot_ne (Or.inr (w_130 hw)) (Or.inr (w_138 hw)) (by decide) (t := (.object "com/example/sumgen/sumgen/model/SumType")) (t' := (.object "java/util/List")) (by decide) (by decide)))
  replace F_a_addedFields := F_a_addedFields.other W169 (Or.inr (slot_ne (Or.inr (w_132 hw)) (Or.inr (w_138 hw)) (by decide) (t := (.object "java/util/List")) (t' := (.object "java/util/List")) (by decide) (by decide)))
  replace F_a_removedFields := F_a_removedFields.other W169 (Or.inr (slot_ne (Or.inr (w_134 hw)) (Or.inr (w_138 hw)) (by decide) (t := (.object "java/util/List")) (t' := (.object "java/util/List")) (by decide) (by decide)))
  replace F_a_variants := F_a_variants.other W169 (Or.inr (slot_ne (Or.inr (w_136 hw)) (Or.inr (w_138 hw)) (by decide) (t := (.object "java/util/List")) (t' := (.object "java/util/List")) (by decide) (by decide)))
  change Go _ _ _ _ _ _ _ _ _ _ _ _ _ _ [a] h168 0 0 63 #[.val (.ref a), .val v1, .val v2, .val (.ref (stRef Z "java/util/ImmutableCollections" "EMPTY_LIST" "Ljava/util/ImmutableCollections$ListN;")), .val (.ref (stRef Z "java/util/ImmutableCollections" "EMPTY_LIST" "Ljava/util/ImmutableCollections$ListN;")), .val (.ref (stRef Z "java/util/ImmutableCollections" "EMPTY_LIST" "Ljava/util/ImmutableCollections$ListN;")), .val (.ref (stRef Z "java/util/ImmutableCollections" "EMPTY_LIST" "Ljava/util/ImmutableCollections$ListN;"))] []
  exact Go.retV d_prog_30_method_1_63 rfl (by decide) (by decide) [] sn0 ⟨rfl, rfl, E_a, F_a_before⟩
abbrev R_m_tc01 : Room := { frames := 8, cells := 2, slots := 3, locals := 100 }
theorem pn_m_tc01 : plainFor (⟨"com/example/sumgen/sumgen/sql/Changes$TypeChange", "<init>", "(Lcom/example/sumgen/sumgen/model/SumType;Lcom/example/sumgen/sumgen/model/SumType;Ljava/util/List;Ljava/util/List;Ljava/util/List;Ljava/util/List;)V"⟩ : MethodName) = true := by first | (refine plainFor_of_name ?_; simp [plainName, overriddenIn]; done) | decide +kernel
abbrev Q_m_tc01 (Z : State) (a : Addr) (v1 : Value) (v2 : Value) (la : Addr) (lb : Addr) (lc : Addr) (ld : Addr) (b2 : Addr) (kb2 : ClassId) (y2 : Addr) (h0 : Heap) : Option Value → Heap → List Addr → Prop := fun res h' SN => res = none ∧ SN = [] ∧ Exa Z h' a "com/example/sumgen/sumgen/sql/Changes$TypeChange" ∧ Fld Z h' a "com/example/sumgen/sumgen/sql/Changes$TypeChange" "before" "Lcom/example/sumgen/sumgen/model/SumType;" v1
theorem ef_m_tc01 (mid : MethodId) (a : Addr) (v1 : Value) (v2 : Value) (la : Addr) (lb : Addr) (lc : Addr) (ld : Addr) (b2 : Addr) (kb2 : ClassId) (y2 : Addr) (hv_v1 : v1.isRef = true) (hv_v2 : v2.isRef = true) : entryFrame mid #[(.ref a), v1, v2, (.ref la), (.ref lb), (.ref lc), (.ref ld)] 7 = mkF mid 0 #[.val (.ref a), .val v1, .val v2, .val (.ref la), .val (.ref lb), .val (.ref lc), .val (.ref ld)] [] := by rcases ref_cases hv_v1 with rfl | ⟨_, rfl⟩ <;> rcases ref_cases hv_v2 with rfl | ⟨_, rfl⟩ <;> first | (simp [entryFrame, mkF, argsToLocals, Value.category]; done) | rfl
set_option maxRecDepth 65536 in
set_option maxHeartbeats 40000000 in
theorem m_tc01 {l : Launch} {Z : State} {a0 : Array Value} {n0 : Nat} (hw : ∀ d ∈ tables_1, d.before a0 Z = true) (hs : Stat Z) (a : Addr) (v1 : Value) (v2 : Value) (la : Addr) (lb : Addr) (lc : Addr) (ld : Addr) (b2 : Addr) (kb2 : ClassId) (y2 : Addr) (h0 : Heap) (E_a : Exa Z h0 a "com/example/sumgen/sumgen/sql/Changes$TypeChange") (F_a_before : Fld Z h0 a "com/example/sumgen/sumgen/sql/Changes$TypeChange" "before" "Lcom/example/sumgen/sumgen/model/SumType;" .null) (F_a_after : Fld Z h0 a "com/example/sumgen/sumgen/sql/Changes$TypeChange" "after" "Lcom/example/sumgen/sumgen/model/SumType;" .null) (F_a_addedFields : Fld Z h0 a "com/example/sumgen/sumgen/sql/Changes$TypeChange" "addedFields" "Ljava/util/List;" .null) (F_a_removedFields : Fld Z h0 a "com/example/sumgen/sumgen/sql/Changes$TypeChange" "removedFields" "Ljava/util/List;" .null) (F_a_variants : Fld Z h0 a "com/example/sumgen/sumgen/sql/Changes$TypeChange" "variants" "Ljava/util/List;" .null) (F_a_removedVariants : Fld Z h0 a "com/example/sumgen/sumgen/sql/Changes$TypeChange" "removedVariants" "Ljava/util/List;" .null) (E_la : Exa Z h0 la "java/util/ArrayList") (F_la_size : Fld Z h0 la "java/util/ArrayList" "size" "I" (.int (0 : Int32))) (E_lb : Exa Z h0 lb "java/util/ArrayList") (F_lb_size : Fld Z h0 lb "java/util/ArrayList" "size" "I" (.int (1 : Int32))) (F_lb_elementData : Fld Z h0 lb "java/util/ArrayList" "elementData" "[Ljava/lang/Object;" (.ref b2)) (V_b2 : Arv Z h0 b2 kb2 (.object "java/lang/Object") (10 : Int32) [(.ref y2), .null, .null, .null, .null, .null, .null, .null, .null, .null] .null) (E_b2 : Exa Z h0 b2 "[Ljava/lang/Object;") (E_y2 : Exa Z h0 y2 "com/example/sumgen/sumgen/model/Field") (E_lc : Exa Z h0 lc "java/util/ArrayList") (F_lc_size : Fld Z h0 lc "java/util/ArrayList" "size" "I" (.int (0 : Int32))) (E_ld : Exa Z h0 ld "java/util/ArrayList") (F_ld_size : Fld Z h0 ld "java/util/ArrayList" "size" "I" (.int (0 : Int32))) (hv_v1 : v1.isRef = true) (hv_v2 : v2.isRef = true) :
    Met l Z EL0 n0 NR0 KN0 N_33 prog_30_method_1_code 7 (Option.none : Option Jvm.ClassFile.FieldType) R_m_tc01 [a] #[(.ref a), v1, v2, (.ref la), (.ref lb), (.ref lc), (.ref ld)] h0 (Q_m_tc01 Z a v1 v2 la lb lc ld b2 kb2 y2 h0) := by
  refine Met.of_go pn_m_tc01 (fun mid => ef_m_tc01 mid a v1 v2 la lb lc ld b2 kb2 y2 hv_v1 hv_v2) ?_
  intro hO hWS
  refine Go.aload_n (pc' := 1) d_prog_30_method_1_0 rfl rfl rfl ?_
  refine Go.callI (pc' := 4) (z := N_0) (a := a) d_prog_30_method_1_1 rfl rfl (w_125 hw) (w_61 hw) (w_64 hw) (by decide) (argsL := []) (rest := []) (Pays.of_met (W := 0) (len := 3) (m_record hw hs a h0) (w_64 hw) (w_63 hw) (by decide) (by decide)) rfl rfl (lenOf pd_4 rfl) rfl (Nat.le_of_eq rfl) mem0 (by decide) (by decide) ?_
  rintro _ _ _ - - ⟨rfl, rfl, rfl⟩
  change Go _ _ _ _ _ _ _ _ _ _ _ _ _ _ [a] h0 0 0 4 #[.val (.ref a), .val v1, .val v2, .val (.ref la), .val (.ref lb), .val (.ref lc), .val (.ref ld)] []
  refine Go.aload_n (pc' := 5) d_prog_30_method_1_4 rfl rfl rfl ?_
  refine Go.callS (pc' := 8) (z := N_28) d_prog_30_method_1_5 rfl (w_126 hw) (w_67 hw) (w_68 hw) (w_69 hw) (by decide) (argsL := [(.ref la)]) (rest := []) (Pays.of_met (W := 0) (len := 3) (m_co0 hw hs la h0 E_la F_la_size) (w_69 hw) (w_68 hw) (by decide) (by decide)) rfl rfl (lenOf pd_16 rfl) rfl (Nat.le_of_eq rfl) mem0 (by decide) (by decide) ?_
  rintro _ _ _ - - ⟨rfl, rfl, rfl⟩
  change Go _ _ _ _ _ _ _ _ _ _ _ _ _ _ [a] h0 0 0 8 #[.val (.ref a), .val v1, .val v2, .val (.ref la), .val (.ref lb), .val (.ref lc), .val (.ref ld)] [(.ref (stRef Z "java/util/ImmutableCollections" "EMPTY_LIST" "Ljava/util/ImmutableCollections$ListN;"))]
  refine Go.astore_n (pc' := 9) (Ls' := #[.val (.ref a), .val v1, .val v2, .val (.ref (stRef Z "java/util/ImmutableCollections" "EMPTY_LIST" "Ljava/util/ImmutableCollections$ListN;")), .val (.ref lb), .val (.ref lc), .val (.ref ld)]) d_prog_30_method_1_8 rfl rfl rfl ?_
  refine Go.aload (pc' := 11) d_prog_30_method_1_9 rfl rfl rfl ?_
  refine Go.callS (pc' := 14) (z := N_28) d_prog_30_method_1_11 rfl (w_126 hw) (w_67 hw) (w_68 hw) (w_69 hw) (by decide) (argsL := [(.ref lb)]) (rest := []) (Pays.of_met (W := 0) (len := 3) (m_co1 hw hs lb b2 kb2 y2 h0 E_lb F_lb_size F_lb_elementData V_b2 E_b2 E_y2) (w_69 hw) (w_68 hw) (by decide) (by decide)) rfl rfl (lenOf pd_16 rfl) rfl (Nat.le_of_eq rfl) mem0 (by decide) (by decide) ?_
  rintro _ h171 _ K172 le173 ⟨b170, rfl, rfl, p174⟩
  replace E_a := E_a.keep K172
  replace F_a_before := F_a_before.keep K172 nin0
  replace F_a_after := F_a_after.keep K172 nin0
  replace F_a_addedFields := F_a_addedFields.keep K172 nin0
  replace F_a_removedFields := F_a_removedFields.keep K172 nin0
  replace F_a_variants := F_a_variants.keep K172 nin0
  replace F_a_removedVariants := F_a_removedVariants.keep K172 nin0
  replace E_la := E_la.keep K172
  replace F_la_size := F_la_size.keep K172 nin0
  replace E_lb := E_lb.keep K172
  replace F_lb_size := F_lb_size.keep K172 nin0
  replace F_lb_elementData := F_lb_elementData.keep K172 nin0
  replace V_b2 := V_b2.keep K172 nin0
  replace E_b2 := E_b2.keep K172
  replace E_y2 := E_y2.keep K172
  replace E_lc := E_lc.keep K172
  replace F_lc_size := F_lc_size.keep K172 nin0
  replace E_ld := E_ld.keep K172
  replace F_ld_size := F_ld_size.keep K172 nin0
  change Go _ _ _ _ _ _ _ _ _ _ _ _ _ _ [a] h171 2 3 14 #[.val (.ref a), .val v1, .val v2, .val (.ref (stRef Z "java/util/ImmutableCollections" "EMPTY_LIST" "Ljava/util/ImmutableCollections$ListN;")), .val (.ref lb), .val (.ref lc), .val (.ref ld)] [(.ref b170)]
  refine Go.astore (pc' := 16) (Ls' := #[.val (.ref a), .val v1, .val v2, .val (.ref (stRef Z "java/util/ImmutableCollections" "EMPTY_LIST" "Ljava/util/ImmutableCollections$ListN;")), .val (.ref b170), .val (.ref lc), .val (.ref ld)]) d_prog_30_method_1_14 rfl rfl rfl ?_
  refine Go.aload (pc' := 18) d_prog_30_method_1_16 rfl rfl rfl ?_
  refine Go.callS (pc' := 21) (z := N_28) d_prog_30_method_1_18 rfl (w_126 hw) (w_67 hw) (w_68 hw) (w_69 hw) (by decide) (argsL := [(.ref lc)]) (rest := []) (Pays.of_met (W := 0) (len := 3) (m_co0 hw hs lc h171 E_lc F_lc_size) (w_69 hw) (w_68 hw) (by decide) (by decide)) rfl rfl (lenOf pd_16 rfl) rfl (Nat.le_of_eq rfl) mem0 (by decide) (by decide) ?_
  rintro _ _ _ - - ⟨rfl, rfl, rfl⟩
  change Go _ _ _ _ _ _ _ _ _ _ _ _ _ _ [a] h171 2 3 21 #[.val (.ref a), .val v1, .val v2, .val (.ref (stRef Z "java/util/ImmutableCollections" "EMPTY_LIST" "Ljava/util/ImmutableCollections$ListN;")), .val (.ref b170), .val (.ref lc), .val (.ref ld)] [(.ref (stRef Z "java/util/ImmutableCollections" "EMPTY_LIST" "Ljava/util/ImmutableCollections$ListN;"))]
  refine Go.astore (pc' := 23) (Ls' := #[.val (.ref a), .val v1, .val v2, .val (.ref (stRef Z "java/util/ImmutableCollections" "EMPTY_LIST" "Ljava/util/ImmutableCollections$ListN;")), .val (.ref b170), .val (.ref (stRef Z "java/util/ImmutableCollections" "EMPTY_LIST" "Ljava/util/ImmutableCollections$ListN;")), .val (.ref ld)]) d_prog_30_method_1_21 rfl rfl rfl ?_
  refine Go.aload (pc' := 25) d_prog_30_method_1_23 rfl rfl rfl ?_
  refine Go.callS (pc' := 28) (z := N_28) d_prog_30_method_1_25 rfl (w_126 hw) (w_67 hw) (w_68 hw) (w_69 hw) (by decide) (argsL := [(.ref ld)]) (rest := []) (Pays.of_met (W := 0) (len := 3) (m_co0 hw hs ld h171 E_ld F_ld_size) (w_69 hw) (w_68 hw) (by decide) (by decide)) rfl rfl (lenOf pd_16 rfl) rfl (Nat.le_of_eq rfl) mem0 (by decide) (by decide) ?_
  rintro _ _ _ - - ⟨rfl, rfl, rfl⟩
  change Go _ _ _ _ _ _ _ _ _ _ _ _ _ _ [a] h171 2 3 28 #[.val (.ref a), .val v1, .val v2, .val (.ref (stRef Z "java/util/ImmutableCollections" "EMPTY_LIST" "Ljava/util/ImmutableCollections$ListN;")), .val (.ref b170), .val (.ref (stRef Z "java/util/ImmutableCollections" "EMPTY_LIST" "Ljava/util/ImmutableCollections$ListN;")), .val (.ref ld)] [(.ref (stRef Z "java/util/ImmutableCollections" "EMPTY_LIST" "Ljava/util/ImmutableCollections$ListN;"))]
  refine Go.astore (pc' := 30) (Ls' := #[.val (.ref a), .val v1, .val v2, .val (.ref (stRef Z "java/util/ImmutableCollections" "EMPTY_LIST" "Ljava/util/ImmutableCollections$ListN;")), .val (.ref b170), .val (.ref (stRef Z "java/util/ImmutableCollections" "EMPTY_LIST" "Ljava/util/ImmutableCollections$ListN;")), .val (.ref (stRef Z "java/util/ImmutableCollections" "EMPTY_LIST" "Ljava/util/ImmutableCollections$ListN;"))]) d_prog_30_method_1_28 rfl rfl rfl ?_
  refine Go.aload_n (pc' := 31) d_prog_30_method_1_30 rfl rfl rfl ?_
  refine Go.aload_n (pc' := 32) d_prog_30_method_1_31 rfl rfl hv_v1 ?_
  refine Go.putF (pc' := 35) d_prog_30_method_1_32 rfl (List.mem_of_getElem? (i := 0) rfl) (host := "") (Or.inl (w_127 hw)) Via.refl F_a_before E_a (Or.inr ⟨(w_128 hw), rfl, rfl⟩) (w_120 hw) (ty := (.object "com/example/sumgen/sumgen/model/SumType")) (by decide) (by rcases ref_cases hv_v1 with rfl | ⟨_, rfl⟩ <;> rfl) (by rcases ref_cases hv_v1 with rfl | ⟨_, rfl⟩ <;> rfl) ?_
  intro h175 W176
  replace F_a_before := F_a_before.same W176
  replace E_a := E_a.wr W176
  replace F_a_after := F_a_after.other W176 (Or.inr (slot_ne (Or.inr (w_130 hw)) (Or.inr (w_128 hw)) (by decide) (t := (.object "com/example/sumgen/sumgen/model/SumType")) (t' := (.object "com/example/sumgen/sumgen/model/SumType")) (by decide) (by decide)))
  replace F_a_addedFields := F_a_addedFields.other W176 (Or.inr (slot_ne (Or.inr (w_132 hw)) (Or.inr (w_128 hw)) (by decide) (t := (.object "java/util/List")) (t' := (.object "com/example/sumgen/sumgen/model/SumType")) (by decide) (by decide)))
  replace F_a_removedFields := F_a_removedFields.other W176 (Or.inr (slot_ne (Or.inr (w_134 hw)) (Or.inr (w_128 hw)) (by decide) (t := (.object "java/util/List")) (t' := (.object "com/example/sumgen/sumgen/model/SumType")) (by decide) (by decide)))
  replace F_a_variants := F_a_variants.other W176 (Or.inr (slot_ne (Or.inr (w_136 hw)) (Or.inr (w_128 hw)) (by decide) (t := (.object "java/util/List")) (t' := (.object "com/example/sumgen/sumgen/model/SumType")) (by decide) (by decide)))
  replace F_a_removedVariants := F_a_removedVariants.other W176 (Or.inr (slot_ne (Or.inr (w_138 hw)) (Or.inr (w_128 hw)) (by decide) (t := (.object "java/util/List")) (t' := (.object "com/example/sumgen/sumgen/model/SumType")) (by decide) (by decide)))
  replace E_la := E_la.wr W176
  replace E_lb := E_lb.wr W176
  replace E_b2 := E_b2.wr W176
  replace E_y2 := E_y2.wr W176
  replace E_lc := E_lc.wr W176
  replace E_ld := E_ld.wr W176
  change Go _ _ _ _ _ _ _ _ _ _ _ _ _ _ [a] h175 2 3 35 #[.val (.ref a), .val v1, .val v2, .val (.ref (stRef Z "java/util/ImmutableCollections" "EMPTY_LIST" "Ljava/util/ImmutableCollections$ListN;")), .val (.ref b170), .val (.ref (stRef Z "java/util/ImmutableCollections" "EMPTY_LIST" "Ljava/util/ImmutableCollections$ListN;")), .val (.ref (stRef Z "java/util/ImmutableCollections" "EMPTY_LIST" "Ljava/util/ImmutableCollections$ListN;"))] []
  refine Go.aload_n (pc' := 36) d_prog_30_method_1_35 rfl rfl rfl ?_
  refine Go.aload_n (pc' := 37) d_prog_30_method_1_36 rfl rfl hv_v2 ?_
  refine Go.putF (pc' := 40) d_prog_30_method_1_37 rfl (List.mem_of_getElem? (i := 0) rfl) (host := "") (Or.inl (w_129 hw)) Via.refl F_a_after E_a (Or.inr ⟨(w_130 hw), rfl, rfl⟩) (w_120 hw) (ty := (.object "com/example/sumgen/sumgen/model/SumType")) (by decide) (by rcases ref_cases hv_v2 with rfl | ⟨_, rfl⟩ <;> rfl) (by rcases ref_cases hv_v2 with rfl | ⟨_, rfl⟩ <;> rfl) ?_
  intro h177 W178
  replace F_a_after := F_a_after.same W178
  replace E_a := E_a.wr W178
  replace F_a_addedFields := F_a_addedFields.other W178 (Or.inr (slot_ne (Or.inr (w_132 hw)) (Or.inr (w_130 hw)) (by decide) (t := (.object "java/util/List")) (t' := (.object "com/example/sumgen/sumgen/model/SumType")) (by decide) (by decide)))
  replace F_a_removedFields := F_a_removedFields.other W178 (Or.inr (slot_ne (Or.inr (w_134 hw)) (Or.inr (w_130 hw)) (by decide) (t := (.object "java/util/List")) (t' := (.object "com/example/sumgen/sumgen/model/SumType")) (by decide) (by decide)))
  replace F_a_variants := F_a_variants.other W178 (Or.inr (slot_ne (Or.inr (w_136 hw)) (Or.inr (w_130 hw)) (by decide) (t := (.object "java/util/List")) (t' := (.object "com/example/sumgen/sumgen/model/SumType")) (by decide) (by decide)))
  replace F_a_removedVariants := F_a_removedVariants.other W178 (Or.inr (slot_ne (Or.inr (w_138 hw)) (Or.inr (w_130 hw)) (by decide) (t := (.object "java/util/List")) (t' := (.object "com/example/sumgen/sumgen/model/SumType")) (by decide) (by decide)))
  replace E_la := E_la.wr W178
  replace E_lb := E_lb.wr W178
  replace E_b2 := E_b2.wr W178
  replace E_y2 := E_y2.wr W178
  replace E_lc := E_lc.wr W178
  replace E_ld := E_ld.wr W178
  replace F_a_before := F_a_before.other W178 (Or.inr (slot_ne (Or.inr (w_128 hw)) (Or.inr (w_130 hw)) (by decide) (t := (.object "com/example/sumgen/sumgen/model/SumType")) (t' := (.object "com/example/sumgen/sumgen/model/SumType")) (by decide) (by decide)))
  change Go _ _ _ _ _ _ _ _ _ _ _ _ _ _ [a] h177 2 3 40 #[.val (.ref a), .val v1, .val v2, .val (.ref (stRef Z "java/util/ImmutableCollections" "EMPTY_LIST" "Ljava/util/ImmutableCollections$ListN;")), .val (.ref b170), .val (.ref (stRef Z "java/util/ImmutableCollections" "EMPTY_LIST" "Ljava/util/ImmutableCollections$ListN;")), .val (.ref (stRef Z "java/util/ImmutableCollections" "EMPTY_LIST" "Ljava/util/ImmutableCollections$ListN;"))] []
  refine Go.aload_n (pc' := 41) d_prog_30_method_1_40 rfl rfl rfl ?_
  refine Go.aload_n (pc' := 42) d_prog_30_method_1_41 rfl rfl rfl ?_
  refine Go.putF (pc' := 45) d_prog_30_method_1_42 rfl (List.mem_of_getElem? (i := 0) rfl) (host := "") (Or.inl (w_131 hw)) Via.refl F_a_addedFields E_a (Or.inr ⟨(w_132 hw), rfl, rfl⟩) (w_120 hw) (ty := (.object "java/util/List")) (by decide) rfl rfl ?_
  intro h179 W180
  replace F_a_addedFields := F_a_addedFields.same W180
  replace E_a := E_a.wr W180
  replace F_a_removedFields := F_a_removedFields.other W180 (Or.inr (slot_ne (Or.inr (w_134 hw)) (Or.inr (w_132 hw)) (by decide) (t := (.object "java/util/List")) (t' := (.object "java/util/List")) (by decide) (by decide)))
  replace F_a_variants := F_a_variants.other W180 (Or.inr (slot_ne (Or.inr (w_136 hw)) (Or.inr (w_132 hw)) (by decide) (t := (.object "java/util/List")) (t' := (.object "java/util/List")) (by decide) (by decide)))
  replace F_a_removedVariants := F_a_removedVariants.other W180 (Or.inr (slot_ne (Or.inr (w_138 hw)) (Or.inr (w_132 hw)) (by decide) (t := (.object "java/util/List")) (t' := (.object "java/util/List")) (by decide) (by decide)))
  replace E_la := E_la.wr W180
  replace E_lb := E_lb.wr W180
  replace E_b2 := E_b2.wr W180
  replace E_y2 := E_y2.wr W180
  replace E_lc := E_lc.wr W180
  replace E_ld := E_ld.wr W180
  replace F_a_before := F_a_before.other W180 (Or.inr (slot_ne (Or.inr (w_128 hw)) (Or.inr (w_132 hw)) (by decide) (t := (.object "com/example/sumgen/sumgen/model/SumType")) (t' := (.object "java/util/List")) (by decide) (by decide)))
  replace F_a_after := F_a_after.other W180 (Or.inr (slot_ne (Or.inr (w_130 hw)) (Or.inr (w_132 hw)) (by decide) (t := (.object "com/example/sumgen/sumgen/model/SumType")) (t' := (.object "java/util/List")) (by decide) (by decide)))
  change Go _ _ _ _ _ _ _ _ _ _ _ _ _ _ [a] h179 2 3 45 #[.val (.ref a), .val v1, .val v2, .val (.ref (stRef Z "java/util/ImmutableCollections" "EMPTY_LIST" "Ljava/util/ImmutableCollections$ListN;")), .val (.ref b170), .val (.ref (stRef Z "java/util/ImmutableCollections" "EMPTY_LIST" "Ljava/util/ImmutableCollections$ListN;")), .val (.ref (stRef Z "java/util/ImmutableCollections" "EMPTY_LIST" "Ljava/util/ImmutableCollections$ListN;"))] []
  refine Go.aload_n (pc' := 46) d_prog_30_method_1_45 rfl rfl rfl ?_
  refine Go.aload (pc' := 48) d_prog_30_method_1_46 rfl rfl rfl ?_
  refine Go.putF (pc' := 51) d_prog_30_method_1_48 rfl (List.mem_of_getElem? (i := 0) rfl) (host := "") (Or.inl (w_133 hw)) Via.refl F_a_removedFields E_a (Or.inr ⟨(w_134 hw), rfl, rfl⟩) (w_120 hw) (ty := (.object "java/util/List")) (by decide) rfl rfl ?_
  intro h181 W182
  replace F_a_removedFields := F_a_removedFields.same W182
  replace E_a := E_a.wr W182
  replace F_a_variants := F_a_variants.other W182 (Or.inr (slot_ne (Or.inr (w_136 hw)) (Or.inr (w_134 hw)) (by decide) (t := (.object "java/util/List")) (t' := (.object "java/util/List")) (by decide) (by decide)))
  replace F_a_removedVariants := F_a_removedVariants.other W182 (Or.inr (slot_ne (Or.inr (w_138 hw)) (Or.inr (w_134 hw)) (by decide) (t := (.object "java/util/List")) (t' := (.object "java/util/List")) (by decide) (by decide)))
  replace E_la := E_la.wr W182
  replace E_lb := E_lb.wr W182
  replace E_b2 := E_b2.wr W182
  replace E_y2 := E_y2.wr W182
  replace E_lc := E_lc.wr W182
  replace E_ld := E_ld.wr W182
  replace F_a_before := F_a_before.other W182 (Or.inr (slot_ne (Or.inr (w_128 hw)) (Or.inr (w_134 hw)) (by decide) (t := (.object "com/example/sumgen/sumgen/model/SumType")) (t' := (.object "java/util/List")) (by decide) (by decide)))
  replace F_a_after := F_a_after.other W182 (Or.inr (slot_ne (Or.inr (w_130 hw)) (Or.inr (w_134 hw)) (by decide) (t := (.object "com/example/sumgen/sumgen/model/SumType")) (t' := (.object "java/util/List")) (by decide) (by decide)))
  replace F_a_addedFields := F_a_addedFields.other W182 (Or.inr (slot_ne (Or.inr (w_132 hw)) (Or.inr (w_134 hw)) (by decide) (t := (.object "java/util/List")) (t' := (.object "java/util/List")) (by decide) (by decide)))
  change Go _ _ _ _ _ _ _ _ _ _ _ _ _ _ [a] h181 2 3 51 #[.val (.ref a), .val v1, .val v2, .val (.ref (stRef Z "java/util/ImmutableCollections" "EMPTY_LIST" "Ljava/util/ImmutableCollections$ListN;")), .val (.ref b170), .val (.ref (stRef Z "java/util/ImmutableCollections" "EMPTY_LIST" "Ljava/util/ImmutableCollections$ListN;")), .val (.ref (stRef Z "java/util/ImmutableCollections" "EMPTY_LIST" "Ljava/util/ImmutableCollections$ListN;"))] []
  refine Go.aload_n (pc' := 52) d_prog_30_method_1_51 rfl rfl rfl ?_
  refine Go.aload (pc' := 54) d_prog_30_method_1_52 rfl rfl rfl ?_
  refine Go.putF (pc' := 57) d_prog_30_method_1_54 rfl (List.mem_of_getElem? (i := 0) rfl) (host := "") (Or.inl (w_135 hw)) Via.refl F_a_variants E_a (Or.inr ⟨(w_136 hw), rfl, rfl⟩) (w_120 hw) (ty := (.object "java/util/List")) (by decide) rfl rfl ?_
  intro h183 W184
  replace F_a_variants := F_a_variants.same W184
  replace E_a := E_a.wr W184
  replace F_a_removedVariants := F_a_removedVariants.other W184 (Or.inr (slot_ne (Or.inr (w_138 hw)) (Or.inr (w_136 hw)) (by decide) (t := (.object "java/util/List")) (t' := (.object "java/util/List")) (by decide) (by decide)))
  replace E_la := E_la.wr W184
  replace E_lb := E_lb.wr W184
  replace E_b2 := E_b2.wr W184
  replace E_y2 := E_y2.wr W184
  replace E_lc := E_lc.wr W184
  replace E_ld := E_ld.wr W184
  replace F_a_before := F_a_before.other W184 (Or.inr (slot_ne (Or.inr (w_128 hw)) (Or.inr (w_136 hw)) (by decide) (t := (.object "com/example/sumgen/sumgen/model/SumType")) (t' := (.object "java/util/List")) (by decide) (by decide)))
  replace F_a_after := F_a_after.other W184 (Or.inr (slot_ne (Or.inr (w_130 hw)) (Or.inr (w_136 hw)) (by decide) (t := (.object "com/example/sumgen/sumgen/model/SumType")) (t' := (.object "java/util/List")) (by decide) (by decide)))
  replace F_a_addedFields := F_a_addedFields.other W184 (Or.inr (slot_ne (Or.inr (w_132 hw)) (Or.inr (w_136 hw)) (by decide) (t := (.object "java/util/List")) (t' := (.object "java/util/List")) (by decide) (by decide)))
  replace F_a_removedFields := F_a_removedFields.other W184 (Or.inr (slot_ne (Or.inr (w_134 hw)) (Or.inr (w_136 hw)) (by decide) (t := (.object "java/util/List")) (t' := (.object "java/util/List")) (by decide) (by decide)))
  change Go _ _ _ _ _ _ _ _ _ _ _ _ _ _ [a] h183 2 3 57 #[.val (.ref a), .val v1, .val v2, .val (.ref (stRef Z "java/util/ImmutableCollections" "EMPTY_LIST" "Ljava/util/ImmutableCollections$ListN;")), .val (.ref b170), .val (.ref (stRef Z "java/util/ImmutableCollections" "EMPTY_LIST" "Ljava/util/ImmutableCollections$ListN;")), .val (.ref (stRef Z "java/util/ImmutableCollections" "EMPTY_LIST" "Ljava/util/ImmutableCollections$ListN;"))] []
  refine Go.aload_n (pc' := 58) d_prog_30_method_1_57 rfl rfl rfl ?_
  refine Go.aload (pc' := 60) d_prog_30_method_1_58 rfl rfl rfl ?_
  refine Go.putF (pc' := 63) d_prog_30_method_1_60 rfl (List.mem_of_getElem? (i := 0) rfl) (host := "") (Or.inl (w_137 hw)) Via.refl F_a_removedVariants E_a (Or.inr ⟨(w_138 hw), rfl, rfl⟩) (w_120 hw) (ty := (.object "java/util/List")) (by decide) rfl rfl ?_
  intro h185 W186
  replace F_a_removedVariants := F_a_removedVariants.same W186
  replace E_a := E_a.wr W186
  replace E_la := E_la.wr W186
  replace E_lb := E_lb.wr W186
  replace E_b2 := E_b2.wr W186
  replace E_y2 := E_y2.wr W186
  replace E_lc := E_lc.wr W186
  replace E_ld := E_ld.wr W186
  replace F_a_before := F_a_before.other W186 (Or.inr (slot_ne (Or.inr (w_128 hw)) (Or.inr (w_138 hw)) (by decide) (t := (.object "com/example/sumgen/sumgen/model/SumType")) (t' := (.object "java/util/List")) (by decide) (by decide)))
  replace F_a_after := F_a_after.other W186 (Or.inr (slot_ne (Or.inr (w_130 hw)) (Or.inr (w_138 hw)) (by decide) (t := (.object "com/example/sumgen/sumgen/model/SumType")) (t' := (.object "java/util/List")) (by decide) (by decide)))
  replace F_a_addedFields := F_a_addedFields.other W186 (Or.inr (slot_ne (Or.inr (w_132 hw)) (Or.inr (w_138 hw)) (by decide) (t := (.object "java/util/List")) (t' := (.object "java/util/List")) (by decide) (by decide)))
  replace F_a_removedFields := F_a_removedFields.other W186 (Or.inr (slot_ne (Or.inr (w_134 hw)) (Or.inr (w_138 hw)) (by decide) (t := (.object "java/util/List")) (t' := (.object "java/util/List")) (by decide) (by decide)))
  replace F_a_variants := F_a_variants.other W186 (Or.inr (slot_ne (Or.inr (w_136 hw)) (Or.inr (w_138 hw)) (by decide) (t := (.object "java/util/List")) (t' := (.object "java/util/List")) (by decide) (by decide)))
  change Go _ _ _ _ _ _ _ _ _ _ _ _ _ _ [a] h185 2 3 63 #[.val (.ref a), .val v1, .val v2, .val (.ref (stRef Z "java/util/ImmutableCollections" "EMPTY_LIST" "Ljava/util/ImmutableCollections$ListN;")), .val (.ref b170), .val (.ref (stRef Z "java/util/ImmutableCollections" "EMPTY_LIST" "Ljava/util/ImmutableCollections$ListN;")), .val (.ref (stRef Z "java/util/ImmutableCollections" "EMPTY_LIST" "Ljava/util/ImmutableCollections$ListN;"))] []
  exact Go.retV d_prog_30_method_1_63 rfl (by decide) (by decide) [] sn0 ⟨rfl, rfl, E_a, F_a_before⟩
abbrev R_m_tc10 : Room := { frames := 8, cells := 2, slots := 3, locals := 100 }
theorem pn_m_tc10 : plainFor (⟨"com/example/sumgen/sumgen/sql/Changes$TypeChange", "<init>", "(Lcom/example/sumgen/sumgen/model/SumType;Lcom/example/sumgen/sumgen/model/SumType;Ljava/util/List;Ljava/util/List;Ljava/util/List;Ljava/util/List;)V"⟩ : MethodName) = true := by first | (refine plainFor_of_name ?_; simp [plainName, overriddenIn]; done) | decide +kernel
abbrev Q_m_tc10 (Z : State) (a : Addr) (v1 : Value) (v2 : Value) (la : Addr) (lb : Addr) (lc : Addr) (ld : Addr) (b1 : Addr) (kb1 : ClassId) (y1 : Addr) (h0 : Heap) : Option Value → Heap → List Addr → Prop := fun res h' SN => res = none ∧ SN = [] ∧ Exa Z h' a "com/example/sumgen/sumgen/sql/Changes$TypeChange" ∧ Fld Z h' a "com/example/sumgen/sumgen/sql/Changes$TypeChange" "before" "Lcom/example/sumgen/sumgen/model/SumType;" v1
theorem ef_m_tc10 (mid : MethodId) (a : Addr) (v1 : Value) (v2 : Value) (la : Addr) (lb : Addr) (lc : Addr) (ld : Addr) (b1 : Addr) (kb1 : ClassId) (y1 : Addr) (hv_v1 : v1.isRef = true) (hv_v2 : v2.isRef = true) : entryFrame mid #[(.ref a), v1, v2, (.ref la), (.ref lb), (.ref lc), (.ref ld)] 7 = mkF mid 0 #[.val (.ref a), .val v1, .val v2, .val (.ref la), .val (.ref lb), .val (.ref lc), .val (.ref ld)] [] := by rcases ref_cases hv_v1 with rfl | ⟨_, rfl⟩ <;> rcases ref_cases hv_v2 with rfl | ⟨_, rfl⟩ <;> first | (simp [entryFrame, mkF, argsToLocals, Value.category]; done) | rfl
set_option maxRecDepth 65536 in
set_option maxHeartbeats 40000000 in
theorem m_tc10 {l : Launch} {Z : State} {a0 : Array Value} {n0 : Nat} (hw : ∀ d ∈ tables_1, d.before a0 Z = true) (hs : Stat Z) (a : Addr) (v1 : Value) (v2 : Value) (la : Addr) (lb : Addr) (lc : Addr) (ld : Addr) (b1 : Addr) (kb1 : ClassId) (y1 : Addr) (h0 : Heap) (E_a : Exa Z h0 a "com/example/sumgen/sumgen/sql/Changes$TypeChange") (F_a_before : Fld Z h0 a "com/example/sumgen/sumgen/sql/Changes$TypeChange" "before" "Lcom/example/sumgen/sumgen/model/SumType;" .null) (F_a_after : Fld Z h0 a "com/example/sumgen/sumgen/sql/Changes$TypeChange" "after" "Lcom/example/sumgen/sumgen/model/SumType;" .null) (F_a_addedFields : Fld Z h0 a "com/example/sumgen/sumgen/sql/Changes$TypeChange" "addedFields" "Ljava/util/List;" .null) (F_a_removedFields : Fld Z h0 a "com/example/sumgen/sumgen/sql/Changes$TypeChange" "removedFields" "Ljava/util/List;" .null) (F_a_variants : Fld Z h0 a "com/example/sumgen/sumgen/sql/Changes$TypeChange" "variants" "Ljava/util/List;" .null) (F_a_removedVariants : Fld Z h0 a "com/example/sumgen/sumgen/sql/Changes$TypeChange" "removedVariants" "Ljava/util/List;" .null) (E_la : Exa Z h0 la "java/util/ArrayList") (F_la_size : Fld Z h0 la "java/util/ArrayList" "size" "I" (.int (1 : Int32))) (F_la_elementData : Fld Z h0 la "java/util/ArrayList" "elementData" "[Ljava/lang/Object;" (.ref b1)) (V_b1 : Arv Z h0 b1 kb1 (.object "java/lang/Object") (10 : Int32) [(.ref y1), .null, .null, .null, .null, .null, .null, .null, .null, .null] .null) (E_b1 : Exa Z h0 b1 "[Ljava/lang/Object;") (E_y1 : Exa Z h0 y1 "com/example/sumgen/sumgen/model/Field") (E_lb : Exa Z h0 lb "java/util/ArrayList") (F_lb_size : Fld Z h0 lb "java/util/ArrayList" "size" "I" (.int (0 : Int32))) (E_lc : Exa Z h0 lc "java/util/ArrayList") (F_lc_size : Fld Z h0 lc "java/util/ArrayList" "size" "I" (.int (0 : Int32))) (E_ld : Exa Z h0 ld "java/util/ArrayList") (F_ld_size : Fld Z h0 ld "java/util/ArrayList" "size" "I" (.int (0 : Int32))) (hv_v1 : v1.isRef = true) (hv_v2 : v2.isRef = true) :
    Met l Z EL0 n0 NR0 KN0 N_33 prog_30_method_1_code 7 (Option.none : Option Jvm.ClassFile.FieldType) R_m_tc10 [a] #[(.ref a), v1, v2, (.ref la), (.ref lb), (.ref lc), (.ref ld)] h0 (Q_m_tc10 Z a v1 v2 la lb lc ld b1 kb1 y1 h0) := by
  refine Met.of_go pn_m_tc10 (fun mid => ef_m_tc10 mid a v1 v2 la lb lc ld b1 kb1 y1 hv_v1 hv_v2) ?_
  intro hO hWS
  refine Go.aload_n (pc' := 1) d_prog_30_method_1_0 rfl rfl rfl ?_
  refine Go.callI (pc' := 4) (z := N_0) (a := a) d_prog_30_method_1_1 rfl rfl (w_125 hw) (w_61 hw) (w_64 hw) (by decide) (argsL := []) (rest := []) (Pays.of_met (W := 0) (len := 3) (m_record hw hs a h0) (w_64 hw) (w_63 hw) (by decide) (by decide)) rfl rfl (lenOf pd_4 rfl) rfl (Nat.le_of_eq rfl) mem0 (by decide) (by decide) ?_
  rintro _ _ _ - - ⟨rfl, rfl, rfl⟩
  change Go _ _ _ _ _ _ _ _ _ _ _ _ _ _ [a] h0 0 0 4 #[.val (.ref a), .val v1, .val v2, .val (.ref la), .val (.ref lb), .val (.ref lc), .val (.ref ld)] []
  refine Go.aload_n (pc' := 5) d_prog_30_method_1_4 rfl rfl rfl ?_
  refine Go.callS (pc' := 8) (z := N_28) d_prog_30_method_1_5 rfl (w_126 hw) (w_67 hw) (w_68 hw) (w_69 hw) (by decide) (argsL := [(.ref la)]) (rest := []) (Pays.of_met (W := 0) (len := 3) (m_co1 hw hs la b1 kb1 y1 h0 E_la F_la_size F_la_elementData V_b1 E_b1 E_y1) (w_69 hw) (w_68 hw) (by decide) (by decide)) rfl rfl (lenOf pd_16 rfl) rfl (Nat.le_of_eq rfl) mem0 (by decide) (by decide) ?_
  rintro _ h188 _ K189 le190 ⟨b187, rfl, rfl, p191⟩
  replace E_a := E_a.keep K189
  replace F_a_before := F_a_before.keep K189 nin0
  replace F_a_after := F_a_after.keep K189 nin0
  replace F_a_addedFields := F_a_addedFields.keep K189 nin0
  replace F_a_removedFields := F_a_removedFields.keep K189 nin0
  replace F_a_variants := F_a_variants.keep K189 nin0
  replace F_a_removedVariants := F_a_removedVariants.keep K189 nin0
  replace E_la := E_la.keep K189
  replace F_la_size := F_la_size.keep K189 nin0
  replace F_la_elementData := F_la_elementData.keep K189 nin0
  replace V_b1 := V_b1.keep K189 nin0
  replace E_b1 := E_b1.keep K189
  replace E_y1 := E_y1.keep K189
  replace E_lb := E_lb.keep K189
  replace F_lb_size := F_lb_size.keep K189 nin0
  replace E_lc := E_lc.keep K189
  replace F_lc_size := F_lc_size.keep K189 nin0
  replace E_ld := E_ld.keep K189
  replace F_ld_size := F_ld_size.keep K189 nin0
  change Go _ _ _ _ _ _ _ _ _ _ _ _ _ _ [a] h188 2 3 8 #[.val (.ref a), .val v1, .val v2, .val (.ref la), .val (.ref lb), .val (.ref lc), .val (.ref ld)] [(.ref b187)]
  refine Go.astore_n (pc' := 9) (Ls' := #[.val (.ref a), .val v1, .val v2, .val (.ref b187), .val (.ref lb), .val (.ref lc), .val (.ref ld)]) d_prog_30_method_1_8 rfl rfl rfl ?_
  refine Go.aload (pc' := 11) d_prog_30_method_1_9 rfl rfl rfl ?_
  refine Go.callS (pc' := 14) (z := N_28) d_prog_30_method_1_11 rfl (w_126 hw) (w_67 hw) (w_68 hw) (w_69 hw) (by decide) (argsL := [(.ref lb)]) (rest := []) (Pays.of_met (W := 0) (len := 3) (m_co0 hw hs lb h188 E_lb F_lb_size) (w_69 hw) (w_68 hw) (by decide) (by decide)) rfl rfl (lenOf pd_16 rfl) rfl (Nat.le_of_eq rfl) mem0 (by decide) (by decide) ?_
  rintro _ _ _ - - ⟨rfl, rfl, rfl⟩
  change Go _ _ _ _ _ _ _ _ _ _ _ _ _ _ [a] h188 2 3 14 #[.val (.ref a), .val v1, .val v2, .val (.ref b187), .val (.ref lb), .val (.ref lc), .val (.ref ld)] [(.ref (stRef Z "java/util/ImmutableCollections" "EMPTY_LIST" "Ljava/util/ImmutableCollections$ListN;"))]
  refine Go.astore (pc' := 16) (Ls' := #[.val (.ref a), .val v1, .val v2, .val (.ref b187), .val (.ref (stRef Z "java/util/ImmutableCollections" "EMPTY_LIST" "Ljava/util/ImmutableCollections$ListN;")), .val (.ref lc), .val (.ref ld)]) d_prog_30_method_1_14 rfl rfl rfl ?_
  refine Go.aload (pc' := 18) d_prog_30_method_1_16 rfl rfl rfl ?_
  refine Go.callS (pc' := 21) (z := N_28) d_prog_30_method_1_18 rfl (w_126 hw) (w_67 hw) (w_68 hw) (w_69 hw) (by decide) (argsL := [(.ref lc)]) (rest := []) (Pays.of_met (W := 0) (len := 3) (m_co0 hw hs lc h188 E_lc F_lc_size) (w_69 hw) (w_68 hw) (by decide) (by decide)) rfl rfl (lenOf pd_16 rfl) rfl (Nat.le_of_eq rfl) mem0 (by decide) (by decide) ?_
  rintro _ _ _ - - ⟨rfl, rfl, rfl⟩
  change Go _ _ _ _ _ _ _ _ _ _ _ _ _ _ [a] h188 2 3 21 #[.val (.ref a), .val v1, .val v2, .val (.ref b187), .val (.ref (stRef Z "java/util/ImmutableCollections" "EMPTY_LIST" "Ljava/util/ImmutableCollections$ListN;")), .val (.ref lc), .val (.ref ld)] [(.ref (stRef Z "java/util/ImmutableCollections" "EMPTY_LIST" "Ljava/util/ImmutableCollections$ListN;"))]
  refine Go.astore (pc' := 23) (Ls' := #[.val (.ref a), .val v1, .val v2, .val (.ref b187), .val (.ref (stRef Z "java/util/ImmutableCollections" "EMPTY_LIST" "Ljava/util/ImmutableCollections$ListN;")), .val (.ref (stRef Z "java/util/ImmutableCollections" "EMPTY_LIST" "Ljava/util/ImmutableCollections$ListN;")), .val (.ref ld)]) d_prog_30_method_1_21 rfl rfl rfl ?_
  refine Go.aload (pc' := 25) d_prog_30_method_1_23 rfl rfl rfl ?_
  refine Go.callS (pc' := 28) (z := N_28) d_prog_30_method_1_25 rfl (w_126 hw) (w_67 hw) (w_68 hw) (w_69 hw) (by decide) (argsL := [(.ref ld)]) (rest := []) (Pays.of_met (W := 0) (len := 3) (m_co0 hw hs ld h188 E_ld F_ld_size) (w_69 hw) (w_68 hw) (by decide) (by decide)) rfl rfl (lenOf pd_16 rfl) rfl (Nat.le_of_eq rfl) mem0 (by decide) (by decide) ?_
  rintro _ _ _ - - ⟨rfl, rfl, rfl⟩
  change Go _ _ _ _ _ _ _ _ _ _ _ _ _ _ [a] h188 2 3 28 #[.val (.ref a), .val v1, .val v2, .val (.ref b187), .val (.ref (stRef Z "java/util/ImmutableCollections" "EMPTY_LIST" "Ljava/util/ImmutableCollections$ListN;")), .val (.ref (stRef Z "java/util/ImmutableCollections" "EMPTY_LIST" "Ljava/util/ImmutableCollections$ListN;")), .val (.ref ld)] [(.ref (stRef Z "java/util/ImmutableCollections" "EMPTY_LIST" "Ljava/util/ImmutableCollections$ListN;"))]
  refine Go.astore (pc' := 30) (Ls' := #[.val (.ref a), .val v1, .val v2, .val (.ref b187), .val (.ref (stRef Z "java/util/ImmutableCollections" "EMPTY_LIST" "Ljava/util/ImmutableCollections$ListN;")), .val (.ref (stRef Z "java/util/ImmutableCollections" "EMPTY_LIST" "Ljava/util/ImmutableCollections$ListN;")), .val (.ref (stRef Z "java/util/ImmutableCollections" "EMPTY_LIST" "Ljava/util/ImmutableCollections$ListN;"))]) d_prog_30_method_1_28 rfl rfl rfl ?_
  refine Go.aload_n (pc' := 31) d_prog_30_method_1_30 rfl rfl rfl ?_
  refine Go.aload_n (pc' := 32) d_prog_30_method_1_31 rfl rfl hv_v1 ?_
  refine Go.putF (pc' := 35) d_prog_30_method_1_32 rfl (List.mem_of_getElem? (i := 0) rfl) (host := "") (Or.inl (w_127 hw)) Via.refl F_a_before E_a (Or.inr ⟨(w_128 hw), rfl, rfl⟩) (w_120 hw) (ty := (.object "com/example/sumgen/sumgen/model/SumType")) (by decide) (by rcases ref_cases hv_v1 with rfl | ⟨_, rfl⟩ <;> rfl) (by rcases ref_cases hv_v1 with rfl | ⟨_, rfl⟩ <;> rfl) ?_
  intro h192 W193
  replace F_a_before := F_a_before.same W193
  replace E_a := E_a.wr W193
  replace F_a_after := F_a_after.other W193 (Or.inr (slot_ne (Or.inr (w_130 hw)) (Or.inr (w_128 hw)) (by decide) (t := (.object "com/example/sumgen/sumgen/model/SumType")) (t' := (.object "com/example/sumgen/sumgen/model/SumType")) (by decide) (by decide)))
  replace F_a_addedFields := F_a_addedFields.other W193 (Or.inr (slot_ne (Or.inr (w_132 hw)) (Or.inr (w_128 hw)) (by decide) (t := (.object "java/util/List")) (t' := (.object "com/example/sumgen/sumgen/model/SumType")) (by decide) (by decide)))
  replace F_a_removedFields := F_a_removedFields.other W193 (Or.inr (slot_ne (Or.inr (w_134 hw)) (Or.inr (w_128 hw)) (by decide) (t := (.object "java/util/List")) (t' := (.object "com/example/sumgen/sumgen/model/SumType")) (by decide) (by decide)))
  replace F_a_variants := F_a_variants.other W193 (Or.inr (slot_ne (Or.inr (w_136 hw)) (Or.inr (w_128 hw)) (by decide) (t := (.object "java/util/List")) (t' := (.object "com/example/sumgen/sumgen/model/SumType")) (by decide) (by decide)))
  replace F_a_removedVariants := F_a_removedVariants.other W193 (Or.inr (slot_ne (Or.inr (w_138 hw)) (Or.inr (w_128 hw)) (by decide) (t := (.object "java/util/List")) (t' := (.object "com/example/sumgen/sumgen/model/SumType")) (by decide) (by decide)))
  replace E_la := E_la.wr W193
  replace E_b1 := E_b1.wr W193
  replace E_y1 := E_y1.wr W193
  replace E_lb := E_lb.wr W193
  replace E_lc := E_lc.wr W193
  replace E_ld := E_ld.wr W193
  change Go _ _ _ _ _ _ _ _ _ _ _ _ _ _ [a] h192 2 3 35 #[.val (.ref a), .val v1, .val v2, .val (.ref b187), .val (.ref (stRef Z "java/util/ImmutableCollections" "EMPTY_LIST" "Ljava/util/ImmutableCollections$ListN;")), .val (.ref (stRef Z "java/util/ImmutableCollections" "EMPTY_LIST" "Ljava/util/ImmutableCollections$ListN;")), .val (.ref (stRef Z "java/util/ImmutableCollections" "EMPTY_LIST" "Ljava/util/ImmutableCollections$ListN;"))] []
  refine Go.aload_n (pc' := 36) d_prog_30_method_1_35 rfl rfl rfl ?_
  refine Go.aload_n (pc' := 37) d_prog_30_method_1_36 rfl rfl hv_v2 ?_
  refine Go.putF (pc' := 40) d_prog_30_method_1_37 rfl (List.mem_of_getElem? (i := 0) rfl) (host := "") (Or.inl (w_129 hw)) Via.refl F_a_after E_a (Or.inr ⟨(w_130 hw), rfl, rfl⟩) (w_120 hw) (ty := (.object "com/example/sumgen/sumgen/model/SumType")) (by decide) (by rcases ref_cases hv_v2 with rfl | ⟨_, rfl⟩ <;> rfl) (by rcases ref_cases hv_v2 with rfl | ⟨_, rfl⟩ <;> rfl) ?_
  intro h194 W195
  replace F_a_after := F_a_after.same W195
  replace E_a := E_a.wr W195
  replace F_a_addedFields := F_a_addedFields.other W195 (Or.inr (slot_ne (Or.inr (w_132 hw)) (Or.inr (w_130 hw)) (by decide) (t := (.object "java/util/List")) (t' := (.object "com/example/sumgen/sumgen/model/SumType")) (by decide) (by decide)))
  replace F_a_removedFields := F_a_removedFields.other W195 (Or.inr (slot_ne (Or.inr (w_134 hw)) (Or.inr (w_130 hw)) (by decide) (t := (.object "java/util/List")) (t' := (.object "com/example/sumgen/sumgen/model/SumType")) (by decide) (by decide)))
  replace F_a_variants := F_a_variants.other W195 (Or.inr (slot_ne (Or.inr (w_136 hw)) (Or.inr (w_130 hw)) (by decide) (t := (.object "java/util/List")) (t' := (.object "com/example/sumgen/sumgen/model/SumType")) (by decide) (by decide)))
  replace F_a_removedVariants := F_a_removedVariants.other W195 (Or.inr (slot_ne (Or.inr (w_138 hw)) (Or.inr (w_130 hw)) (by decide) (t := (.object "java/util/List")) (t' := (.object "com/example/sumgen/sumgen/model/SumType")) (by decide) (by decide)))
  replace E_la := E_la.wr W195
  replace E_b1 := E_b1.wr W195
  replace E_y1 := E_y1.wr W195
  replace E_lb := E_lb.wr W195
  replace E_lc := E_lc.wr W195
  replace E_ld := E_ld.wr W195
  replace F_a_before := F_a_before.other W195 (Or.inr (slot_ne (Or.inr (w_128 hw)) (Or.inr (w_130 hw)) (by decide) (t := (.object "com/example/sumgen/sumgen/model/SumType")) (t' := (.object "com/example/sumgen/sumgen/model/SumType")) (by decide) (by decide)))
  change Go _ _ _ _ _ _ _ _ _ _ _ _ _ _ [a] h194 2 3 40 #[.val (.ref a), .val v1, .val v2, .val (.ref b187), .val (.ref (stRef Z "java/util/ImmutableCollections" "EMPTY_LIST" "Ljava/util/ImmutableCollections$ListN;")), .val (.ref (stRef Z "java/util/ImmutableCollections" "EMPTY_LIST" "Ljava/util/ImmutableCollections$ListN;")), .val (.ref (stRef Z "java/util/ImmutableCollections" "EMPTY_LIST" "Ljava/util/ImmutableCollections$ListN;"))] []
  refine Go.aload_n (pc' := 41) d_prog_30_method_1_40 rfl rfl rfl ?_
  refine Go.aload_n (pc' := 42) d_prog_30_method_1_41 rfl rfl rfl ?_
  refine Go.putF (pc' := 45) d_prog_30_method_1_42 rfl (List.mem_of_getElem? (i := 0) rfl) (host := "") (Or.inl (w_131 hw)) Via.refl F_a_addedFields E_a (Or.inr ⟨(w_132 hw), rfl, rfl⟩) (w_120 hw) (ty := (.object "java/util/List")) (by decide) rfl rfl ?_
  intro h196 W197
  replace F_a_addedFields := F_a_addedFields.same W197
  replace E_a := E_a.wr W197
  replace F_a_removedFields := F_a_removedFields.other W197 (Or.inr (slot_ne (Or.inr (w_134 hw)) (Or.inr (w_132 hw)) (by decide) (t := (.object "java/util/List")) (t' := (.object "java/util/List")) (by decide) (by decide)))
  replace F_a_variants := F_a_variants.other W197 (Or.inr (slot_ne (Or.inr (w_136 hw)) (Or.inr (w_132 hw)) (by decide) (t := (.object "java/util/List")) (t' := (.object "java/util/List")) (by decide) (by decide)))
  replace F_a_removedVariants := F_a_removedVariants.other W197 (Or.inr (slot_ne (Or.inr (w_138 hw)) (Or.inr (w_132 hw)) (by decide) (t := (.object "java/util/List")) (t' := (.object "java/util/List")) (by decide) (by decide)))
  replace E_la := E_la.wr W197
  replace E_b1 := E_b1.wr W197
  replace E_y1 := E_y1.wr W197
  replace E_lb := E_lb.wr W197
  replace E_lc := E_lc.wr W197
  replace E_ld := E_ld.wr W197
  replace F_a_before := F_a_before.other W197 (Or.inr (slot_ne (Or.inr (w_128 hw)) (Or.inr (w_132 hw)) (by decide) (t := (.object "com/example/sumgen/sumgen/model/SumType")) (t' := (.object "java/util/List")) (by decide) (by decide)))
  replace F_a_after := F_a_after.other W197 (Or.inr (slot_ne (Or.inr (w_130 hw)) (Or.inr (w_132 hw)) (by decide) (t := (.object "com/example/sumgen/sumgen/model/SumType")) (t' := (.object "java/util/List")) (by decide) (by decide)))
  change Go _ _ _ _ _ _ _ _ _ _ _ _ _ _ [a] h196 2 3 45 #[.val (.ref a), .val v1, .val v2, .val (.ref b187), .val (.ref (stRef Z "java/util/ImmutableCollections" "EMPTY_LIST" "Ljava/util/ImmutableCollections$ListN;")), .val (.ref (stRef Z "java/util/ImmutableCollections" "EMPTY_LIST" "Ljava/util/ImmutableCollections$ListN;")), .val (.ref (stRef Z "java/util/ImmutableCollections" "EMPTY_LIST" "Ljava/util/ImmutableCollections$ListN;"))] []
  refine Go.aload_n (pc' := 46) d_prog_30_method_1_45 rfl rfl rfl ?_
  refine Go.aload (pc' := 48) d_prog_30_method_1_46 rfl rfl rfl ?_
  refine Go.putF (pc' := 51) d_prog_30_method_1_48 rfl (List.mem_of_getElem? (i := 0) rfl) (host := "") (Or.inl (w_133 hw)) Via.refl F_a_removedFields E_a (Or.inr ⟨(w_134 hw), rfl, rfl⟩) (w_120 hw) (ty := (.object "java/util/List")) (by decide) rfl rfl ?_
  intro h198 W199
  replace F_a_removedFields := F_a_removedFields.same W199
  replace E_a := E_a.wr W199
  replace F_a_variants := F_a_variants.other W199 (Or.inr (slot_ne (Or.inr (w_136 hw)) (Or.inr (w_134 hw)) (by decide) (t := (.object "java/util/List")) (t' := (.object "java/util/List")) (by decide) (by decide)))
  replace F_a_removedVariants := F_a_removedVariants.other W199 (Or.inr (slot_ne (Or.inr (w_138 hw)) (Or.inr (w_134 hw)) (by decide) (t := (.object "java/util/List")) (t' := (.object "java/util/List")) (by decide) (by decide)))
  replace E_la := E_la.wr W199
  replace E_b1 := E_b1.wr W199
  replace E_y1 := E_y1.wr W199
  replace E_lb := E_lb.wr W199
  replace E_lc := E_lc.wr W199
  replace E_ld := E_ld.wr W199
  replace F_a_before := F_a_before.other W199 (Or.inr (slot_ne (Or.inr (w_128 hw)) (Or.inr (w_134 hw)) (by decide) (t := (.object "com/example/sumgen/sumgen/model/SumType")) (t' := (.object "java/util/List")) (by decide) (by decide)))
  replace F_a_after := F_a_after.other W199 (Or.inr (slot_ne (Or.inr (w_130 hw)) (Or.inr (w_134 hw)) (by decide) (t := (.object "com/example/sumgen/sumgen/model/SumType")) (t' := (.object "java/util/List")) (by decide) (by decide)))
  replace F_a_addedFields := F_a_addedFields.other W199 (Or.inr (slot_ne (Or.inr (w_132 hw)) (Or.inr (w_134 hw)) (by decide) (t := (.object "java/util/List")) (t' := (.object "java/util/List")) (by decide) (by decide)))
  change Go _ _ _ _ _ _ _ _ _ _ _ _ _ _ [a] h198 2 3 51 #[.val (.ref a), .val v1, .val v2, .val (.ref b187), .val (.ref (stRef Z "java/util/ImmutableCollections" "EMPTY_LIST" "Ljava/util/ImmutableCollections$ListN;")), .val (.ref (stRef Z "java/util/ImmutableCollections" "EMPTY_LIST" "Ljava/util/ImmutableCollections$ListN;")), .val (.ref (stRef Z "java/util/ImmutableCollections" "EMPTY_LIST" "Ljava/util/ImmutableCollections$ListN;"))] []
  refine Go.aload_n (pc' := 52) d_prog_30_method_1_51 rfl rfl rfl ?_
  refine Go.aload (pc' := 54) d_prog_30_method_1_52 rfl rfl rfl ?_
  refine Go.putF (pc' := 57) d_prog_30_method_1_54 rfl (List.mem_of_getElem? (i := 0) rfl) (host := "") (Or.inl (w_135 hw)) Via.refl F_a_variants E_a (Or.inr ⟨(w_136 hw), rfl, rfl⟩) (w_120 hw) (ty := (.object "java/util/List")) (by decide) rfl rfl ?_
  intro h200 W201
  replace F_a_variants := F_a_variants.same W201
  replace E_a := E_a.wr W201
  replace F_a_removedVariants := F_a_removedVariants.other W201 (Or.inr (slot_ne (Or.inr (w_138 hw)) (Or.inr (w_136 hw)) (by decide) (t := (.object "java/util/List")) (t' := (.object "java/util/List")) (by decide) (by decide)))
  replace E_la := E_la.wr W201
  replace E_b1 := E_b1.wr W201
  replace E_y1 := E_y1.wr W201
  replace E_lb := E_lb.wr W201
  replace E_lc := E_lc.wr W201
  replace E_ld := E_ld.wr W201
  replace F_a_before := F_a_before.other W201 (Or.inr (slot_ne (Or.inr (w_128 hw)) (Or.inr (w_136 hw)) (by decide) (t := (.object "com/example/sumgen/sumgen/model/SumType")) (t' := (.object "java/util/List")) (by decide) (by decide)))
  replace F_a_after := F_a_after.other W201 (Or.inr (slot_ne (Or.inr (w_130 hw)) (Or.inr (w_136 hw)) (by decide) (t := (.object "com/example/sumgen/sumgen/model/SumType")) (t' := (.object "java/util/List")) (by decide) (by decide)))
  replace F_a_addedFields := F_a_addedFields.other W201 (Or.inr (slot_ne (Or.inr (w_132 hw)) (Or.inr (w_136 hw)) (by decide) (t := (.object "java/util/List")) (t' := (.object "java/util/List")) (by decide) (by decide)))
  replace F_a_removedFields := F_a_removedFields.other W201 (Or.inr (slot_ne (Or.inr (w_134 hw)) (Or.inr (w_136 hw)) (by decide) (t := (.object "java/util/List")) (t' := (.object "java/util/List")) (by decide) (by decide)))
  change Go _ _ _ _ _ _ _ _ _ _ _ _ _ _ [a] h200 2 3 57 #[.val (.ref a), .val v1, .val v2, .val (.ref b187), .val (.ref (stRef Z "java/util/ImmutableCollections" "EMPTY_LIST" "Ljava/util/ImmutableCollections$ListN;")), .val (.ref (stRef Z "java/util/ImmutableCollections" "EMPTY_LIST" "Ljava/util/ImmutableCollections$ListN;")), .val (.ref (stRef Z "java/util/ImmutableCollections" "EMPTY_LIST" "Ljava/util/ImmutableCollections$ListN;"))] []
  refine Go.aload_n (pc' := 58) d_prog_30_method_1_57 rfl rfl rfl ?_
  refine Go.aload (pc' := 60) d_prog_30_method_1_58 rfl rfl rfl ?_
  refine Go.putF (pc' := 63) d_prog_30_method_1_60 rfl (List.mem_of_getElem? (i := 0) rfl) (host := "") (Or.inl (w_137 hw)) Via.refl F_a_removedVariants E_a (Or.inr ⟨(w_138 hw), rfl, rfl⟩) (w_120 hw) (ty := (.object "java/util/List")) (by decide) rfl rfl ?_
  intro h202 W203
  replace F_a_removedVariants := F_a_removedVariants.same W203
  replace E_a := E_a.wr W203
  replace E_la := E_la.wr W203
  replace E_b1 := E_b1.wr W203
  replace E_y1 := E_y1.wr W203
  replace E_lb := E_lb.wr W203
  replace E_lc := E_lc.wr W203
  replace E_ld := E_ld.wr W203
  replace F_a_before := F_a_before.other W203 (Or.inr (slot_ne (Or.inr (w_128 hw)) (Or.inr (w_138 hw)) (by decide) (t := (.object "com/example/sumgen/sumgen/model/SumType")) (t' := (.object "java/util/List")) (by decide) (by decide)))
  replace F_a_after := F_a_after.other W203 (Or.inr (slot_ne (Or.inr (w_130 hw)) (Or.inr (w_138 hw)) (by decide) (t := (.object "com/example/sumgen/sumgen/model/SumType")) (t' := (.object "java/util/List")) (by decide) (by decide)))
  replace F_a_addedFields := F_a_addedFields.other W203 (Or.inr (slot_ne (Or.inr (w_132 hw)) (Or.inr (w_138 hw)) (by decide) (t := (.object "java/util/List")) (t' := (.object "java/util/List")) (by decide) (by decide)))
  replace F_a_removedFields := F_a_removedFields.other W203 (Or.inr (slot_ne (Or.inr (w_134 hw)) (Or.inr (w_138 hw)) (by decide) (t := (.object "java/util/List")) (t' := (.object "java/util/List")) (by decide) (by decide)))
  replace F_a_variants := F_a_variants.other W203 (Or.inr (slot_ne (Or.inr (w_136 hw)) (Or.inr (w_138 hw)) (by decide) (t := (.object "java/util/List")) (t' := (.object "java/util/List")) (by decide) (by decide)))
  change Go _ _ _ _ _ _ _ _ _ _ _ _ _ _ [a] h202 2 3 63 #[.val (.ref a), .val v1, .val v2, .val (.ref b187), .val (.ref (stRef Z "java/util/ImmutableCollections" "EMPTY_LIST" "Ljava/util/ImmutableCollections$ListN;")), .val (.ref (stRef Z "java/util/ImmutableCollections" "EMPTY_LIST" "Ljava/util/ImmutableCollections$ListN;")), .val (.ref (stRef Z "java/util/ImmutableCollections" "EMPTY_LIST" "Ljava/util/ImmutableCollections$ListN;"))] []
  exact Go.retV d_prog_30_method_1_63 rfl (by decide) (by decide) [] sn0 ⟨rfl, rfl, E_a, F_a_before⟩
abbrev R_m_tc11 : Room := { frames := 8, cells := 4, slots := 6, locals := 100 }
theorem pn_m_tc11 : plainFor (⟨"com/example/sumgen/sumgen/sql/Changes$TypeChange", "<init>", "(Lcom/example/sumgen/sumgen/model/SumType;Lcom/example/sumgen/sumgen/model/SumType;Ljava/util/List;Ljava/util/List;Ljava/util/List;Ljava/util/List;)V"⟩ : MethodName) = true := by first | (refine plainFor_of_name ?_; simp [plainName, overriddenIn]; done) | decide +kernel
abbrev Q_m_tc11 (Z : State) (a : Addr) (v1 : Value) (v2 : Value) (la : Addr) (lb : Addr) (lc : Addr) (ld : Addr) (b1 : Addr) (kb1 : ClassId) (y1 : Addr) (b2 : Addr) (kb2 : ClassId) (y2 : Addr) (h0 : Heap) : Option Value → Heap → List Addr → Prop := fun res h' SN => res = none ∧ SN = [] ∧ Exa Z h' a "com/example/sumgen/sumgen/sql/Changes$TypeChange" ∧ Fld Z h' a "com/example/sumgen/sumgen/sql/Changes$TypeChange" "before" "Lcom/example/sumgen/sumgen/model/SumType;" v1
theorem ef_m_tc11 (mid : MethodId) (a : Addr) (v1 : Value) (v2 : Value) (la : Addr) (lb : Addr) (lc : Addr) (ld : Addr) (b1 : Addr) (kb1 : ClassId) (y1 : Addr) (b2 : Addr) (kb2 : ClassId) (y2 : Addr) (hv_v1 : v1.isRef = true) (hv_v2 : v2.isRef = true) : entryFrame mid #[(.ref a), v1, v2, (.ref la), (.ref lb), (.ref lc), (.ref ld)] 7 = mkF mid 0 #[.val (.ref a), .val v1, .val v2, .val (.ref la), .val (.ref lb), .val (.ref lc), .val (.ref ld)] [] := by rcases ref_cases hv_v1 with rfl | ⟨_, rfl⟩ <;> rcases ref_cases hv_v2 with rfl | ⟨_, rfl⟩ <;> first | (simp [entryFrame, mkF, argsToLocals, Value.category]; done) | rfl
set_option maxRecDepth 65536 in
set_option maxHeartbeats 40000000 in
theorem m_tc11 {l : Launch} {Z : State} {a0 : Array Value} {n0 : Nat} (hw : ∀ d ∈ tables_1, d.before a0 Z = true) (hs : Stat Z) (a : Addr) (v1 : Value) (v2 : Value) (la : Addr) (lb : Addr) (lc : Addr) (ld : Addr) (b1 : Addr) (kb1 : ClassId) (y1 : Addr) (b2 : Addr) (kb2 : ClassId) (y2 : Addr) (h0 : Heap) (E_a : Exa Z h0 a "com/example/sumgen/sumgen/sql/Changes$TypeChange") (F_a_before : Fld Z h0 a "com/example/sumgen/sumgen/sql/Changes$TypeChange" "before" "Lcom/example/sumgen/sumgen/model/SumType;" .null) (F_a_after : Fld Z h0 a "com/example/sumgen/sumgen/sql/Changes$TypeChange" "after" "Lcom/example/sumgen/sumgen/model/SumType;" .null) (F_a_addedFields : Fld Z h0 a "com/example/sumgen/sumgen/sql/Changes$TypeChange" "addedFields" "Ljava/util/List;" .null) (F_a_removedFields : Fld Z h0 a "com/example/sumgen/sumgen/sql/Changes$TypeChange" "removedFields" "Ljava/util/List;" .null) (F_a_variants : Fld Z h0 a "com/example/sumgen/sumgen/sql/Changes$TypeChange" "variants" "Ljava/util/List;" .null) (F_a_removedVariants : Fld Z h0 a "com/example/sumgen/sumgen/sql/Changes$TypeChange" "removedVariants" "Ljava/util/List;" .null) (E_la : Exa Z h0 la "java/util/ArrayList") (F_la_size : Fld Z h0 la "java/util/ArrayList" "size" "I" (.int (1 : Int32))) (F_la_elementData : Fld Z h0 la "java/util/ArrayList" "elementData" "[Ljava/lang/Object;" (.ref b1)) (V_b1 : Arv Z h0 b1 kb1 (.object "java/lang/Object") (10 : Int32) [(.ref y1), .null, .null, .null, .null, .null, .null, .null, .null, .null] .null) (E_b1 : Exa Z h0 b1 "[Ljava/lang/Object;") (E_y1 : Exa Z h0 y1 "com/example/sumgen/sumgen/model/Field") (E_lb : Exa Z h0 lb "java/util/ArrayList") (F_lb_size : Fld Z h0 lb "java/util/ArrayList" "size" "I" (.int (1 : Int32))) (F_lb_elementData : Fld Z h0 lb "java/util/ArrayList" "elementData" "[Ljava/lang/Object;" (.ref b2)) (V_b2 : Arv Z h0 b2 kb2 (.object "java/lang/Object") (10 : Int32) [(.ref y2), .null, .null, .null, .null, .null, .null, .null, .null, .null] .null) (E_b2 : Exa Z h0 b2 "[Ljava/lang/Object;") (E_y2 : Exa Z h0 y2 "com/example/sumgen/sumgen/model/Field") (E_lc : Exa Z h0 lc "java/util/ArrayList") (F_lc_size : Fld Z h0 lc "java/util/ArrayList" "size" "I" (.int (0 : Int32))) (E_ld : Exa Z h0 ld "java/util/ArrayList") (F_ld_size : Fld Z h0 ld "java/util/ArrayList" "size" "I" (.int (0 : Int32))) (hv_v1 : v1.isRef = true) (hv_v2 : v2.isRef = true) :
    Met l Z EL0 n0 NR0 KN0 N_33 prog_30_method_1_code 7 (Option.none : Option Jvm.ClassFile.FieldType) R_m_tc11 [a] #[(.ref a), v1, v2, (.ref la), (.ref lb), (.ref lc), (.ref ld)] h0 (Q_m_tc11 Z a v1 v2 la lb lc ld b1 kb1 y1 b2 kb2 y2 h0) := by
  refine Met.of_go pn_m_tc11 (fun mid => ef_m_tc11 mid a v1 v2 la lb lc ld b1 kb1 y1 b2 kb2 y2 hv_v1 hv_v2) ?_
  intro hO hWS
  refine Go.aload_n (pc' := 1) d_prog_30_method_1_0 rfl rfl rfl ?_
  refine Go.callI (pc' := 4) (z := N_0) (a := a) d_prog_30_method_1_1 rfl rfl (w_125 hw) (w_61 hw) (w_64 hw) (by decide) (argsL := []) (rest := []) (Pays.of_met (W := 0) (len := 3) (m_record hw hs a h0) (w_64 hw) (w_63 hw) (by decide) (by decide)) rfl rfl (lenOf pd_4 rfl) rfl (Nat.le_of_eq rfl) mem0 (by decide) (by decide) ?_
  rintro _ _ _ - - ⟨rfl, rfl, rfl⟩
  change Go _ _ _ _ _ _ _ _ _ _ _ _ _ _ [a] h0 0 0 4 #[.val (.ref a), .val v1, .val v2, .val (.ref la), .val (.ref lb), .val (.ref lc), .val (.ref ld)] []
  refine Go.aload_n (pc' := 5) d_prog_30_method_1_4 rfl rfl rfl ?_
  refine Go.callS (pc' := 8) (z := N_28) d_prog_30_method_1_5 rfl (w_126 hw) (w_67 hw) (w_68 hw) (w_69 hw) (by decide) (argsL := [(.ref la)]) (rest := []) (Pays.of_met (W := 0) (len := 3) (m_co1 hw hs la b1 kb1 y1 h0 E_la F_la_size F_la_elementData V_b1 E_b1 E_y1) (w_69 hw) (w_68 hw) (by decide) (by decide)) rfl rfl (lenOf pd_16 rfl) rfl (Nat.le_of_eq rfl) mem0 (by decide) (by decide) ?_
  rintro _ h205 _ K206 le207 ⟨b204, rfl, rfl, p208⟩
  replace E_a := E_a.keep K206
  replace F_a_before := F_a_before.keep K206 nin0
  replace F_a_after := F_a_after.keep K206 nin0
  replace F_a_addedFields := F_a_addedFields.keep K206 nin0
  replace F_a_removedFields := F_a_removedFields.keep K206 nin0
  replace F_a_variants := F_a_variants.keep K206 nin0
  replace F_a_removedVariants := F_a_removedVariants.keep K206 nin0
  replace E_la := E_la.keep K206
  replace F_la_size := F_la_size.keep K206 nin0
  replace F_la_elementData := F_la_elementData.keep K206 nin0
  replace V_b1 := V_b1.keep K206 nin0
  replace E_b1 := E_b1.keep K206
  replace E_y1 := E_y1.keep K206
  replace E_lb := E_lb.keep K206
  replace F_lb_size := F_lb_size.keep K206 nin0
  replace F_lb_elementData := F_lb_elementData.keep K206 nin0
  replace V_b2 := V_b2.keep K206 nin0
  replace E_b2 := E_b2.keep K206
  replace E_y2 := E_y2.keep K206
  replace E_lc := E_lc.keep K206
  replace F_lc_size := F_lc_size.keep K206 nin0
  replace E_ld := E_ld.keep K206
  replace F_ld_size := F_ld_size.keep K206 nin0
  change Go _ _ _ _ _ _ _ _ _ _ _ _ _ _ [a] h205 2 3 8 #[.val (.ref a), .val v1, .val v2, .val (.ref la), .val (.ref lb), .val (.ref lc), .val (.ref ld)] [(.ref b204)]
  refine Go.astore_n (pc' := 9) (Ls' := #[.val (.ref a), .val v1, .val v2, .val (.ref b204), .val (.ref lb), .val (.ref lc), .val (.ref ld)]) d_prog_30_method_1_8 rfl rfl rfl ?_
  refine Go.aload (pc' := 11) d_prog_30_method_1_9 rfl rfl rfl ?_
  refine Go.callS (pc' := 14) (z := N_28) d_prog_30_method_1_11 rfl (w_126 hw) (w_67 hw) (w_68 hw) (w_69 hw) (by decide) (argsL := [(.ref lb)]) (rest := []) (Pays.of_met (W := 0) (len := 3) (m_co1 hw hs lb b2 kb2 y2 h205 E_lb F_lb_size F_lb_elementData V_b2 E_b2 E_y2) (w_69 hw) (w_68 hw) (by decide) (by decide)) rfl rfl (lenOf pd_16 rfl) rfl (Nat.le_of_eq rfl) mem0 (by decide) (by decide) ?_
  rintro _ h210 _ K211 le212 ⟨b209, rfl, rfl, p213⟩
  replace E_a := E_a.keep K211
  replace F_a_before := F_a_before.keep K211 nin0
  replace F_a_after := F_a_after.keep K211 nin0
  replace F_a_addedFields := F_a_addedFields.keep K211 nin0
  replace F_a_removedFields := F_a_removedFields.keep K211 nin0
  replace F_a_variants := F_a_variants.keep K211 nin0
  replace F_a_removedVariants := F_a_removedVariants.keep K211 nin0
  replace E_la := E_la.keep K211
  replace F_la_size := F_la_size.keep K211 nin0
  replace F_la_elementData := F_la_elementData.keep K211 nin0
  replace V_b1 := V_b1.keep K211 nin0
  replace E_b1 := E_b1.keep K211
  replace E_y1 := E_y1.keep K211
  replace E_lb := E_lb.keep K211
  replace F_lb_size := F_lb_size.keep K211 nin0
  replace F_lb_elementData := F_lb_elementData.keep K211 nin0
  replace V_b2 := V_b2.keep K211 nin0
  replace E_b2 := E_b2.keep K211
  replace E_y2 := E_y2.keep K211
  replace E_lc := E_lc.keep K211
  replace F_lc_size := F_lc_size.keep K211 nin0
  replace E_ld := E_ld.keep K211
  replace F_ld_size := F_ld_size.keep K211 nin0
  change Go _ _ _ _ _ _ _ _ _ _ _ _ _ _ [a] h210 4 6 14 #[.val (.ref a), .val v1, .val v2, .val (.ref b204), .val (.ref lb), .val (.ref lc), .val (.ref ld)] [(.ref b209)]
  refine Go.astore (pc' := 16) (Ls' := #[.val (.ref a), .val v1, .val v2, .val (.ref b204), .val (.ref b209), .val (.ref lc), .val (.ref ld)]) d_prog_30_method_1_14 rfl rfl rfl ?_
  refine Go.aload (pc' := 18) d_prog_30_method_1_16 rfl rfl rfl ?_
  refine Go.callS (pc' := 21) (z := N_28) d_prog_30_method_1_18 rfl (w_126 hw) (w_67 hw) (w_68 hw) (w_69 hw) (by decide) (argsL := [(.ref lc)]) (rest := []) (Pays.of_met (W := 0) (len := 3) (m_co0 hw hs lc h210 E_lc F_lc_size) (w_69 hw) (w_68 hw) (by decide) (by decide)) rfl rfl (lenOf pd_16 rfl) rfl (Nat.le_of_eq rfl) mem0 (by decide) (by decide) ?_
  rintro _ _ _ - - ⟨rfl, rfl, rfl⟩
  change Go _ _ _ _ _ _ _ _ _ _ _ _ _ _ [a] h210 4 6 21 #[.val (.ref a), .val v1, .val v2, .val (.ref b204), .val (.ref b209), .val (.ref lc), .val (.ref ld)] [(.ref (stRef Z "java/util/ImmutableCollections" "EMPTY_LIST" "Ljava/util/ImmutableCollections$ListN;"))]
  refine Go.astore (pc' := 23) (Ls' := #[.val (.ref a), .val v1, .val v2, .val (.ref b204), .val (.ref b209), .val (.ref (stRef Z "java/util/ImmutableCollections" "EMPTY_LIST" "Ljava/util/ImmutableCollections$ListN;")), .val (.ref ld)]) d_prog_30_method_1_21 rfl rfl rfl ?_
  refine Go.aload (pc' := 25) d_prog_30_method_1_23 rfl rfl rfl ?_
  refine Go.callS (pc' := 28) (z := N_28) d_prog_30_method_1_25 rfl (w_126 hw) (w_67 hw) (w_68 hw) (w_69 hw) (by decide) (argsL := [(.ref ld)]) (rest := []) (Pays.of_met (W := 0) (len := 3) (m_co0 hw hs ld h210 E_ld F_ld_size) (w_69 hw) (w_68 hw) (by decide) (by decide)) rfl rfl (lenOf pd_16 rfl) rfl (Nat.le_of_eq rfl) mem0 (by decide) (by decide) ?_
  rintro _ _ _ - - ⟨rfl, rfl, rfl⟩
  change Go _ _ _ _ _ _ _ _ _ _ _ _ _ _ [a] h210 4 6 28 #[.val (.ref a), .val v1, .val v2, .val (.ref b204), .val (.ref b209), .val (.ref (stRef Z "java/util/ImmutableCollections" "EMPTY_LIST" "Ljava/util/ImmutableCollections$ListN;")), .val (.ref ld)] [(.ref (stRef Z "java/util/ImmutableCollections" "EMPTY_LIST" "Ljava/util/ImmutableCollections$ListN;"))]
  refine Go.astore (pc' := 30) (Ls' := #[.val (.ref a), .val v1, .val v2, .val (.ref b204), .val (.ref b209), .val (.ref (stRef Z "java/util/ImmutableCollections" "EMPTY_LIST" "Ljava/util/ImmutableCollections$ListN;")), .val (.ref (stRef Z "java/util/ImmutableCollections" "EMPTY_LIST" "Ljava/util/ImmutableCollections$ListN;"))]) d_prog_30_method_1_28 rfl rfl rfl ?_
  refine Go.aload_n (pc' := 31) d_prog_30_method_1_30 rfl rfl rfl ?_
  refine Go.aload_n (pc' := 32) d_prog_30_method_1_31 rfl rfl hv_v1 ?_
  refine Go.putF (pc' := 35) d_prog_30_method_1_32 rfl (List.mem_of_getElem? (i := 0) rfl) (host := "") (Or.inl (w_127 hw)) Via.refl F_a_before E_a (Or.inr ⟨(w_128 hw), rfl, rfl⟩) (w_120 hw) (ty := (.object "com/example/sumgen/sumgen/model/SumType")) (by decide) (by rcases ref_cases hv_v1 with rfl | ⟨_, rfl⟩ <;> rfl) (by rcases ref_cases hv_v1 with rfl | ⟨_, rfl⟩ <;> rfl) ?_
  intro h214 W215
  replace F_a_before := F_a_before.same W215
  replace E_a := E_a.wr W215
  replace F_a_after := F_a_after.other W215 (Or.inr (slot_ne (Or.inr (w_130 hw)) (Or.inr (w_128 hw)) (by decide) (t := (.object "com/example/sumgen/sumgen/model/SumType")) (t' := (.object "com/example/sumgen/sumgen/model/SumType")) (by decide) (by decide)))
  replace F_a_addedFields := F_a_addedFields.other W215 (Or.inr (slot_ne (Or.inr (w_132 hw)) (Or.inr (w_128 hw)) (by decide) (t := (.object "java/util/List")) (t' := (.object "com/example/sumgen/sumgen/model/SumType")) (by decide) (by decide)))
  replace F_a_removedFields := F_a_removedFields.other W215 (Or.inr (slot_ne (Or.inr (w_134 hw)) (Or.inr (w_128 hw)) (by decide) (t := (.object "java/util/List")) (t' := (.object "com/example/sumgen/sumgen/model/SumType")) (by decide) (by decide)))
  replace F_a_variants := F_a_variants.other W215 (Or.inr (slot_ne (Or.inr (w_136 hw)) (Or.inr (w_128 hw)) (by decide) (t := (.object "java/util/List")) (t' := (.object "com/example/sumgen/sumgen/model/SumType")) (by decide) (by decide)))
  replace F_a_removedVariants := F_a_removedVariants.other W215 (Or.inr (slot_ne (Or.inr (w_138 hw)) (Or.inr (w_128 hw)) (by decide) (t := (.object "java/util/List")) (t' := (.object "com/example/sumgen/sumgen/model/SumType")) (by decide) (by decide)))
  replace E_la := E_la.wr W215
  replace E_b1 := E_b1.wr W215
  replace E_y1 := E_y1.wr W215
  replace E_lb := E_lb.wr W215
  replace E_b2 := E_b2.wr W215
  replace E_y2 := E_y2.wr W215
  replace E_lc := E_lc.wr W215
  replace E_ld := E_ld.wr W215
  change Go _ _ _ _ _ _ _ _ _ _ _ _ _ _ [a] h214 4 6 35 #[.val (.ref a), .val v1, .val v2, .val (.ref b204), .val (.ref b209), .val (.ref (stRef Z "java/util/ImmutableCollections" "EMPTY_LIST" "Ljava/util/ImmutableCollections$ListN;")), .val (.ref (stRef Z "java/util/ImmutableCollections" "EMPTY_LIST" "Ljava/util/ImmutableCollections$ListN;"))] []
  refine Go.aload_n (pc' := 36) d_prog_30_method_1_35 rfl rfl rfl ?_
  refine Go.aload_n (pc' := 37) d_prog_30_method_1_36 rfl rfl hv_v2 ?_
  refine Go.putF (pc' := 40) d_prog_30_method_1_37 rfl (List.mem_of_getElem? (i := 0) rfl) (host := "") (Or.inl (w_129 hw)) Via.refl F_a_after E_a (Or.inr ⟨(w_130 hw), rfl, rfl⟩) (w_120 hw) (ty := (.object "com/example/sumgen/sumgen/model/SumType")) (by decide) (by rcases ref_cases hv_v2 with rfl | ⟨_, rfl⟩ <;> rfl) (by rcases ref_cases hv_v2 with rfl | ⟨_, rfl⟩ <;> rfl) ?_
  intro h216 W217
  replace F_a_after := F_a_after.same W217
  replace E_a := E_a.wr W217
  replace F_a_addedFields := F_a_addedFields.other W217 (Or.inr (slot_ne (Or.inr (w_132 hw)) (Or.inr (w_130 hw)) (by decide) (t := (.object "java/util/List")) (t' := (.object "com/example/sumgen/sumgen/model/SumType")) (by decide) (by decide)))
  replace F_a_removedFields := F_a_removedFields.other W217 (Or.inr (slot_ne (Or.inr (w_134 hw)) (Or.inr (w_130 hw)) (by decide) (t := (.object "java/util/List")) (t' := (.object "com/example/sumgen/sumgen/model/SumType")) (by decide) (by decide)))
  replace F_a_variants := F_a_variants.other W217 (Or.inr (slot_ne (Or.inr (w_136 hw)) (Or.inr (w_130 hw)) (by decide) (t := (.object "java/util/List")) (t' := (.object "com/example/sumgen/sumgen/model/SumType")) (by decide) (by decide)))
  replace F_a_removedVariants := F_a_removedVariants.other W217 (Or.inr (slot_ne (Or.inr (w_138 hw)) (Or.inr (w_130 hw)) (by decide) (t := (.object "java/util/List")) (t' := (.object "com/example/sumgen/sumgen/model/SumType")) (by decide) (by decide)))
  replace E_la := E_la.wr W217
  replace E_b1 := E_b1.wr W217
  replace E_y1 := E_y1.wr W217
  replace E_lb := E_lb.wr W217
  replace E_b2 := E_b2.wr W217
  replace E_y2 := E_y2.wr W217
  replace E_lc := E_lc.wr W217
  replace E_ld := E_ld.wr W217
  replace F_a_before := F_a_before.other W217 (Or.inr (slot_ne (Or.inr (w_128 hw)) (Or.inr (w_130 hw)) (by decide) (t := (.object "com/example/sumgen/sumgen/model/SumType")) (t' := (.object "com/example/sumgen/sumgen/model/SumType")) (by decide) (by decide)))
  change Go _ _ _ _ _ _ _ _ _ _ _ _ _ _ [a] h216 4 6 40 #[.val (.ref a), .val v1, .val v2, .val (.ref b204), .val (.ref b209), .val (.ref (stRef Z "java/util/ImmutableCollections" "EMPTY_LIST" "Ljava/util/ImmutableCollections$ListN;")), .val (.ref (stRef Z "java/util/ImmutableCollections" "EMPTY_LIST" "Ljava/util/ImmutableCollections$ListN;"))] []
  refine Go.aload_n (pc' := 41) d_prog_30_method_1_40 rfl rfl rfl ?_
  refine Go.aload_n (pc' := 42) d_prog_30_method_1_41 rfl rfl rfl ?_
  refine Go.putF (pc' := 45) d_prog_30_method_1_42 rfl (List.mem_of_getElem? (i := 0) rfl) (host := "") (Or.inl (w_131 hw)) Via.refl F_a_addedFields E_a (Or.inr ⟨(w_132 hw), rfl, rfl⟩) (w_120 hw) (ty := (.object "java/util/List")) (by decide) rfl rfl ?_
  intro h218 W219
  replace F_a_addedFields := F_a_addedFields.same W219
  replace E_a := E_a.wr W219
  replace F_a_removedFields := F_a_removedFields.other W219 (Or.inr (slot_ne (Or.inr (w_134 hw)) (Or.inr (w_132 hw)) (by decide) (t := (.object "java/util/List")) (t' := (.object "java/util/List")) (by decide) (by decide)))
  replace F_a_variants := F_a_variants.other W219 (Or.inr (slot_ne (Or.inr (w_136 hw)) (Or.inr (w_132 hw)) (by decide) (t := (.object "java/util/List")) (t' := (.object "java/util/List")) (by decide) (by decide)))
  replace F_a_removedVariants := F_a_removedVariants.other W219 (Or.inr (slot_ne (Or.inr (w_138 hw)) (Or.inr (w_132 hw)) (by decide) (t := (.object "java/util/List")) (t' := (.object "java/util/List")) (by decide) (by decide)))
  replace E_la := E_la.wr W219
  replace E_b1 := E_b1.wr W219
  replace E_y1 := E_y1.wr W219
  replace E_lb := E_lb.wr W219
  replace E_b2 := E_b2.wr W219
  replace E_y2 := E_y2.wr W219
  replace E_lc := E_lc.wr W219
  replace E_ld := E_ld.wr W219
  replace F_a_before := F_a_before.other W219 (Or.inr (slot_ne (Or.inr (w_128 hw)) (Or.inr (w_132 hw)) (by decide) (t := (.object "com/example/sumgen/sumgen/model/SumType")) (t' := (.object "java/util/List")) (by decide) (by decide)))
  replace F_a_after := F_a_after.other W219 (Or.inr (slot_ne (Or.inr (w_130 hw)) (Or.inr (w_132 hw)) (by decide) (t := (.object "com/example/sumgen/sumgen/model/SumType")) (t' := (.object "java/util/List")) (by decide) (by decide)))
  change Go _ _ _ _ _ _ _ _ _ _ _ _ _ _ [a] h218 4 6 45 #[.val (.ref a), .val v1, .val v2, .val (.ref b204), .val (.ref b209), .val (.ref (stRef Z "java/util/ImmutableCollections" "EMPTY_LIST" "Ljava/util/ImmutableCollections$ListN;")), .val (.ref (stRef Z "java/util/ImmutableCollections" "EMPTY_LIST" "Ljava/util/ImmutableCollections$ListN;"))] []
  refine Go.aload_n (pc' := 46) d_prog_30_method_1_45 rfl rfl rfl ?_
  refine Go.aload (pc' := 48) d_prog_30_method_1_46 rfl rfl rfl ?_
  refine Go.putF (pc' := 51) d_prog_30_method_1_48 rfl (List.mem_of_getElem? (i := 0) rfl) (host := "") (Or.inl (w_133 hw)) Via.refl F_a_removedFields E_a (Or.inr ⟨(w_134 hw), rfl, rfl⟩) (w_120 hw) (ty := (.object "java/util/List")) (by decide) rfl rfl ?_
  intro h220 W221
  replace F_a_removedFields := F_a_removedFields.same W221
  replace E_a := E_a.wr W221
  replace F_a_variants := F_a_variants.other W221 (Or.inr (slot_ne (Or.inr (w_136 hw)) (Or.inr (w_134 hw)) (by decide) (t := (.object "java/util/List")) (t' := (.object "java/util/List")) (by decide) (by decide)))
  replace F_a_removedVariants := F_a_removedVariants.other W221 (Or.inr (slot_ne (Or.inr (w_138 hw)) (Or.inr (w_134 hw)) (by decide) (t := (.object "java/util/List")) (t' := (.object "java/util/List")) (by decide) (by decide)))
  replace E_la := E_la.wr W221
  replace E_b1 := E_b1.wr W221
  replace E_y1 := E_y1.wr W221
  replace E_lb := E_lb.wr W221
  replace E_b2 := E_b2.wr W221
  replace E_y2 := E_y2.wr W221
  replace E_lc := E_lc.wr W221
  replace E_ld := E_ld.wr W221
  replace F_a_before := F_a_before.other W221 (Or.inr (slot_ne (Or.inr (w_128 hw)) (Or.inr (w_134 hw)) (by decide) (t := (.object "com/example/sumgen/sumgen/model/SumType")) (t' := (.object "java/util/List")) (by decide) (by decide)))
  replace F_a_after := F_a_after.other W221 (Or.inr (slot_ne (Or.inr (w_130 hw)) (Or.inr (w_134 hw)) (by decide) (t := (.object "com/example/sumgen/sumgen/model/SumType")) (t' := (.object "java/util/List")) (by decide) (by decide)))
  replace F_a_addedFields := F_a_addedFields.other W221 (Or.inr (slot_ne (Or.inr (w_132 hw)) (Or.inr (w_134 hw)) (by decide) (t := (.object "java/util/List")) (t' := (.object "java/util/List")) (by decide) (by decide)))
  change Go _ _ _ _ _ _ _ _ _ _ _ _ _ _ [a] h220 4 6 51 #[.val (.ref a), .val v1, .val v2, .val (.ref b204), .val (.ref b209), .val (.ref (stRef Z "java/util/ImmutableCollections" "EMPTY_LIST" "Ljava/util/ImmutableCollections$ListN;")), .val (.ref (stRef Z "java/util/ImmutableCollections" "EMPTY_LIST" "Ljava/util/ImmutableCollections$ListN;"))] []
  refine Go.aload_n (pc' := 52) d_prog_30_method_1_51 rfl rfl rfl ?_
  refine Go.aload (pc' := 54) d_prog_30_method_1_52 rfl rfl rfl ?_
  refine Go.putF (pc' := 57) d_prog_30_method_1_54 rfl (List.mem_of_getElem? (i := 0) rfl) (host := "") (Or.inl (w_135 hw)) Via.refl F_a_variants E_a (Or.inr ⟨(w_136 hw), rfl, rfl⟩) (w_120 hw) (ty := (.object "java/util/List")) (by decide) rfl rfl ?_
  intro h222 W223
  replace F_a_variants := F_a_variants.same W223
  replace E_a := E_a.wr W223
  replace F_a_removedVariants := F_a_removedVariants.other W223 (Or.inr (slot_ne (Or.inr (w_138 hw)) (Or.inr (w_136 hw)) (by decide) (t := (.object "java/util/List")) (t' := (.object "java/util/List")) (by decide) (by decide)))
  replace E_la := E_la.wr W223
  replace E_b1 := E_b1.wr W223
  replace E_y1 := E_y1.wr W223
  replace E_lb := E_lb.wr W223
  replace E_b2 := E_b2.wr W223
  replace E_y2 := E_y2.wr W223
  replace E_lc := E_lc.wr W223
  replace E_ld := E_ld.wr W223
  replace F_a_before := F_a_before.other W223 (Or.inr (slot_ne (Or.inr (w_128 hw)) (Or.inr (w_136 hw)) (by decide) (t := (.object "com/example/sumgen/sumgen/model/SumType")) (t' := (.object "java/util/List")) (by decide) (by decide)))
  replace F_a_after := F_a_after.other W223 (Or.inr (slot_ne (Or.inr (w_130 hw)) (Or.inr (w_136 hw)) (by decide) (t := (.object "com/example/sumgen/sumgen/model/SumType")) (t' := (.object "java/util/List")) (by decide) (by decide)))
  replace F_a_addedFields := F_a_addedFields.other W223 (Or.inr (slot_ne (Or.inr (w_132 hw)) (Or.inr (w_136 hw)) (by decide) (t := (.object "java/util/List")) (t' := (.object "java/util/List")) (by decide) (by decide)))
  replace F_a_removedFields := F_a_removedFields.other W223 (Or.inr (slot_ne (Or.inr (w_134 hw)) (Or.inr (w_136 hw)) (by decide) (t := (.object "java/util/List")) (t' := (.object "java/util/List")) (by decide) (by decide)))
  change Go _ _ _ _ _ _ _ _ _ _ _ _ _ _ [a] h222 4 6 57 #[.val (.ref a), .val v1, .val v2, .val (.ref b204), .val (.ref b209), .val (.ref (stRef Z "java/util/ImmutableCollections" "EMPTY_LIST" "Ljava/util/ImmutableCollections$ListN;")), .val (.ref (stRef Z "java/util/ImmutableCollections" "EMPTY_LIST" "Ljava/util/ImmutableCollections$ListN;"))] []
  refine Go.aload_n (pc' := 58) d_prog_30_method_1_57 rfl rfl rfl ?_
  refine Go.aload (pc' := 60) d_prog_30_method_1_58 rfl rfl rfl ?_
  refine Go.putF (pc' := 63) d_prog_30_method_1_60 rfl (List.mem_of_getElem? (i := 0) rfl) (host := "") (Or.inl (w_137 hw)) Via.refl F_a_removedVariants E_a (Or.inr ⟨(w_138 hw), rfl, rfl⟩) (w_120 hw) (ty := (.object "java/util/List")) (by decide) rfl rfl ?_
  intro h224 W225
  replace F_a_removedVariants := F_a_removedVariants.same W225
  replace E_a := E_a.wr W225
  replace E_la := E_la.wr W225
  replace E_b1 := E_b1.wr W225
  replace E_y1 := E_y1.wr W225
  replace E_lb := E_lb.wr W225
  replace E_b2 := E_b2.wr W225
  replace E_y2 := E_y2.wr W225
  replace E_lc := E_lc.wr W225
  replace E_ld := E_ld.wr W225
  replace F_a_before := F_a_before.other W225 (Or.inr (slot_ne (Or.inr (w_128 hw)) (Or.inr (w_138 hw)) (by decide) (t := (.object "com/example/sumgen/sumgen/model/SumType")) (t' := (.object "java/util/List")) (by decide) (by decide)))
  replace F_a_after := F_a_after.other W225 (Or.inr (slot_ne (Or.inr (w_130 hw)) (Or.inr (w_138 hw)) (by decide) (t := (.object "com/example/sumgen/sumgen/model/SumType")) (t' := (.object "java/util/List")) (by decide) (by decide)))
  replace F_a_addedFields := F_a_addedFields.other W225 (Or.inr (slot_ne (Or.inr (w_132 hw)) (Or.inr (w_138 hw)) (by decide) (t := (.object "java/util/List")) (t' := (.object "java/util/List")) (by decide) (by decide)))
  replace F_a_removedFields := F_a_removedFields.other W225 (Or.inr (slot_ne (Or.inr (w_134 hw)) (Or.inr (w_138 hw)) (by decide) (t := (.object "java/util/List")) (t' := (.object "java/util/List")) (by decide) (by decide)))
  replace F_a_variants := F_a_variants.other W225 (Or.inr (slot_ne (Or.inr (w_136 hw)) (Or.inr (w_138 hw)) (by decide) (t := (.object "java/util/List")) (t' := (.object "java/util/List")) (by decide) (by decide)))
  change Go _ _ _ _ _ _ _ _ _ _ _ _ _ _ [a] h224 4 6 63 #[.val (.ref a), .val v1, .val v2, .val (.ref b204), .val (.ref b209), .val (.ref (stRef Z "java/util/ImmutableCollections" "EMPTY_LIST" "Ljava/util/ImmutableCollections$ListN;")), .val (.ref (stRef Z "java/util/ImmutableCollections" "EMPTY_LIST" "Ljava/util/ImmutableCollections$ListN;"))] []
  exact Go.retV d_prog_30_method_1_63 rfl (by decide) (by decide) [] sn0 ⟨rfl, rfl, E_a, F_a_before⟩
abbrev R_m_adds0 : Room := { frames := 0, cells := 0, slots := 0, locals := 0 }
theorem pn_m_adds0 : plainFor (⟨"com/example/sumgen/sumgen/sql/Changes$TypeChange", "addsType", "()Z"⟩ : MethodName) = true := by first | (refine plainFor_of_name ?_; simp [plainName, overriddenIn]; done) | decide +kernel
abbrev Q_m_adds0 (Z : State) (a : Addr) (b : Addr) (h0 : Heap) : Option Value → Heap → List Addr → Prop := fun res h' SN => res = some (.int (0 : Int32)) ∧ SN = [] ∧ h0 = h'
theorem ef_m_adds0 (mid : MethodId) (a : Addr) (b : Addr) : entryFrame mid #[(.ref a)] 1 = mkF mid 0 #[.val (.ref a)] [] := by first | (simp [entryFrame, mkF, argsToLocals, Value.category]; done) | rfl
set_option maxRecDepth 65536 in
set_option maxHeartbeats 40000000 in
theorem m_adds0 {l : Launch} {Z : State} {a0 : Array Value} {n0 : Nat} (hw : ∀ d ∈ tables_1, d.before a0 Z = true) (hs : Stat Z) (a : Addr) (b : Addr) (h0 : Heap) (F_a_before : Fld Z h0 a "com/example/sumgen/sumgen/sql/Changes$TypeChange" "before" "Lcom/example/sumgen/sumgen/model/SumType;" (.ref b)) :
    Met l Z EL0 n0 NR0 KN0 N_34 prog_30_method_2_code 1 (Option.some Jvm.ClassFile.FieldType.boolean) R_m_adds0 [] #[(.ref a)] h0 (Q_m_adds0 Z a b h0) := by
  refine Met.of_go pn_m_adds0 (fun mid => ef_m_adds0 mid a b ) ?_
  intro hO hWS
  refine Go.aload_n (pc' := 1) d_prog_30_method_2_0 rfl rfl rfl ?_
  refine Go.getF (pc' := 4) d_prog_30_method_2_1 rfl (host := "") (Or.inl (w_127 hw)) Via.refl F_a_before ?_
  refine Go.ifnonnullY (pc' := 11) d_prog_30_method_2_4 (by decide) (by decide) ?_
  refine Go.iconst (pc' := 12) d_prog_30_method_2_11 rfl ic_0 ?_
  exact Go.retS (ty := .boolean) d_prog_30_method_2_12 rfl (by simp) rfl (by decide) (by decide) [] sn0 ⟨rfl, rfl, rfl⟩
abbrev R_m_adds1 : Room := { frames := 0, cells := 0, slots := 0, locals := 0 }
theorem pn_m_adds1 : plainFor (⟨"com/example/sumgen/sumgen/sql/Changes$TypeChange", "addsType", "()Z"⟩ : MethodName) = true := by first | (refine plainFor_of_name ?_; simp [plainName, overriddenIn]; done) | decide +kernel
abbrev Q_m_adds1 (Z : State) (a : Addr) (h0 : Heap) : Option Value → Heap → List Addr → Prop := fun res h' SN => res = some (.int (1 : Int32)) ∧ SN = [] ∧ h0 = h'
theorem ef_m_adds1 (mid : MethodId) (a : Addr) : entryFrame mid #[(.ref a)] 1 = mkF mid 0 #[.val (.ref a)] [] := by first | (simp [entryFrame, mkF, argsToLocals, Value.category]; done) | rfl
set_option maxRecDepth 65536 in
set_option maxHeartbeats 40000000 in
theorem m_adds1 {l : Launch} {Z : State} {a0 : Array Value} {n0 : Nat} (hw : ∀ d ∈ tables_1, d.before a0 Z = true) (hs : Stat Z) (a : Addr) (h0 : Heap) (F_a_before : Fld Z h0 a "com/example/sumgen/sumgen/sql/Changes$TypeChange" "before" "Lcom/example/sumgen/sumgen/model/SumType;" .null) :
    Met l Z EL0 n0 NR0 KN0 N_34 prog_30_method_2_code 1 (Option.some Jvm.ClassFile.FieldType.boolean) R_m_adds1 [] #[(.ref a)] h0 (Q_m_adds1 Z a h0) := by
  refine Met.of_go pn_m_adds1 (fun mid => ef_m_adds1 mid a ) ?_
  intro hO hWS
  refine Go.aload_n (pc' := 1) d_prog_30_method_2_0 rfl rfl rfl ?_
  refine Go.getF (pc' := 4) d_prog_30_method_2_1 rfl (host := "") (Or.inl (w_127 hw)) Via.refl F_a_before ?_
  refine Go.ifnonnullN (pc' := 7) d_prog_30_method_2_4 rfl ?_
  refine Go.iconst (pc' := 8) d_prog_30_method_2_7 rfl ic_1 ?_
  refine Go.goto (pc' := 12) d_prog_30_method_2_8 (by decide) (by decide) ?_
  exact Go.retS (ty := .boolean) d_prog_30_method_2_12 rfl (by simp) rfl (by decide) (by decide) [] sn0 ⟨rfl, rfl, rfl⟩
abbrev Q_m_law (Z : State) (p1 : Int32) (p2 : Int32) (p3 : Int32) (h0 : Heap) : Option Value → Heap → List Addr → Prop := fun res h' SN => res = some (.int (1 : Int32)) ∧ SN = []
set_option maxRecDepth 65536 in
set_option maxHeartbeats 40000000 in
theorem m_law3 {l : Launch} {Z : State} {a0 : Array Value} {n0 : Nat} (hw : ∀ d ∈ tables_1, d.before a0 Z = true) (hs : Stat Z) (p1 : Int32) (p2 : Int32) (p3 : Int32) (t1 : Int32) (t2 : Int32) (t3 : Int32) (t4 : Int32) (t5 : Int32) (a8 : Addr) (a9 : Addr) (a10 : Addr) (a11 : Addr) (vb : Value) (va : Value) (h0 h : Heap) (hv_vb : vb.isRef = true) (hv_va : va.isRef = true) (hk : (vb = .null ∧ t1 = (1 : Int32)) ∨ ((∃ b : Addr, vb = .ref b) ∧ t1 = (0 : Int32))) :
    Go l Z EL0 n0 NR0 KN0 x code maxLocals ret room_1 h0 [] (Q_m_law Z p1 p2 p3 h0) [] h 14 52 199 #[.val (.int p1), .val (.int p2), .val (.int p3), .val (.int t1), .val (.int t2), .val (.int t3), .val (.int t4), .val (.int t5), .val (.ref a8), .val (.ref a9), .val (.ref a10), .val (.ref a11), .val vb, .val va, .unset, .unset, .unset] [] := by
  refine Go.newO (pc' := 202) at_199 rfl (w_33 hw) (w_34 hw) (w_35 hw) (by decide) (by decide) ?_
  intro h226 b227 g228 ge_b227 x229 E_b227 D_b227 U_b227
  have F_b227_modCount : Fld Z h226 b227 "java/util/AbstractList" "modCount" "I" (.int (0 : Int32)) := D_b227 (Or.inl (w_53 hw)) (ty := .int) (by decide)
  have F_b227_elementData : Fld Z h226 b227 "java/util/ArrayList" "elementData" "[Ljava/lang/Object;" .null := D_b227 (Or.inl (w_56 hw)) (ty := (.array (.object "java/lang/Object"))) (by decide)
  have F_b227_size : Fld Z h226 b227 "java/util/ArrayList" "size" "I" (.int (0 : Int32)) := D_b227 (Or.inl (w_90 hw)) (ty := .int) (by decide)
  change Go _ _ _ _ _ _ _ _ _ _ _ _ _ _ [b227] h226 15 55 202 #[.val (.int p1), .val (.int p2), .val (.int p3), .val (.int t1), .val (.int t2), .val (.int t3), .val (.int t4), .val (.int t5), .val (.ref a8), .val (.ref a9), .val (.ref a10), .val (.ref a11), .val vb, .val va, .unset, .unset, .unset] [(.ref b227)]
  refine Go.dup (pc' := 203) at_202 rfl rfl ?_
  refine Go.callI (pc' := 206) (z := N_8) (a := b227) at_203 rfl rfl (w_36 hw) (w_37 hw) (w_38 hw) (by decide) (argsL := []) (rest := [(.ref b227)]) (Pays.of_met (W := 1) (len := 3) (m_al hw hs b227 h226 E_b227 F_b227_modCount F_b227_elementData F_b227_size) (w_38 hw) (w_35 hw) (by decide) (by decide)) rfl rfl (lenOf pd_4 rfl) rfl (Nat.le_of_eq rfl) (memS (List.mem_of_getElem? (i := 0) rfl) mem0) (by decide) (by decide) ?_
  rintro _ h230 _ K231 le232 ⟨rfl, rfl, p233, p234, p235, p236⟩
  replace E_b227 := E_b227.keep K231
  have F_b227_modCount := p234
  have F_b227_elementData := p235
  have F_b227_size := p236
  change Go _ _ _ _ _ _ _ _ _ _ _ _ _ _ [b227] h230 15 55 206 #[.val (.int p1), .val (.int p2), .val (.int p3), .val (.int t1), .val (.int t2), .val (.int t3), .val (.int t4), .val (.int t5), .val (.ref a8), .val (.ref a9), .val (.ref a10), .val (.ref a11), .val vb, .val va, .unset, .unset, .unset] [(.ref b227)]
  refine Go.astore (pc' := 208) (Ls' := #[.val (.int p1), .val (.int p2), .val (.int p3), .val (.int t1), .val (.int t2), .val (.int t3), .val (.int t4), .val (.int t5), .val (.ref a8), .val (.ref a9), .val (.ref a10), .val (.ref a11), .val vb, .val va, .val (.ref b227), .unset, .unset]) at_206 rfl rfl rfl ?_
  refine Go.iload (pc' := 210) at_208 rfl rfl ?_
  by_cases h1 : t4 = (0 : Int32)
  · skip
    refine Go.ifY (pc' := 231) at_210 (by decide) (by decide) ((if0 _ _).trans (teq (h1 : t4 = (0 : Int32))).1) ?_
    refine Go.newO (pc' := 234) at_231 rfl (w_33 hw) (w_34 hw) (w_35 hw) (by decide) (by decide) ?_
    intro h237 b238 g239 ge_b238 x240 E_b238 D_b238 U_b238
    have o_b227_b238 : b227 ≠ b238 := Nat.ne_of_lt (Nat.lt_of_lt_of_le E_b227.lt (Nat.le_of_eq g239))
    replace E_b227 := E_b227.ext x240
    replace F_b227_modCount := F_b227_modCount.ext x240
    replace F_b227_elementData := F_b227_elementData.ext x240
    replace F_b227_size := F_b227_size.ext x240
    have F_b238_modCount : Fld Z h237 b238 "java/util/AbstractList" "modCount" "I" (.int (0 : Int32)) := D_b238 (Or.inl (w_53 hw)) (ty := .int) (by decide)
    have F_b238_elementData : Fld Z h237 b238 "java/util/ArrayList" "elementData" "[Ljava/lang/Object;" .null := D_b238 (Or.inl (w_56 hw)) (ty := (.array (.object "java/lang/Object"))) (by decide)
    have F_b238_size : Fld Z h237 b238 "java/util/ArrayList" "size" "I" (.int (0 : Int32)) := D_b238 (Or.inl (w_90 hw)) (ty := .int) (by decide)
    change Go _ _ _ _ _ _ _ _ _ _ _ _ _ _ [b238, b227] h237 16 58 234 #[.val (.int p1), .val (.int p2), .val (.int p3), .val (.int t1), .val (.int t2), .val (.int t3), .val (.int t4), .val (.int t5), .val (.ref a8), .val (.ref a9), .val (.ref a10), .val (.ref a11), .val vb, .val va, .val (.ref b227), .unset, .unset] [(.ref b238)]
    refine Go.dup (pc' := 235) at_234 rfl rfl ?_
    refine Go.callI (pc' := 238) (z := N_8) (a := b238) at_235 rfl rfl (w_36 hw) (w_37 hw) (w_38 hw) (by decide) (argsL := []) (rest := [(.ref b238)]) (Pays.of_met (W := 1) (len := 3) (m_al hw hs b238 h237 E_b238 F_b238_modCount F_b238_elementData F_b238_size) (w_38 hw) (w_35 hw) (by decide) (by decide)) rfl rfl (lenOf pd_4 rfl) rfl (Nat.le_of_eq rfl) (memS (List.mem_of_getElem? (i := 0) rfl) mem0) (by decide) (by decide) ?_
    rintro _ h241 _ K242 le243 ⟨rfl, rfl, p244, p245, p246, p247⟩
    replace E_b227 := E_b227.keep K242
    replace F_b227_modCount := F_b227_modCount.keep K242 (ninS o_b227_b238 nin0)
    replace F_b227_elementData := F_b227_elementData.keep K242 (ninS o_b227_b238 nin0)
    replace F_b227_size := F_b227_size.keep K242 (ninS o_b227_b238 nin0)
    replace E_b238 := E_b238.keep K242
    have F_b238_modCount := p245
    have F_b238_elementData := p246
    have F_b238_size := p247
    change Go _ _ _ _ _ _ _ _ _ _ _ _ _ _ [b238, b227] h241 16 58 238 #[.val (.int p1), .val (.int p2), .val (.int p3), .val (.int t1), .val (.int t2), .val (.int t3), .val (.int t4), .val (.int t5), .val (.ref a8), .val (.ref a9), .val (.ref a10), .val (.ref a11), .val vb, .val va, .val (.ref b227), .unset, .unset] [(.ref b238)]
    refine Go.astore (pc' := 240) (Ls' := #[.val (.int p1), .val (.int p2), .val (.int p3), .val (.int t1), .val (.int t2), .val (.int t3), .val (.int t4), .val (.int t5), .val (.ref a8), .val (.ref a9), .val (.ref a10), .val (.ref a11), .val vb, .val va, .val (.ref b227), .val (.ref b238), .unset]) at_238 rfl rfl rfl ?_
    refine Go.iload (pc' := 242) at_240 rfl rfl ?_
    by_cases h2 : t5 = (0 : Int32)
    · skip
      refine Go.ifY (pc' := 263) at_242 (by decide) (by decide) ((if0 _ _).trans (teq (h2 : t5 = (0 : Int32))).1) ?_
      refine Go.newO (pc' := 266) at_263 rfl (w_119 hw) (w_120 hw) (w_121 hw) (by decide) (by decide) ?_
      intro h248 b249 g250 ge_b249 x251 E_b249 D_b249 U_b249
      have o_b227_b249 : b227 ≠ b249 := Nat.ne_of_lt (Nat.lt_of_lt_of_le E_b227.lt (Nat.le_of_eq g250))
      have o_b238_b249 : b238 ≠ b249 := Nat.ne_of_lt (Nat.lt_of_lt_of_le E_b238.lt (Nat.le_of_eq g250))
      replace E_b227 := E_b227.ext x251
      replace F_b227_modCount := F_b227_modCount.ext x251
      replace F_b227_elementData := F_b227_elementData.ext x251
      replace F_b227_size := F_b227_size.ext x251
      replace E_b238 := E_b238.ext x251
      replace F_b238_modCount := F_b238_modCount.ext x251
      replace F_b238_elementData := F_b238_elementData.ext x251
      replace F_b238_size := F_b238_size.ext x251
      have F_b249_before : Fld Z h248 b249 "com/example/sumgen/sumgen/sql/Changes$TypeChange" "before" "Lcom/example/sumgen/sumgen/model/SumType;" .null := D_b249 (Or.inr (w_128 hw)) (ty := (.object "com/example/sumgen/sumgen/model/SumType")) (by decide)
      have F_b249_after : Fld Z h248 b249 "com/example/sumgen/sumgen/sql/Changes$TypeChange" "after" "Lcom/example/sumgen/sumgen/model/SumType;" .null := D_b249 (Or.inr (w_130 hw)) (ty := (.object "com/example/sumgen/sumgen/model/SumType")) (by decide)
      have F_b249_addedFields : Fld Z h248 b249 "com/example/sumgen/sumgen/sql/Changes$TypeChange" "addedFields" "Ljava/util/List;" .null := D_b249 (Or.inr (w_132 hw)) (ty := (.object "java/util/List")) (by decide)
      have F_b249_removedFields : Fld Z h248 b249 "com/example/sumgen/sumgen/sql/Changes$TypeChange" "removedFields" "Ljava/util/List;" .null := D_b249 (Or.inr (w_134 hw)) (ty := (.object "java/util/List")) (by decide)
      have F_b249_variants : Fld Z h248 b249 "com/example/sumgen/sumgen/sql/Changes$TypeChange" "variants" "Ljava/util/List;" .null := D_b249 (Or.inr (w_136 hw)) (ty := (.object "java/util/List")) (by decide)
      have F_b249_removedVariants : Fld Z h248 b249 "com/example/sumgen/sumgen/sql/Changes$TypeChange" "removedVariants" "Ljava/util/List;" .null := D_b249 (Or.inr (w_138 hw)) (ty := (.object "java/util/List")) (by decide)
      change Go _ _ _ _ _ _ _ _ _ _ _ _ _ _ [b249, b238, b227] h248 17 64 266 #[.val (.int p1), .val (.int p2), .val (.int p3), .val (.int t1), .val (.int t2), .val (.int t3), .val (.int t4), .val (.int t5), .val (.ref a8), .val (.ref a9), .val (.ref a10), .val (.ref a11), .val vb, .val va, .val (.ref b227), .val (.ref b238), .unset] [(.ref b249)]
      refine Go.dup (pc' := 267) at_266 rfl rfl ?_
      refine Go.aload (pc' := 269) at_267 rfl rfl hv_vb ?_
      refine Go.aload (pc' := 271) at_269 rfl rfl hv_va ?_
      refine Go.aload (pc' := 273) at_271 rfl rfl rfl ?_
      refine Go.aload (pc' := 275) at_273 rfl rfl rfl ?_
      refine Go.newO (pc' := 278) at_275 rfl (w_33 hw) (w_34 hw) (w_35 hw) (by decide) (by decide) ?_
      intro h252 b253 g254 ge_b253 x255 E_b253 D_b253 U_b253
      have o_b227_b253 : b227 ≠ b253 := Nat.ne_of_lt (Nat.lt_of_lt_of_le E_b227.lt (Nat.le_of_eq g254))
      have o_b238_b253 : b238 ≠ b253 := Nat.ne_of_lt (Nat.lt_of_lt_of_le E_b238.lt (Nat.le_of_eq g254))
      have o_b249_b253 : b249 ≠ b253 := Nat.ne_of_lt (Nat.lt_of_lt_of_le E_b249.lt (Nat.le_of_eq g254))
      replace E_b227 := E_b227.ext x255
      replace F_b227_modCount := F_b227_modCount.ext x255
      replace F_b227_elementData := F_b227_elementData.ext x255
      replace F_b227_size := F_b227_size.ext x255
      replace E_b238 := E_b238.ext x255
      replace F_b238_modCount := F_b238_modCount.ext x255
      replace F_b238_elementData := F_b238_elementData.ext x255
      replace F_b238_size := F_b238_size.ext x255
      replace E_b249 := E_b249.ext x255
      replace U_b249 := unt_ext x255 U_b249
      replace F_b249_before := F_b249_before.ext x255
      replace F_b249_after := F_b249_after.ext x255
      replace F_b249_addedFields := F_b249_addedFields.ext x255
      replace F_b249_removedFields := F_b249_removedFields.ext x255
      replace F_b249_variants := F_b249_variants.ext x255
      replace F_b249_removedVariants := F_b249_removedVariants.ext x255
      have F_b253_modCount : Fld Z h252 b253 "java/util/AbstractList" "modCount" "I" (.int (0 : Int32)) := D_b253 (Or.inl (w_53 hw)) (ty := .int) (by decide)
      have F_b253_elementData : Fld Z h252 b253 "java/util/ArrayList" "elementData" "[Ljava/lang/Object;" .null := D_b253 (Or.inl (w_56 hw)) (ty := (.array (.object "java/lang/Object"))) (by decide)
      have F_b253_size : Fld Z h252 b253 "java/util/ArrayList" "size" "I" (.int (0 : Int32)) := D_b253 (Or.inl (w_90 hw)) (ty := .int) (by decide)
      change Go _ _ _ _ _ _ _ _ _ _ _ _ _ _ [b253, b249, b238, b227] h252 18 67 278 #[.val (.int p1), .val (.int p2), .val (.int p3), .val (.int t1), .val (.int t2), .val (.int t3), .val (.int t4), .val (.int t5), .val (.ref a8), .val (.ref a9), .val (.ref a10), .val (.ref a11), .val vb, .val va, .val (.ref b227), .val (.ref b238), .unset] [(.ref b253), (.ref b238), (.ref b227), va, vb, (.ref b249), (.ref b249)]
      refine Go.dup (pc' := 279) at_278 rfl rfl ?_
      refine Go.callI (pc' := 282) (z := N_8) (a := b253) at_279 rfl rfl (w_36 hw) (w_37 hw) (w_38 hw) (by decide) (argsL := []) (rest := [(.ref b253), (.ref b238), (.ref b227), va, vb, (.ref b249), (.ref b249)]) (Pays.of_met (W := 7) (len := 3) (m_al hw hs b253 h252 E_b253 F_b253_modCount F_b253_elementData F_b253_size) (w_38 hw) (w_35 hw) (by decide) (by decide)) rfl rfl (lenOf pd_4 rfl) rfl (by simp only [List.map_cons, List.map_nil, List.sum_cons, List.sum_nil, own_cat hv_va, own_cat hv_vb]; exact Nat.le_of_eq rfl) (memS (List.mem_of_getElem? (i := 0) rfl) mem0) (by decide) (by decide) ?_
      rintro _ h256 _ K257 le258 ⟨rfl, rfl, p259, p260, p261, p262⟩
      replace E_b227 := E_b227.keep K257
      replace F_b227_modCount := F_b227_modCount.keep K257 (ninS o_b227_b253 nin0)
      replace F_b227_elementData := F_b227_elementData.keep K257 (ninS o_b227_b253 nin0)
      replace F_b227_size := F_b227_size.keep K257 (ninS o_b227_b253 nin0)
      replace E_b238 := E_b238.keep K257
      replace F_b238_modCount := F_b238_modCount.keep K257 (ninS o_b238_b253 nin0)
      replace F_b238_elementData := F_b238_elementData.keep K257 (ninS o_b238_b253 nin0)
      replace F_b238_size := F_b238_size.keep K257 (ninS o_b238_b253 nin0)
      replace E_b249 := E_b249.keep K257
      replace F_b249_before := F_b249_before.keep K257 (ninS o_b249_b253 nin0)
      replace F_b249_after := F_b249_after.keep K257 (ninS o_b249_b253 nin0)
      replace F_b249_addedFields := F_b249_addedFields.keep K257 (ninS o_b249_b253 nin0)
      replace F_b249_removedFields := F_b249_removedFields.keep K257 (ninS o_b249_b253 nin0)
      replace F_b249_variants := F_b249_variants.keep K257 (ninS o_b249_b253 nin0)
      replace F_b249_removedVariants := F_b249_removedVariants.keep K257 (ninS o_b249_b253 nin0)
      replace E_b253 := E_b253.keep K257
      have F_b253_modCount := p260
      have F_b253_elementData := p261
      have F_b253_size := p262
      change Go _ _ _ _ _ _ _ _ _ _ _ _ _ _ [b253, b249, b238, b227] h256 18 67 282 #[.val (.int p1), .val (.int p2), .val (.int p3), .val (.int t1), .val (.int t2), .val (.int t3), .val (.int t4), .val (.int t5), .val (.ref a8), .val (.ref a9), .val (.ref a10), .val (.ref a11), .val vb, .val va, .val (.ref b227), .val (.ref b238), .unset] [(.ref b253), (.ref b238), (.ref b227), va, vb, (.ref b249), (.ref b249)]
      refine Go.newO (pc' := 285) at_282 rfl (w_33 hw) (w_34 hw) (w_35 hw) (by decide) (by decide) ?_
      intro h263 b264 g265 ge_b264 x266 E_b264 D_b264 U_b264
      have o_b227_b264 : b227 ≠ b264 := Nat.ne_of_lt (Nat.lt_of_lt_of_le E_b227.lt (Nat.le_of_eq g265))
      have o_b238_b264 : b238 ≠ b264 := Nat.ne_of_lt (Nat.lt_of_lt_of_le E_b238.lt (Nat.le_of_eq g265))
      have o_b249_b264 : b249 ≠ b264 := Nat.ne_of_lt (Nat.lt_of_lt_of_le E_b249.lt (Nat.le_of_eq g265))
      have o_b253_b264 : b253 ≠ b264 := Nat.ne_of_lt (Nat.lt_of_lt_of_le E_b253.lt (Nat.le_of_eq g265))
      replace E_b227 := E_b227.ext x266
      replace F_b227_modCount := F_b227_modCount.ext x266
      replace F_b227_elementData := F_b227_elementData.ext x266
      replace F_b227_size := F_b227_size.ext x266
      replace E_b238 := E_b238.ext x266
      replace F_b238_modCount := F_b238_modCount.ext x266
      replace F_b238_elementData := F_b238_elementData.ext x266
      replace F_b238_size := F_b238_size.ext x266
      replace E_b249 := E_b249.ext x266
      replace F_b249_before := F_b249_before.ext x266
      replace F_b249_after := F_b249_after.ext x266
      replace F_b249_addedFields := F_b249_addedFields.ext x266
      replace F_b249_removedFields := F_b249_removedFields.ext x266
      replace F_b249_variants := F_b249_variants.ext x266
      replace F_b249_removedVariants := F_b249_removedVariants.ext x266
      replace E_b253 := E_b253.ext x266
      replace F_b253_modCount := F_b253_modCount.ext x266
      replace F_b253_elementData := F_b253_elementData.ext x266
      replace F_b253_size := F_b253_size.ext x266
      have F_b264_modCount : Fld Z h263 b264 "java/util/AbstractList" "modCount" "I" (.int (0 : Int32)) := D_b264 (Or.inl (w_53 hw)) (ty := .int) (by decide)
      have F_b264_elementData : Fld Z h263 b264 "java/util/ArrayList" "elementData" "[Ljava/lang/Object;" .null := D_b264 (Or.inl (w_56 hw)) (ty := (.array (.object "java/lang/Object"))) (by decide)
      have F_b264_size : Fld Z h263 b264 "java/util/ArrayList" "size" "I" (.int (0 : Int32)) := D_b264 (Or.inl (w_90 hw)) (ty := .int) (by decide)
      change Go _ _ _ _ _ _ _ _ _ _ _ _ _ _ [b264, b253, b249, b238, b227] h263 19 70 285 #[.val (.int p1), .val (.int p2), .val (.int p3), .val (.int t1), .val (.int t2), .val (.int t3), .val (.int t4), .val (.int t5), .val (.ref a8), .val (.ref a9), .val (.ref a10), .val (.ref a11), .val vb, .val va, .val (.ref b227), .val (.ref b238), .unset] [(.ref b264), (.ref b253), (.ref b238), (.ref b227), va, vb, (.ref b249), (.ref b249)]
      refine Go.dup (pc' := 286) at_285 rfl rfl ?_
      refine Go.callI (pc' := 289) (z := N_8) (a := b264) at_286 rfl rfl (w_36 hw) (w_37 hw) (w_38 hw) (by decide) (argsL := []) (rest := [(.ref b264), (.ref b253), (.ref b238), (.ref b227), va, vb, (.ref b249), (.ref b249)]) (Pays.of_met (W := 8) (len := 3) (m_al hw hs b264 h263 E_b264 F_b264_modCount F_b264_elementData F_b264_size) (w_38 hw) (w_35 hw) (by decide) (by decide)) rfl rfl (lenOf pd_4 rfl) rfl (by simp only [List.map_cons, List.map_nil, List.sum_cons, List.sum_nil, own_cat hv_va, own_cat hv_vb]; exact Nat.le_of_eq rfl) (memS (List.mem_of_getElem? (i := 0) rfl) mem0) (by decide) (by decide) ?_
      rintro _ h267 _ K268 le269 ⟨rfl, rfl, p270, p271, p272, p273⟩
      replace E_b227 := E_b227.keep K268
      replace F_b227_modCount := F_b227_modCount.keep K268 (ninS o_b227_b264 nin0)
      replace F_b227_elementData := F_b227_elementData.keep K268 (ninS o_b227_b264 nin0)
      replace F_b227_size := F_b227_size.keep K268 (ninS o_b227_b264 nin0)
      replace E_b238 := E_b238.keep K268
      replace F_b238_modCount := F_b238_modCount.keep K268 (ninS o_b238_b264 nin0)
      replace F_b238_elementData := F_b238_elementData.keep K268 (ninS o_b238_b264 nin0)
      replace F_b238_size := F_b238_size.keep K268 (ninS o_b238_b264 nin0)
      replace E_b249 := E_b249.keep K268
      replace F_b249_before := F_b249_before.keep K268 (ninS o_b249_b264 nin0)
      replace F_b249_after := F_b249_after.keep K268 (ninS o_b249_b264 nin0)
      replace F_b249_addedFields := F_b249_addedFields.keep K268 (ninS o_b249_b264 nin0)
      replace F_b249_removedFields := F_b249_removedFields.keep K268 (ninS o_b249_b264 nin0)
      replace F_b249_variants := F_b249_variants.keep K268 (ninS o_b249_b264 nin0)
      replace F_b249_removedVariants := F_b249_removedVariants.keep K268 (ninS o_b249_b264 nin0)
      replace E_b253 := E_b253.keep K268
      replace F_b253_modCount := F_b253_modCount.keep K268 (ninS o_b253_b264 nin0)
      replace F_b253_elementData := F_b253_elementData.keep K268 (ninS o_b253_b264 nin0)
      replace F_b253_size := F_b253_size.keep K268 (ninS o_b253_b264 nin0)
      replace E_b264 := E_b264.keep K268
      have F_b264_modCount := p271
      have F_b264_elementData := p272
      have F_b264_size := p273
      change Go _ _ _ _ _ _ _ _ _ _ _ _ _ _ [b264, b253, b249, b238, b227] h267 19 70 289 #[.val (.int p1), .val (.int p2), .val (.int p3), .val (.int t1), .val (.int t2), .val (.int t3), .val (.int t4), .val (.int t5), .val (.ref a8), .val (.ref a9), .val (.ref a10), .val (.ref a11), .val vb, .val va, .val (.ref b227), .val (.ref b238), .unset] [(.ref b264), (.ref b253), (.ref b238), (.ref b227), va, vb, (.ref b249), (.ref b249)]
      refine Go.callI (pc' := 292) (z := N_33) (a := b249) at_289 rfl rfl (w_122 hw) (w_123 hw) (w_124 hw) (by decide) (argsL := [vb, va, (.ref b227), (.ref b238), (.ref b253), (.ref b264)]) (rest := [(.ref b249)]) (Pays.of_met (W := 1) (len := 3) (m_tc00 hw hs b249 vb va b227 b238 b253 b264 h267 E_b249 F_b249_before F_b249_after F_b249_addedFields F_b249_removedFields F_b249_variants F_b249_removedVariants E_b227 F_b227_size E_b238 F_b238_size E_b253 F_b253_size E_b264 F_b264_size (hv_vb) (hv_va)) (w_124 hw) (w_121 hw) (by decide) (by decide)) rfl rfl (lenOf pd_17 rfl) rfl (Nat.le_of_eq rfl) (memS (List.mem_of_getElem? (i := 2) rfl) mem0) (by decide) (by decide) ?_
      rintro _ h274 _ K275 le276 ⟨rfl, rfl, p277, p278⟩
      replace E_b227 := E_b227.keep K275
      replace F_b227_modCount := F_b227_modCount.keep K275 (ninS o_b227_b249 nin0)
      replace F_b227_elementData := F_b227_elementData.keep K275 (ninS o_b227_b249 nin0)
      replace F_b227_size := F_b227_size.keep K275 (ninS o_b227_b249 nin0)
      replace E_b238 := E_b238.keep K275
      replace F_b238_modCount := F_b238_modCount.keep K275 (ninS o_b238_b249 nin0)
      replace F_b238_elementData := F_b238_elementData.keep K275 (ninS o_b238_b249 nin0)
      replace F_b238_size := F_b238_size.keep K275 (ninS o_b238_b249 nin0)
      replace E_b249 := E_b249.keep K275
      replace E_b253 := E_b253.keep K275
      replace F_b253_modCount := F_b253_modCount.keep K275 (ninS (Ne.symm o_b249_b253) nin0)
      replace F_b253_elementData := F_b253_elementData.keep K275 (ninS (Ne.symm o_b249_b253) nin0)
      replace F_b253_size := F_b253_size.keep K275 (ninS (Ne.symm o_b249_b253) nin0)
      replace E_b264 := E_b264.keep K275
      replace F_b264_modCount := F_b264_modCount.keep K275 (ninS (Ne.symm o_b249_b264) nin0)
      replace F_b264_elementData := F_b264_elementData.keep K275 (ninS (Ne.symm o_b249_b264) nin0)
      replace F_b264_size := F_b264_size.keep K275 (ninS (Ne.symm o_b249_b264) nin0)
      have F_b249_before := p278
      change Go _ _ _ _ _ _ _ _ _ _ _ _ _ _ [b264, b253, b249, b238, b227] h274 19 70 292 #[.val (.int p1), .val (.int p2), .val (.int p3), .val (.int t1), .val (.int t2), .val (.int t3), .val (.int t4), .val (.int t5), .val (.ref a8), .val (.ref a9), .val (.ref a10), .val (.ref a11), .val vb, .val va, .val (.ref b227), .val (.ref b238), .unset] [(.ref b249)]
      refine Go.astore (pc' := 294) (Ls' := #[.val (.int p1), .val (.int p2), .val (.int p3), .val (.int t1), .val (.int t2), .val (.int t3), .val (.int t4), .val (.int t5), .val (.ref a8), .val (.ref a9), .val (.ref a10), .val (.ref a11), .val vb, .val va, .val (.ref b227), .val (.ref b238), .val (.ref b249)]) at_292 rfl rfl rfl ?_
      refine Go.aload (pc' := 296) at_294 rfl rfl rfl ?_
      rcases hk with ⟨rfl, rfl⟩ | ⟨⟨bb, rfl⟩, rfl⟩
      · skip
        refine Go.callV (pc' := 299) (u := N_34) (z := N_34) (a := b249) at_296 rfl (w_139 hw) (w_140 hw) (nf (w_142 hw) rfl) (w_142 hw) (w_141 hw) (by decide) E_b249 (argsL := []) (rest := []) (Pays.of_met (W := 0) (len := 3) (m_adds1 hw hs b249 h274 F_b249_before) (w_143 hw) (w_121 hw) (by decide) (by decide)) rfl rfl (lenOf pd_13 rfl) rfl (Nat.le_of_eq rfl) mem0 (by decide) (by decide) ?_
        rintro _ _ _ - - ⟨rfl, rfl, rfl⟩
        change Go _ _ _ _ _ _ _ _ _ _ _ _ _ _ [b264, b253, b249, b238, b227] h274 19 70 299 #[.val (.int p1), .val (.int p2), .val (.int p3), .val (.int (1 : Int32)), .val (.int t2), .val (.int t3), .val (.int t4), .val (.int t5), .val (.ref a8), .val (.ref a9), .val (.ref a10), .val (.ref a11), .val .null, .val va, .val (.ref b227), .val (.ref b238), .val (.ref b249)] [(.int (1 : Int32))]
        refine Go.iload_n (pc' := 300) at_299 rfl rfl ?_
        refine Go.icmpN (pc' := 303) at_300 rfl (teq (rfl : (1 : Int32) = (1 : Int32))).2 ?_
        refine Go.iconst (pc' := 304) at_303 rfl ic_1 ?_
        refine Go.goto (pc' := 308) at_304 (by decide) (by decide) ?_
        exact Go.retS (ty := .boolean) at_308 rfl (by simp) rfl (by decide) (by decide) [] sn0 ⟨rfl, rfl⟩
      · skip
        refine Go.callV (pc' := 299) (u := N_34) (z := N_34) (a := b249) at_296 rfl (w_139 hw) (w_140 hw) (nf (w_142 hw) rfl) (w_142 hw) (w_141 hw) (by decide) E_b249 (argsL := []) (rest := []) (Pays.of_met (W := 0) (len := 3) (m_adds0 hw hs b249 bb h274 F_b249_before) (w_143 hw) (w_121 hw) (by decide) (by decide)) rfl rfl (lenOf pd_13 rfl) rfl (Nat.le_of_eq rfl) mem0 (by decide) (by decide) ?_
        rintro _ _ _ - - ⟨rfl, rfl, rfl⟩
        change Go _ _ _ _ _ _ _ _ _ _ _ _ _ _ [b264, b253, b249, b238, b227] h274 19 70 299 #[.val (.int p1), .val (.int p2), .val (.int p3), .val (.int (0 : Int32)), .val (.int t2), .val (.int t3), .val (.int t4), .val (.int t5), .val (.ref a8), .val (.ref a9), .val (.ref a10), .val (.ref a11), .val (.ref bb), .val va, .val (.ref b227), .val (.ref b238), .val (.ref b249)] [(.int (0 : Int32))]
        refine Go.iload_n (pc' := 300) at_299 rfl rfl ?_
        refine Go.icmpN (pc' := 303) at_300 rfl (teq (rfl : (0 : Int32) = (0 : Int32))).2 ?_
        refine Go.iconst (pc' := 304) at_303 rfl ic_1 ?_
        refine Go.goto (pc' := 308) at_304 (by decide) (by decide) ?_
        exact Go.retS (ty := .boolean) at_308 rfl (by simp) rfl (by decide) (by decide) [] sn0 ⟨rfl, rfl⟩
    · skip
      refine Go.ifN (pc' := 245) at_242 rfl ((if0 _ _).trans (feq (h2 : ¬ (t5 = (0 : Int32)))).1) ?_
      refine Go.aload (pc' := 247) at_245 rfl rfl rfl ?_
      refine Go.newO (pc' := 250) at_247 rfl (w_144 hw) (w_145 hw) (w_146 hw) (by decide) (by decide) ?_
      intro h279 b280 g281 ge_b280 x282 E_b280 D_b280 U_b280
      have o_b227_b280 : b227 ≠ b280 := Nat.ne_of_lt (Nat.lt_of_lt_of_le E_b227.lt (Nat.le_of_eq g281))
      have o_b238_b280 : b238 ≠ b280 := Nat.ne_of_lt (Nat.lt_of_lt_of_le E_b238.lt (Nat.le_of_eq g281))
      replace E_b227 := E_b227.ext x282
      replace F_b227_modCount := F_b227_modCount.ext x282
      replace F_b227_elementData := F_b227_elementData.ext x282
      replace F_b227_size := F_b227_size.ext x282
      replace E_b238 := E_b238.ext x282
      replace F_b238_modCount := F_b238_modCount.ext x282
      replace F_b238_elementData := F_b238_elementData.ext x282
      replace F_b238_size := F_b238_size.ext x282
      have F_b280_name : Fld Z h279 b280 "com/example/sumgen/sumgen/model/Field" "name" "Ljava/lang/String;" .null := D_b280 (Or.inr (w_152 hw)) (ty := (.object "java/lang/String")) (by decide)
      have F_b280_type : Fld Z h279 b280 "com/example/sumgen/sumgen/model/Field" "type" "Lcom/example/sumgen/sumgen/model/FieldType;" .null := D_b280 (Or.inr (w_154 hw)) (ty := (.object "com/example/sumgen/sumgen/model/FieldType")) (by decide)
      have F_b280_multiplicity : Fld Z h279 b280 "com/example/sumgen/sumgen/model/Field" "multiplicity" "Lcom/example/sumgen/sumgen/model/Field$Multiplicity;" .null := D_b280 (Or.inr (w_156 hw)) (ty := (.object "com/example/sumgen/sumgen/model/Field$Multiplicity")) (by decide)
      have F_b280_place : Fld Z h279 b280 "com/example/sumgen/sumgen/model/Field" "place" "Lcom/example/sumgen/sumgen/model/Place;" .null := D_b280 (Or.inr (w_158 hw)) (ty := (.object "com/example/sumgen/sumgen/model/Place")) (by decide)
      change Go _ _ _ _ _ _ _ _ _ _ _ _ _ _ [b280, b238, b227] h279 17 62 250 #[.val (.int p1), .val (.int p2), .val (.int p3), .val (.int t1), .val (.int t2), .val (.int t3), .val (.int t4), .val (.int t5), .val (.ref a8), .val (.ref a9), .val (.ref a10), .val (.ref a11), .val vb, .val va, .val (.ref b227), .val (.ref b238), .unset] [(.ref b280), (.ref b238)]
      refine Go.dup (pc' := 251) at_250 rfl rfl ?_
      refine Go.aload (pc' := 253) at_251 rfl rfl rfl ?_
      refine Go.aconst_null (pc' := 254) at_253 rfl ?_
      refine Go.aconst_null (pc' := 255) at_254 rfl ?_
      refine Go.aconst_null (pc' := 256) at_255 rfl ?_
      refine Go.callI (pc' := 259) (z := N_29) (a := b280) at_256 rfl rfl (w_147 hw) (w_148 hw) (w_149 hw) (by decide) (argsL := [(.ref a8), .null, .null, .null]) (rest := [(.ref b280), (.ref b238)]) (Pays.of_met (W := 2) (len := 3) (m_field hw hs b280 a8 h279 E_b280 F_b280_name F_b280_type F_b280_multiplicity F_b280_place) (w_149 hw) (w_146 hw) (by decide) (by decide)) rfl rfl (lenOf pd_18 rfl) rfl (Nat.le_of_eq rfl) (memS (List.mem_of_getElem? (i := 0) rfl) mem0) (by decide) (by decide) ?_
      rintro _ h283 _ K284 le285 ⟨rfl, rfl, p286⟩
      replace E_b227 := E_b227.keep K284
      replace F_b227_modCount := F_b227_modCount.keep K284 (ninS o_b227_b280 nin0)
      replace F_b227_elementData := F_b227_elementData.keep K284 (ninS o_b227_b280 nin0)
      replace F_b227_size := F_b227_size.keep K284 (ninS o_b227_b280 nin0)
      replace E_b238 := E_b238.keep K284
      replace F_b238_modCount := F_b238_modCount.keep K284 (ninS o_b238_b280 nin0)
      replace F_b238_elementData := F_b238_elementData.keep K284 (ninS o_b238_b280 nin0)
      replace F_b238_size := F_b238_size.keep K284 (ninS o_b238_b280 nin0)
      replace E_b280 := E_b280.keep K284
      change Go _ _ _ _ _ _ _ _ _ _ _ _ _ _ [b280, b238, b227] h283 17 62 259 #[.val (.int p1), .val (.int p2), .val (.int p3), .val (.int t1), .val (.int t2), .val (.int t3), .val (.int t4), .val (.int t5), .val (.ref a8), .val (.ref a9), .val (.ref a10), .val (.ref a11), .val vb, .val va, .val (.ref b227), .val (.ref b238), .unset] [(.ref b280), (.ref b238)]
      refine Go.callV (pc' := 262) (u := N_14) (z := N_14) (a := b238) at_259 rfl (w_159 hw) (w_160 hw) (nf (w_162 hw) rfl) (w_162 hw) (w_161 hw) (by decide) E_b238 (argsL := [(.ref b280)]) (rest := []) (Pays.of_met (W := 0) (len := 3) (m_add hw hs b238 b280 (0 : Int32) h283 E_b238 F_b238_modCount F_b238_elementData F_b238_size E_b280 (Ne.symm o_b238_b280)) (w_163 hw) (w_35 hw) (by decide) (by decide)) rfl rfl (lenOf pd_19 rfl) rfl (Nat.le_of_eq rfl) (memS (List.mem_of_getElem? (i := 1) rfl) mem0) (by decide) (by decide) ?_
      rintro _ h289 _ K290 le291 ⟨b287, q288, rfl, rfl, p292, p293, p294, p295, p296, p297⟩
      have o_b227_b287 : b227 ≠ b287 := Nat.ne_of_lt (Nat.lt_of_lt_of_le E_b227.lt p295)
      have o_b238_b287 : b238 ≠ b287 := Nat.ne_of_lt (Nat.lt_of_lt_of_le E_b238.lt p295)
      have o_b280_b287 : b280 ≠ b287 := Nat.ne_of_lt (Nat.lt_of_lt_of_le E_b280.lt p295)
      have ge_b287 := Nat.le_trans le291 p295
      replace E_b227 := E_b227.keep K290
      replace F_b227_modCount := F_b227_modCount.keep K290 (ninS o_b227_b238 nin0)
      replace F_b227_elementData := F_b227_elementData.keep K290 (ninS o_b227_b238 nin0)
      replace F_b227_size := F_b227_size.keep K290 (ninS o_b227_b238 nin0)
      replace E_b238 := E_b238.keep K290
      replace E_b280 := E_b280.keep K290
      have F_b238_elementData := p293
      have F_b238_size := p294
      have E_b287 := p296
      have V_b287 := p297
      change Go _ _ _ _ _ _ _ _ _ _ _ _ _ _ [b280, b238, b227] h289 18 72 262 #[.val (.int p1), .val (.int p2), .val (.int p3), .val (.int t1), .val (.int t2), .val (.int t3), .val (.int t4), .val (.int t5), .val (.ref a8), .val (.ref a9), .val (.ref a10), .val (.ref a11), .val vb, .val va, .val (.ref b227), .val (.ref b238), .unset] [(.int (1 : Int32))]
      refine Go.pop (pc' := 263) at_262 rfl rfl ?_
      refine Go.newO (pc' := 266) at_263 rfl (w_119 hw) (w_120 hw) (w_121 hw) (by decide) (by decide) ?_
      intro h298 b299 g300 ge_b299 x301 E_b299 D_b299 U_b299
      have o_b227_b299 : b227 ≠ b299 := Nat.ne_of_lt (Nat.lt_of_lt_of_le E_b227.lt (Nat.le_of_eq g300))
      have o_b238_b299 : b238 ≠ b299 := Nat.ne_of_lt (Nat.lt_of_lt_of_le E_b238.lt (Nat.le_of_eq g300))
      have o_b280_b299 : b280 ≠ b299 := Nat.ne_of_lt (Nat.lt_of_lt_of_le E_b280.lt (Nat.le_of_eq g300))
      have o_b287_b299 : b287 ≠ b299 := Nat.ne_of_lt (Nat.lt_of_lt_of_le E_b287.lt (Nat.le_of_eq g300))
      replace E_b227 := E_b227.ext x301
      replace F_b227_modCount := F_b227_modCount.ext x301
      replace F_b227_elementData := F_b227_elementData.ext x301
      replace F_b227_size := F_b227_size.ext x301
      replace E_b238 := E_b238.ext x301
      replace E_b280 := E_b280.ext x301
      replace F_b238_elementData := F_b238_elementData.ext x301
      replace F_b238_size := F_b238_size.ext x301
      replace E_b287 := E_b287.ext x301
      replace V_b287 := V_b287.ext x301
      have F_b299_before : Fld Z h298 b299 "com/example/sumgen/sumgen/sql/Changes$TypeChange" "before" "Lcom/example/sumgen/sumgen/model/SumType;" .null := D_b299 (Or.inr (w_128 hw)) (ty := (.object "com/example/sumgen/sumgen/model/SumType")) (by decide)
      have F_b299_after : Fld Z h298 b299 "com/example/sumgen/sumgen/sql/Changes$TypeChange" "after" "Lcom/example/sumgen/sumgen/model/SumType;" .null := D_b299 (Or.inr (w_130 hw)) (ty := (.object "com/example/sumgen/sumgen/model/SumType")) (by decide)
      have F_b299_addedFields : Fld Z h298 b299 "com/example/sumgen/sumgen/sql/Changes$TypeChange" "addedFields" "Ljava/util/List;" .null := D_b299 (Or.inr (w_132 hw)) (ty := (.object "java/util/List")) (by decide)
      have F_b299_removedFields : Fld Z h298 b299 "com/example/sumgen/sumgen/sql/Changes$TypeChange" "removedFields" "Ljava/util/List;" .null := D_b299 (Or.inr (w_134 hw)) (ty := (.object "java/util/List")) (by decide)
      have F_b299_variants : Fld Z h298 b299 "com/example/sumgen/sumgen/sql/Changes$TypeChange" "variants" "Ljava/util/List;" .null := D_b299 (Or.inr (w_136 hw)) (ty := (.object "java/util/List")) (by decide)
      have F_b299_removedVariants : Fld Z h298 b299 "com/example/sumgen/sumgen/sql/Changes$TypeChange" "removedVariants" "Ljava/util/List;" .null := D_b299 (Or.inr (w_138 hw)) (ty := (.object "java/util/List")) (by decide)
      change Go _ _ _ _ _ _ _ _ _ _ _ _ _ _ [b299, b280, b238, b227] h298 19 78 266 #[.val (.int p1), .val (.int p2), .val (.int p3), .val (.int t1), .val (.int t2), .val (.int t3), .val (.int t4), .val (.int t5), .val (.ref a8), .val (.ref a9), .val (.ref a10), .val (.ref a11), .val vb, .val va, .val (.ref b227), .val (.ref b238), .unset] [(.ref b299)]
      refine Go.dup (pc' := 267) at_266 rfl rfl ?_
      refine Go.aload (pc' := 269) at_267 rfl rfl hv_vb ?_
      refine Go.aload (pc' := 271) at_269 rfl rfl hv_va ?_
      refine Go.aload (pc' := 273) at_271 rfl rfl rfl ?_
      refine Go.aload (pc' := 275) at_273 rfl rfl rfl ?_
      refine Go.newO (pc' := 278) at_275 rfl (w_33 hw) (w_34 hw) (w_35 hw) (by decide) (by decide) ?_
      intro h302 b303 g304 ge_b303 x305 E_b303 D_b303 U_b303
      have o_b227_b303 : b227 ≠ b303 := Nat.ne_of_lt (Nat.lt_of_lt_of_le E_b227.lt (Nat.le_of_eq g304))
      have o_b238_b303 : b238 ≠ b303 := Nat.ne_of_lt (Nat.lt_of_lt_of_le E_b238.lt (Nat.le_of_eq g304))
      have o_b280_b303 : b280 ≠ b303 := Nat.ne_of_lt (Nat.lt_of_lt_of_le E_b280.lt (Nat.le_of_eq g304))
      have o_b287_b303 : b287 ≠ b303 := Nat.ne_of_lt (Nat.lt_of_lt_of_le E_b287.lt (Nat.le_of_eq g304))
      have o_b299_b303 : b299 ≠ b303 := Nat.ne_of_lt (Nat.lt_of_lt_of_le E_b299.lt (Nat.le_of_eq g304))
      replace E_b227 := E_b227.ext x305
      replace F_b227_modCount := F_b227_modCount.ext x305
      replace F_b227_elementData := F_b227_elementData.ext x305
      replace F_b227_size := F_b227_size.ext x305
      replace E_b238 := E_b238.ext x305
      replace E_b280 := E_b280.ext x305
      replace F_b238_elementData := F_b238_elementData.ext x305
      replace F_b238_size := F_b238_size.ext x305
      replace E_b287 := E_b287.ext x305
      replace V_b287 := V_b287.ext x305
      replace E_b299 := E_b299.ext x305
      replace U_b299 := unt_ext x305 U_b299
      replace F_b299_before := F_b299_before.ext x305
      replace F_b299_after := F_b299_after.ext x305
      replace F_b299_addedFields := F_b299_addedFields.ext x305
      replace F_b299_removedFields := F_b299_removedFields.ext x305
      replace F_b299_variants := F_b299_variants.ext x305
      replace F_b299_removedVariants := F_b299_removedVariants.ext x305
      have F_b303_modCount : Fld Z h302 b303 "java/util/AbstractList" "modCount" "I" (.int (0 : Int32)) := D_b303 (Or.inl (w_53 hw)) (ty := .int) (by decide)
      have F_b303_elementData : Fld Z h302 b303 "java/util/ArrayList" "elementData" "[Ljava/lang/Object;" .null := D_b303 (Or.inl (w_56 hw)) (ty := (.array (.object "java/lang/Object"))) (by decide)
      have F_b303_size : Fld Z h302 b303 "java/util/ArrayList" "size" "I" (.int (0 : Int32)) := D_b303 (Or.inl (w_90 hw)) (ty := .int) (by decide)
      change Go _ _ _ _ _ _ _ _ _ _ _ _ _ _ [b303, b299, b280, b238, b227] h302 20 81 278 #[.val (.int p1), .val (.int p2), .val (.int p3), .val (.int t1), .val (.int t2), .val (.int t3), .val (.int t4), .val (.int t5), .val (.ref a8), .val (.ref a9), .val (.ref a10), .val (.ref a11), .val vb, .val va, .val (.ref b227), .val (.ref b238), .unset] [(.ref b303), (.ref b238), (.ref b227), va, vb, (.ref b299), (.ref b299)]
      refine Go.dup (pc' := 279) at_278 rfl rfl ?_
      refine Go.callI (pc' := 282) (z := N_8) (a := b303) at_279 rfl rfl (w_36 hw) (w_37 hw) (w_38 hw) (by decide) (argsL := []) (rest := [(.ref b303), (.ref b238), (.ref b227), va, vb, (.ref b299), (.ref b299)]) (Pays.of_met (W := 7) (len := 3) (m_al hw hs b303 h302 E_b303 F_b303_modCount F_b303_elementData F_b303_size) (w_38 hw) (w_35 hw) (by decide) (by decide)) rfl rfl (lenOf pd_4 rfl) rfl (by simp only [List.map_cons, List.map_nil, List.sum_cons, List.sum_nil, own_cat hv_va, own_cat hv_vb]; exact Nat.le_of_eq rfl) (memS (List.mem_of_getElem? (i := 0) rfl) mem0) (by decide) (by decide) ?_
      rintro _ h306 _ K307 le308 ⟨rfl, rfl, p309, p310, p311, p312⟩
      replace E_b227 := E_b227.keep K307
      replace F_b227_modCount := F_b227_modCount.keep K307 (ninS o_b227_b303 nin0)
      replace F_b227_elementData := F_b227_elementData.keep K307 (ninS o_b227_b303 nin0)
      replace F_b227_size := F_b227_size.keep K307 (ninS o_b227_b303 nin0)
      replace E_b238 := E_b238.keep K307
      replace E_b280 := E_b280.keep K307
      replace F_b238_elementData := F_b238_elementData.keep K307 (ninS o_b238_b303 nin0)
      replace F_b238_size := F_b238_size.keep K307 (ninS o_b238_b303 nin0)
      replace E_b287 := E_b287.keep K307
      replace V_b287 := V_b287.keep K307 (ninS o_b287_b303 nin0)
      replace E_b299 := E_b299.keep K307
      replace F_b299_before := F_b299_before.keep K307 (ninS o_b299_b303 nin0)
      replace F_b299_after := F_b299_after.keep K307 (ninS o_b299_b303 nin0)
      replace F_b299_addedFields := F_b299_addedFields.keep K307 (ninS o_b299_b303 nin0)
      replace F_b299_removedFields := F_b299_removedFields.keep K307 (ninS o_b299_b303 nin0)
      replace F_b299_variants := F_b299_variants.keep K307 (ninS o_b299_b303 nin0)
      replace F_b299_removedVariants := F_b299_removedVariants.keep K307 (ninS o_b299_b303 nin0)
      replace E_b303 := E_b303.keep K307
      have F_b303_modCount := p310
      have F_b303_elementData := p311
      have F_b303_size := p312
      change Go _ _ _ _ _ _ _ _ _ _ _ _ _ _ [b303, b299, b280, b238, b227] h306 20 81 282 #[.val (.int p1), .val (.int p2), .val (.int p3), .val (.int t1), .val (.int t2), .val (.int t3), .val (.int t4), .val (.int t5), .val (.ref a8), .val (.ref a9), .val (.ref a10), .val (.ref a11), .val vb, .val va, .val (.ref b227), .val (.ref b238), .unset] [(.ref b303), (.ref b238), (.ref b227), va, vb, (.ref b299), (.ref b299)]
      refine Go.newO (pc' := 285) at_282 rfl (w_33 hw) (w_34 hw) (w_35 hw) (by decide) (by decide) ?_
      intro h313 b314 g315 ge_b314 x316 E_b314 D_b314 U_b314
      have o_b227_b314 : b227 ≠ b314 := Nat.ne_of_lt (Nat.lt_of_lt_of_le E_b227.lt (Nat.le_of_eq g315))
      have o_b238_b314 : b238 ≠ b314 := Nat.ne_of_lt (Nat.lt_of_lt_of_le E_b238.lt (Nat.le_of_eq g315))
      have o_b280_b314 : b280 ≠ b314 := Nat.ne_of_lt (Nat.lt_of_lt_of_le E_b280.lt (Nat.le_of_eq g315))
      have o_b287_b314 : b287 ≠ b314 := Nat.ne_of_lt (Nat.lt_of_lt_of_le E_b287.lt (Nat.le_of_eq g315))
      have o_b299_b314 : b299 ≠ b314 := Nat.ne_of_lt (Nat.lt_of_lt_of_le E_b299.lt (Nat.le_of_eq g315))
      have o_b303_b314 : b303 ≠ b314 := Nat.ne_of_lt (Nat.lt_of_lt_of_le E_b303.lt (Nat.le_of_eq g315))
      replace E_b227 := E_b227.ext x316
      replace F_b227_modCount := F_b227_modCount.ext x316
      replace F_b227_elementData := F_b227_elementData.ext x316
      replace F_b227_size := F_b227_size.ext x316
      replace E_b238 := E_b238.ext x316
      replace E_b280 := E_b280.ext x316
      replace F_b238_elementData := F_b238_elementData.ext x316
      replace F_b238_size := F_b238_size.ext x316
      replace E_b287 := E_b287.ext x316
      replace V_b287 := V_b287.ext x316
      replace E_b299 := E_b299.ext x316
      replace F_b299_before := F_b299_before.ext x316
      replace F_b299_after := F_b299_after.ext x316
      replace F_b299_addedFields := F_b299_addedFields.ext x316
      replace F_b299_removedFields := F_b299_removedFields.ext x316
      replace F_b299_variants := F_b299_variants.ext x316
      replace F_b299_removedVariants := F_b299_removedVariants.ext x316
      replace E_b303 := E_b303.ext x316
      replace F_b303_modCount := F_b303_modCount.ext x316
      replace F_b303_elementData := F_b303_elementData.ext x316
      replace F_b303_size := F_b303_size.ext x316
      have F_b314_modCount : Fld Z h313 b314 "java/util/AbstractList" "modCount" "I" (.int (0 : Int32)) := D_b314 (Or.inl (w_53 hw)) (ty := .int) (by decide)
      have F_b314_elementData : Fld Z h313 b314 "java/util/ArrayList" "elementData" "[Ljava/lang/Object;" .null := D_b314 (Or.inl (w_56 hw)) (ty := (.array (.object "java/lang/Object"))) (by decide)
      have F_b314_size : Fld Z h313 b314 "java/util/ArrayList" "size" "I" (.int (0 : Int32)) := D_b314 (Or.inl (w_90 hw)) (ty := .int) (by decide)
      change Go _ _ _ _ _ _ _ _ _ _ _ _ _ _ [b314, b303, b299, b280, b238, b227] h313 21 84 285 #[.val (.int p1), .val (.int p2), .val (.int p3), .val (.int t1), .val (.int t2), .val (.int t3), .val (.int t4), .val (.int t5), .val (.ref a8), .val (.ref a9), .val (.ref a10), .val (.ref a11), .val vb, .val va, .val (.ref b227), .val (.ref b238), .unset] [(.ref b314), (.ref b303), (.ref b238), (.ref b227), va, vb, (.ref b299), (.ref b299)]
      refine Go.dup (pc' := 286) at_285 rfl rfl ?_
      refine Go.callI (pc' := 289) (z := N_8) (a := b314) at_286 rfl rfl (w_36 hw) (w_37 hw) (w_38 hw) (by decide) (argsL := []) (rest := [(.ref b314), (.ref b303), (.ref b238), (.ref b227), va, vb, (.ref b299), (.ref b299)]) (Pays.of_met (W := 8) (len := 3) (m_al hw hs b314 h313 E_b314 F_b314_modCount F_b314_elementData F_b314_size) (w_38 hw) (w_35 hw) (by decide) (by decide)) rfl rfl (lenOf pd_4 rfl) rfl (by simp only [List.map_cons, List.map_nil, List.sum_cons, List.sum_nil, own_cat hv_va, own_cat hv_vb]; exact Nat.le_of_eq rfl) (memS (List.mem_of_getElem? (i := 0) rfl) mem0) (by decide) (by decide) ?_
      rintro _ h317 _ K318 le319 ⟨rfl, rfl, p320, p321, p322, p323⟩
      replace E_b227 := E_b227.keep K318
      replace F_b227_modCount := F_b227_modCount.keep K318 (ninS o_b227_b314 nin0)
      replace F_b227_elementData := F_b227_elementData.keep K318 (ninS o_b227_b314 nin0)
      replace F_b227_size := F_b227_size.keep K318 (ninS o_b227_b314 nin0)
      replace E_b238 := E_b238.keep K318
      replace E_b280 := E_b280.keep K318
      replace F_b238_elementData := F_b238_elementData.keep K318 (ninS o_b238_b314 nin0)
      replace F_b238_size := F_b238_size.keep K318 (ninS o_b238_b314 nin0)
      replace E_b287 := E_b287.keep K318
      replace V_b287 := V_b287.keep K318 (ninS o_b287_b314 nin0)
      replace E_b299 := E_b299.keep K318
      replace F_b299_before := F_b299_before.keep K318 (ninS o_b299_b314 nin0)
      replace F_b299_after := F_b299_after.keep K318 (ninS o_b299_b314 nin0)
      replace F_b299_addedFields := F_b299_addedFields.keep K318 (ninS o_b299_b314 nin0)
      replace F_b299_removedFields := F_b299_removedFields.keep K318 (ninS o_b299_b314 nin0)
      replace F_b299_variants := F_b299_variants.keep K318 (ninS o_b299_b314 nin0)
      replace F_b299_removedVariants := F_b299_removedVariants.keep K318 (ninS o_b299_b314 nin0)
      replace E_b303 := E_b303.keep K318
      replace F_b303_modCount := F_b303_modCount.keep K318 (ninS o_b303_b314 nin0)
      replace F_b303_elementData := F_b303_elementData.keep K318 (ninS o_b303_b314 nin0)
      replace F_b303_size := F_b303_size.keep K318 (ninS o_b303_b314 nin0)
      replace E_b314 := E_b314.keep K318
      have F_b314_modCount := p321
      have F_b314_elementData := p322
      have F_b314_size := p323
      change Go _ _ _ _ _ _ _ _ _ _ _ _ _ _ [b314, b303, b299, b280, b238, b227] h317 21 84 289 #[.val (.int p1), .val (.int p2), .val (.int p3), .val (.int t1), .val (.int t2), .val (.int t3), .val (.int t4), .val (.int t5), .val (.ref a8), .val (.ref a9), .val (.ref a10), .val (.ref a11), .val vb, .val va, .val (.ref b227), .val (.ref b238), .unset] [(.ref b314), (.ref b303), (.ref b238), (.ref b227), va, vb, (.ref b299), (.ref b299)]
      refine Go.callI (pc' := 292) (z := N_33) (a := b299) at_289 rfl rfl (w_122 hw) (w_123 hw) (w_124 hw) (by decide) (argsL := [vb, va, (.ref b227), (.ref b238), (.ref b303), (.ref b314)]) (rest := [(.ref b299)]) (Pays.of_met (W := 1) (len := 3) (m_tc01 hw hs b299 vb va b227 b238 b303 b314 b287 q288 b280 h317 E_b299 F_b299_before F_b299_after F_b299_addedFields F_b299_removedFields F_b299_variants F_b299_removedVariants E_b227 F_b227_size E_b238 F_b238_size F_b238_elementData V_b287 E_b287 E_b280 E_b303 F_b303_size E_b314 F_b314_size (hv_vb) (hv_va)) (w_124 hw) (w_121 hw) (by decide) (by decide)) rfl rfl (lenOf pd_17 rfl) rfl (Nat.le_of_eq rfl) (memS (List.mem_of_getElem? (i := 2) rfl) mem0) (by decide) (by decide) ?_
      rintro _ h324 _ K325 le326 ⟨rfl, rfl, p327, p328⟩
      replace E_b227 := E_b227.keep K325
      replace F_b227_modCount := F_b227_modCount.keep K325 (ninS o_b227_b299 nin0)
      replace F_b227_elementData := F_b227_elementData.keep K325 (ninS o_b227_b299 nin0)
      replace F_b227_size := F_b227_size.keep K325 (ninS o_b227_b299 nin0)
      replace E_b238 := E_b238.keep K325
      replace E_b280 := E_b280.keep K325
      replace F_b238_elementData := F_b238_elementData.keep K325 (ninS o_b238_b299 nin0)
      replace F_b238_size := F_b238_size.keep K325 (ninS o_b238_b299 nin0)
      replace E_b287 := E_b287.keep K325
      replace V_b287 := V_b287.keep K325 (ninS o_b287_b299 nin0)
      replace E_b299 := E_b299.keep K325
      replace E_b303 := E_b303.keep K325
      replace F_b303_modCount := F_b303_modCount.keep K325 (ninS (Ne.symm o_b299_b303) nin0)
      replace F_b303_elementData := F_b303_elementData.keep K325 (ninS (Ne.symm o_b299_b303) nin0)
      replace F_b303_size := F_b303_size.keep K325 (ninS (Ne.symm o_b299_b303) nin0)
      replace E_b314 := E_b314.keep K325
      replace F_b314_modCount := F_b314_modCount.keep K325 (ninS (Ne.symm o_b299_b314) nin0)
      replace F_b314_elementData := F_b314_elementData.keep K325 (ninS (Ne.symm o_b299_b314) nin0)
      replace F_b314_size := F_b314_size.keep K325 (ninS (Ne.symm o_b299_b314) nin0)
      have F_b299_before := p328
      change Go _ _ _ _ _ _ _ _ _ _ _ _ _ _ [b314, b303, b299, b280, b238, b227] h324 23 87 292 #[.val (.int p1), .val (.int p2), .val (.int p3), .val (.int t1), .val (.int t2), .val (.int t3), .val (.int t4), .val (.int t5), .val (.ref a8), .val (.ref a9), .val (.ref a10), .val (.ref a11), .val vb, .val va, .val (.ref b227), .val (.ref b238), .unset] [(.ref b299)]
      refine Go.astore (pc' := 294) (Ls' := #[.val (.int p1), .val (.int p2), .val (.int p3), .val (.int t1), .val (.int t2), .val (.int t3), .val (.int t4), .val (.int t5), .val (.ref a8), .val (.ref a9), .val (.ref a10), .val (.ref a11), .val vb, .val va, .val (.ref b227), .val (.ref b238), .val (.ref b299)]) at_292 rfl rfl rfl ?_
      refine Go.aload (pc' := 296) at_294 rfl rfl rfl ?_
      rcases hk with ⟨rfl, rfl⟩ | ⟨⟨bb, rfl⟩, rfl⟩
      · skip
        refine Go.callV (pc' := 299) (u := N_34) (z := N_34) (a := b299) at_296 rfl (w_139 hw) (w_140 hw) (nf (w_142 hw) rfl) (w_142 hw) (w_141 hw) (by decide) E_b299 (argsL := []) (rest := []) (Pays.of_met (W := 0) (len := 3) (m_adds1 hw hs b299 h324 F_b299_before) (w_143 hw) (w_121 hw) (by decide) (by decide)) rfl rfl (lenOf pd_13 rfl) rfl (Nat.le_of_eq rfl) mem0 (by decide) (by decide) ?_
        rintro _ _ _ - - ⟨rfl, rfl, rfl⟩
        change Go _ _ _ _ _ _ _ _ _ _ _ _ _ _ [b314, b303, b299, b280, b238, b227] h324 23 87 299 #[.val (.int p1), .val (.int p2), .val (.int p3), .val (.int (1 : Int32)), .val (.int t2), .val (.int t3), .val (.int t4), .val (.int t5), .val (.ref a8), .val (.ref a9), .val (.ref a10), .val (.ref a11), .val .null, .val va, .val (.ref b227), .val (.ref b238), .val (.ref b299)] [(.int (1 : Int32))]
        refine Go.iload_n (pc' := 300) at_299 rfl rfl ?_
        refine Go.icmpN (pc' := 303) at_300 rfl (teq (rfl : (1 : Int32) = (1 : Int32))).2 ?_
        refine Go.iconst (pc' := 304) at_303 rfl ic_1 ?_
        refine Go.goto (pc' := 308) at_304 (by decide) (by decide) ?_
        exact Go.retS (ty := .boolean) at_308 rfl (by simp) rfl (by decide) (by decide) [] sn0 ⟨rfl, rfl⟩
      · skip
        refine Go.callV (pc' := 299) (u := N_34) (z := N_34) (a := b299) at_296 rfl (w_139 hw) (w_140 hw) (nf (w_142 hw) rfl) (w_142 hw) (w_141 hw) (by decide) E_b299 (argsL := []) (rest := []) (Pays.of_met (W := 0) (len := 3) (m_adds0 hw hs b299 bb h324 F_b299_before) (w_143 hw) (w_121 hw) (by decide) (by decide)) rfl rfl (lenOf pd_13 rfl) rfl (Nat.le_of_eq rfl) mem0 (by decide) (by decide) ?_
        rintro _ _ _ - - ⟨rfl, rfl, rfl⟩
        change Go _ _ _ _ _ _ _ _ _ _ _ _ _ _ [b314, b303, b299, b280, b238, b227] h324 23 87 299 #[.val (.int p1), .val (.int p2), .val (.int p3), .val (.int (0 : Int32)), .val (.int t2), .val (.int t3), .val (.int t4), .val (.int t5), .val (.ref a8), .val (.ref a9), .val (.ref a10), .val (.ref a11), .val (.ref bb), .val va, .val (.ref b227), .val (.ref b238), .val (.ref b299)] [(.int (0 : Int32))]
        refine Go.iload_n (pc' := 300) at_299 rfl rfl ?_
        refine Go.icmpN (pc' := 303) at_300 rfl (teq (rfl : (0 : Int32) = (0 : Int32))).2 ?_
        refine Go.iconst (pc' := 304) at_303 rfl ic_1 ?_
        refine Go.goto (pc' := 308) at_304 (by decide) (by decide) ?_
        exact Go.retS (ty := .boolean) at_308 rfl (by simp) rfl (by decide) (by decide) [] sn0 ⟨rfl, rfl⟩
  · skip
    refine Go.ifN (pc' := 213) at_210 rfl ((if0 _ _).trans (feq (h1 : ¬ (t4 = (0 : Int32)))).1) ?_
    refine Go.aload (pc' := 215) at_213 rfl rfl rfl ?_
    refine Go.newO (pc' := 218) at_215 rfl (w_144 hw) (w_145 hw) (w_146 hw) (by decide) (by decide) ?_
    intro h329 b330 g331 ge_b330 x332 E_b330 D_b330 U_b330
    have o_b227_b330 : b227 ≠ b330 := Nat.ne_of_lt (Nat.lt_of_lt_of_le E_b227.lt (Nat.le_of_eq g331))
    replace E_b227 := E_b227.ext x332
    replace F_b227_modCount := F_b227_modCount.ext x332
    replace F_b227_elementData := F_b227_elementData.ext x332
    replace F_b227_size := F_b227_size.ext x332
    have F_b330_name : Fld Z h329 b330 "com/example/sumgen/sumgen/model/Field" "name" "Ljava/lang/String;" .null := D_b330 (Or.inr (w_152 hw)) (ty := (.object "java/lang/String")) (by decide)
    have F_b330_type : Fld Z h329 b330 "com/example/sumgen/sumgen/model/Field" "type" "Lcom/example/sumgen/sumgen/model/FieldType;" .null := D_b330 (Or.inr (w_154 hw)) (ty := (.object "com/example/sumgen/sumgen/model/FieldType")) (by decide)
    have F_b330_multiplicity : Fld Z h329 b330 "com/example/sumgen/sumgen/model/Field" "multiplicity" "Lcom/example/sumgen/sumgen/model/Field$Multiplicity;" .null := D_b330 (Or.inr (w_156 hw)) (ty := (.object "com/example/sumgen/sumgen/model/Field$Multiplicity")) (by decide)
    have F_b330_place : Fld Z h329 b330 "com/example/sumgen/sumgen/model/Field" "place" "Lcom/example/sumgen/sumgen/model/Place;" .null := D_b330 (Or.inr (w_158 hw)) (ty := (.object "com/example/sumgen/sumgen/model/Place")) (by decide)
    change Go _ _ _ _ _ _ _ _ _ _ _ _ _ _ [b330, b227] h329 16 59 218 #[.val (.int p1), .val (.int p2), .val (.int p3), .val (.int t1), .val (.int t2), .val (.int t3), .val (.int t4), .val (.int t5), .val (.ref a8), .val (.ref a9), .val (.ref a10), .val (.ref a11), .val vb, .val va, .val (.ref b227), .unset, .unset] [(.ref b330), (.ref b227)]
    refine Go.dup (pc' := 219) at_218 rfl rfl ?_
    refine Go.aload (pc' := 221) at_219 rfl rfl rfl ?_
    refine Go.aconst_null (pc' := 222) at_221 rfl ?_
    refine Go.aconst_null (pc' := 223) at_222 rfl ?_
    refine Go.aconst_null (pc' := 224) at_223 rfl ?_
    refine Go.callI (pc' := 227) (z := N_29) (a := b330) at_224 rfl rfl (w_147 hw) (w_148 hw) (w_149 hw) (by decide) (argsL := [(.ref a9), .null, .null, .null]) (rest := [(.ref b330), (.ref b227)]) (Pays.of_met (W := 2) (len := 3) (m_field hw hs b330 a9 h329 E_b330 F_b330_name F_b330_type F_b330_multiplicity F_b330_place) (w_149 hw) (w_146 hw) (by decide) (by decide)) rfl rfl (lenOf pd_18 rfl) rfl (Nat.le_of_eq rfl) (memS (List.mem_of_getElem? (i := 0) rfl) mem0) (by decide) (by decide) ?_
    rintro _ h333 _ K334 le335 ⟨rfl, rfl, p336⟩
    replace E_b227 := E_b227.keep K334
    replace F_b227_modCount := F_b227_modCount.keep K334 (ninS o_b227_b330 nin0)
    replace F_b227_elementData := F_b227_elementData.keep K334 (ninS o_b227_b330 nin0)
    replace F_b227_size := F_b227_size.keep K334 (ninS o_b227_b330 nin0)
    replace E_b330 := E_b330.keep K334
    change Go _ _ _ _ _ _ _ _ _ _ _ _ _ _ [b330, b227] h333 16 59 227 #[.val (.int p1), .val (.int p2), .val (.int p3), .val (.int t1), .val (.int t2), .val (.int t3), .val (.int t4), .val (.int t5), .val (.ref a8), .val (.ref a9), .val (.ref a10), .val (.ref a11), .val vb, .val va, .val (.ref b227), .unset, .unset] [(.ref b330), (.ref b227)]
    refine Go.callV (pc' := 230) (u := N_14) (z := N_14) (a := b227) at_227 rfl (w_159 hw) (w_160 hw) (nf (w_162 hw) rfl) (w_162 hw) (w_161 hw) (by decide) E_b227 (argsL := [(.ref b330)]) (rest := []) (Pays.of_met (W := 0) (len := 3) (m_add hw hs b227 b330 (0 : Int32) h333 E_b227 F_b227_modCount F_b227_elementData F_b227_size E_b330 (Ne.symm o_b227_b330)) (w_163 hw) (w_35 hw) (by decide) (by decide)) rfl rfl (lenOf pd_19 rfl) rfl (Nat.le_of_eq rfl) (memS (List.mem_of_getElem? (i := 1) rfl) mem0) (by decide) (by decide) ?_
    rintro _ h339 _ K340 le341 ⟨b337, q338, rfl, rfl, p342, p343, p344, p345, p346, p347⟩
    have o_b227_b337 : b227 ≠ b337 := Nat.ne_of_lt (Nat.lt_of_lt_of_le E_b227.lt p345)
    have o_b330_b337 : b330 ≠ b337 := Nat.ne_of_lt (Nat.lt_of_lt_of_le E_b330.lt p345)
    have ge_b337 := Nat.le_trans le341 p345
    replace E_b227 := E_b227.keep K340
    replace E_b330 := E_b330.keep K340
    have F_b227_elementData := p343
    have F_b227_size := p344
    have E_b337 := p346
    have V_b337 := p347
    change Go _ _ _ _ _ _ _ _ _ _ _ _ _ _ [b330, b227] h339 17 69 230 #[.val (.int p1), .val (.int p2), .val (.int p3), .val (.int t1), .val (.int t2), .val (.int t3), .val (.int t4), .val (.int t5), .val (.ref a8), .val (.ref a9), .val (.ref a10), .val (.ref a11), .val vb, .val va, .val (.ref b227), .unset, .unset] [(.int (1 : Int32))]
    refine Go.pop (pc' := 231) at_230 rfl rfl ?_
    refine Go.newO (pc' := 234) at_231 rfl (w_33 hw) (w_34 hw) (w_35 hw) (by decide) (by decide) ?_
    intro h348 b349 g350 ge_b349 x351 E_b349 D_b349 U_b349
    have o_b227_b349 : b227 ≠ b349 := Nat.ne_of_lt (Nat.lt_of_lt_of_le E_b227.lt (Nat.le_of_eq g350))
    have o_b330_b349 : b330 ≠ b349 := Nat.ne_of_lt (Nat.lt_of_lt_of_le E_b330.lt (Nat.le_of_eq g350))
    have o_b337_b349 : b337 ≠ b349 := Nat.ne_of_lt (Nat.lt_of_lt_of_le E_b337.lt (Nat.le_of_eq g350))
    replace E_b227 := E_b227.ext x351
    replace E_b330 := E_b330.ext x351
    replace F_b227_elementData := F_b227_elementData.ext x351
    replace F_b227_size := F_b227_size.ext x351
    replace E_b337 := E_b337.ext x351
    replace V_b337 := V_b337.ext x351
    have F_b349_modCount : Fld Z h348 b349 "java/util/AbstractList" "modCount" "I" (.int (0 : Int32)) := D_b349 (Or.inl (w_53 hw)) (ty := .int) (by decide)
    have F_b349_elementData : Fld Z h348 b349 "java/util/ArrayList" "elementData" "[Ljava/lang/Object;" .null := D_b349 (Or.inl (w_56 hw)) (ty := (.array (.object "java/lang/Object"))) (by decide)
    have F_b349_size : Fld Z h348 b349 "java/util/ArrayList" "size" "I" (.int (0 : Int32)) := D_b349 (Or.inl (w_90 hw)) (ty := .int) (by decide)
    change Go _ _ _ _ _ _ _ _ _ _ _ _ _ _ [b349, b330, b227] h348 18 72 234 #[.val (.int p1), .val (.int p2), .val (.int p3), .val (.int t1), .val (.int t2), .val (.int t3), .val (.int t4), .val (.int t5), .val (.ref a8), .val (.ref a9), .val (.ref a10), .val (.ref a11), .val vb, .val va, .val (.ref b227), .unset, .unset] [(.ref b349)]
    refine Go.dup (pc' := 235) at_234 rfl rfl ?_
    refine Go.callI (pc' := 238) (z := N_8) (a := b349) at_235 rfl rfl (w_36 hw) (w_37 hw) (w_38 hw) (by decide) (argsL := []) (rest := [(.ref b349)]) (Pays.of_met (W := 1) (len := 3) (m_al hw hs b349 h348 E_b349 F_b349_modCount F_b349_elementData F_b349_size) (w_38 hw) (w_35 hw) (by decide) (by decide)) rfl rfl (lenOf pd_4 rfl) rfl (Nat.le_of_eq rfl) (memS (List.mem_of_getElem? (i := 0) rfl) mem0) (by decide) (by decide) ?_
    rintro _ h352 _ K353 le354 ⟨rfl, rfl, p355, p356, p357, p358⟩
    replace E_b227 := E_b227.keep K353
    replace E_b330 := E_b330.keep K353
    replace F_b227_elementData := F_b227_elementData.keep K353 (ninS o_b227_b349 nin0)
    replace F_b227_size := F_b227_size.keep K353 (ninS o_b227_b349 nin0)
    replace E_b337 := E_b337.keep K353
    replace V_b337 := V_b337.keep K353 (ninS o_b337_b349 nin0)
    replace E_b349 := E_b349.keep K353
    have F_b349_modCount := p356
    have F_b349_elementData := p357
    have F_b349_size := p358
    change Go _ _ _ _ _ _ _ _ _ _ _ _ _ _ [b349, b330, b227] h352 18 72 238 #[.val (.int p1), .val (.int p2), .val (.int p3), .val (.int t1), .val (.int t2), .val (.int t3), .val (.int t4), .val (.int t5), .val (.ref a8), .val (.ref a9), .val (.ref a10), .val (.ref a11), .val vb, .val va, .val (.ref b227), .unset, .unset] [(.ref b349)]
    refine Go.astore (pc' := 240) (Ls' := #[.val (.int p1), .val (.int p2), .val (.int p3), .val (.int t1), .val (.int t2), .val (.int t3), .val (.int t4), .val (.int t5), .val (.ref a8), .val (.ref a9), .val (.ref a10), .val (.ref a11), .val vb, .val va, .val (.ref b227), .val (.ref b349), .unset]) at_238 rfl rfl rfl ?_
    refine Go.iload (pc' := 242) at_240 rfl rfl ?_
    by_cases h2 : t5 = (0 : Int32)
    · skip
      refine Go.ifY (pc' := 263) at_242 (by decide) (by decide) ((if0 _ _).trans (teq (h2 : t5 = (0 : Int32))).1) ?_
      refine Go.newO (pc' := 266) at_263 rfl (w_119 hw) (w_120 hw) (w_121 hw) (by decide) (by decide) ?_
      intro h359 b360 g361 ge_b360 x362 E_b360 D_b360 U_b360
      have o_b227_b360 : b227 ≠ b360 := Nat.ne_of_lt (Nat.lt_of_lt_of_le E_b227.lt (Nat.le_of_eq g361))
      have o_b330_b360 : b330 ≠ b360 := Nat.ne_of_lt (Nat.lt_of_lt_of_le E_b330.lt (Nat.le_of_eq g361))
      have o_b337_b360 : b337 ≠ b360 := Nat.ne_of_lt (Nat.lt_of_lt_of_le E_b337.lt (Nat.le_of_eq g361))
      have o_b349_b360 : b349 ≠ b360 := Nat.ne_of_lt (Nat.lt_of_lt_of_le E_b349.lt (Nat.le_of_eq g361))
      replace E_b227 := E_b227.ext x362
      replace E_b330 := E_b330.ext x362
      replace F_b227_elementData := F_b227_elementData.ext x362
      replace F_b227_size := F_b227_size.ext x362
      replace E_b337 := E_b337.ext x362
      replace V_b337 := V_b337.ext x362
      replace E_b349 := E_b349.ext x362
      replace F_b349_modCount := F_b349_modCount.ext x362
      replace F_b349_elementData := F_b349_elementData.ext x362
      replace F_b349_size := F_b349_size.ext x362
      have F_b360_before : Fld Z h359 b360 "com/example/sumgen/sumgen/sql/Changes$TypeChange" "before" "Lcom/example/sumgen/sumgen/model/SumType;" .null := D_b360 (Or.inr (w_128 hw)) (ty := (.object "com/example/sumgen/sumgen/model/SumType")) (by decide)
      have F_b360_after : Fld Z h359 b360 "com/example/sumgen/sumgen/sql/Changes$TypeChange" "after" "Lcom/example/sumgen/sumgen/model/SumType;" .null := D_b360 (Or.inr (w_130 hw)) (ty := (.object "com/example/sumgen/sumgen/model/SumType")) (by decide)
      have F_b360_addedFields : Fld Z h359 b360 "com/example/sumgen/sumgen/sql/Changes$TypeChange" "addedFields" "Ljava/util/List;" .null := D_b360 (Or.inr (w_132 hw)) (ty := (.object "java/util/List")) (by decide)
      have F_b360_removedFields : Fld Z h359 b360 "com/example/sumgen/sumgen/sql/Changes$TypeChange" "removedFields" "Ljava/util/List;" .null := D_b360 (Or.inr (w_134 hw)) (ty := (.object "java/util/List")) (by decide)
      have F_b360_variants : Fld Z h359 b360 "com/example/sumgen/sumgen/sql/Changes$TypeChange" "variants" "Ljava/util/List;" .null := D_b360 (Or.inr (w_136 hw)) (ty := (.object "java/util/List")) (by decide)
      have F_b360_removedVariants : Fld Z h359 b360 "com/example/sumgen/sumgen/sql/Changes$TypeChange" "removedVariants" "Ljava/util/List;" .null := D_b360 (Or.inr (w_138 hw)) (ty := (.object "java/util/List")) (by decide)
      change Go _ _ _ _ _ _ _ _ _ _ _ _ _ _ [b360, b349, b330, b227] h359 19 78 266 #[.val (.int p1), .val (.int p2), .val (.int p3), .val (.int t1), .val (.int t2), .val (.int t3), .val (.int t4), .val (.int t5), .val (.ref a8), .val (.ref a9), .val (.ref a10), .val (.ref a11), .val vb, .val va, .val (.ref b227), .val (.ref b349), .unset] [(.ref b360)]
      refine Go.dup (pc' := 267) at_266 rfl rfl ?_
      refine Go.aload (pc' := 269) at_267 rfl rfl hv_vb ?_
      refine Go.aload (pc' := 271) at_269 rfl rfl hv_va ?_
      refine Go.aload (pc' := 273) at_271 rfl rfl rfl ?_
      refine Go.aload (pc' := 275) at_273 rfl rfl rfl ?_
      refine Go.newO (pc' := 278) at_275 rfl (w_33 hw) (w_34 hw) (w_35 hw) (by decide) (by decide) ?_
      intro h363 b364 g365 ge_b364 x366 E_b364 D_b364 U_b364
      have o_b227_b364 : b227 ≠ b364 := Nat.ne_of_lt (Nat.lt_of_lt_of_le E_b227.lt (Nat.le_of_eq g365))
      have o_b330_b364 : b330 ≠ b364 := Nat.ne_of_lt (Nat.lt_of_lt_of_le E_b330.lt (Nat.le_of_eq g365))
      have o_b337_b364 : b337 ≠ b364 := Nat.ne_of_lt (Nat.lt_of_lt_of_le E_b337.lt (Nat.le_of_eq g365))
      have o_b349_b364 : b349 ≠ b364 := Nat.ne_of_lt (Nat.lt_of_lt_of_le E_b349.lt (Nat.le_of_eq g365))
      have o_b360_b364 : b360 ≠ b364 := Nat.ne_of_lt (Nat.lt_of_lt_of_le E_b360.lt (Nat.le_of_eq g365))
      replace E_b227 := E_b227.ext x366
      replace E_b330 := E_b330.ext x366
      replace F_b227_elementData := F_b227_elementData.ext x366
      replace F_b227_size := F_b227_size.ext x366
      replace E_b337 := E_b337.ext x366
      replace V_b337 := V_b337.ext x366
      replace E_b349 := E_b349.ext x366
      replace F_b349_modCount := F_b349_modCount.ext x366
      replace F_b349_elementData := F_b349_elementData.ext x366
      replace F_b349_size := F_b349_size.ext x366
      replace E_b360 := E_b360.ext x366
      replace U_b360 := unt_ext x366 U_b360
      replace F_b360_before := F_b360_before.ext x366
      replace F_b360_after := F_b360_after.ext x366
      replace F_b360_addedFields := F_b360_addedFields.ext x366
      replace F_b360_removedFields := F_b360_removedFields.ext x366
      replace F_b360_variants := F_b360_variants.ext x366
      replace F_b360_removedVariants := F_b360_removedVariants.ext x366
      have F_b364_modCount : Fld Z h363 b364 "java/util/AbstractList" "modCount" "I" (.int (0 : Int32)) := D_b364 (Or.inl (w_53 hw)) (ty := .int) (by decide)
      have F_b364_elementData : Fld Z h363 b364 "java/util/ArrayList" "elementData" "[Ljava/lang/Object;" .null := D_b364 (Or.inl (w_56 hw)) (ty := (.array (.object "java/lang/Object"))) (by decide)
      have F_b364_size : Fld Z h363 b364 "java/util/ArrayList" "size" "I" (.int (0 : Int32)) := D_b364 (Or.inl (w_90 hw)) (ty := .int) (by decide)
      change Go _ _ _ _ _ _ _ _ _ _ _ _ _ _ [b364, b360, b349, b330, b227] h363 20 81 278 #[.val (.int p1), .val (.int p2), .val (.int p3), .val (.int t1), .val (.int t2), .val (.int t3), .val (.int t4), .val (.int t5), .val (.ref a8), .val (.ref a9), .val (.ref a10), .val (.ref a11), .val vb, .val va, .val (.ref b227), .val (.ref b349), .unset] [(.ref b364), (.ref b349), (.ref b227), va, vb, (.ref b360), (.ref b360)]
      refine Go.dup (pc' := 279) at_278 rfl rfl ?_
      refine Go.callI (pc' := 282) (z := N_8) (a := b364) at_279 rfl rfl (w_36 hw) (w_37 hw) (w_38 hw) (by decide) (argsL := []) (rest := [(.ref b364), (.ref b349), (.ref b227), va, vb, (.ref b360), (.ref b360)]) (Pays.of_met (W := 7) (len := 3) (m_al hw hs b364 h363 E_b364 F_b364_modCount F_b364_elementData F_b364_size) (w_38 hw) (w_35 hw) (by decide) (by decide)) rfl rfl (lenOf pd_4 rfl) rfl (by simp only [List.map_cons, List.map_nil, List.sum_cons, List.sum_nil, own_cat hv_va, own_cat hv_vb]; exact Nat.le_of_eq rfl) (memS (List.mem_of_getElem? (i := 0) rfl) mem0) (by decide) (by decide) ?_
      rintro _ h367 _ K368 le369 ⟨rfl, rfl, p370, p371, p372, p373⟩
      replace E_b227 := E_b227.keep K368
      replace E_b330 := E_b330.keep K368
      replace F_b227_elementData := F_b227_elementData.keep K368 (ninS o_b227_b364 nin0)
      replace F_b227_size := F_b227_size.keep K368 (ninS o_b227_b364 nin0)
      replace E_b337 := E_b337.keep K368
      replace V_b337 := V_b337.keep K368 (ninS o_b337_b364 nin0)
      replace E_b349 := E_b349.keep K368
      replace F_b349_modCount := F_b349_modCount.keep K368 (ninS o_b349_b364 nin0)
      replace F_b349_elementData := F_b349_elementData.keep K368 (ninS o_b349_b364 nin0)
      replace F_b349_size := F_b349_size.keep K368 (ninS o_b349_b364 nin0)
      replace E_b360 := E_b360.keep K368
      replace F_b360_before := F_b360_before.keep K368 (ninS o_b360_b364 nin0)
      replace F_b360_after := F_b360_after.keep K368 (ninS o_b360_b364 nin0)
      replace F_b360_addedFields := F_b360_addedFields.keep K368 (ninS o_b360_b364 nin0)
      replace F_b360_removedFields := F_b360_removedFields.keep K368 (ninS o_b360_b364 nin0)
      replace F_b360_variants := F_b360_variants.keep K368 (ninS o_b360_b364 nin0)
      replace F_b360_removedVariants := F_b360_removedVariants.keep K368 (ninS o_b360_b364 nin0)
      replace E_b364 := E_b364.keep K368
      have F_b364_modCount := p371
      have F_b364_elementData := p372
      have F_b364_size := p373
      change Go _ _ _ _ _ _ _ _ _ _ _ _ _ _ [b364, b360, b349, b330, b227] h367 20 81 282 #[.val (.int p1), .val (.int p2), .val (.int p3), .val (.int t1), .val (.int t2), .val (.int t3), .val (.int t4), .val (.int t5), .val (.ref a8), .val (.ref a9), .val (.ref a10), .val (.ref a11), .val vb, .val va, .val (.ref b227), .val (.ref b349), .unset] [(.ref b364), (.ref b349), (.ref b227), va, vb, (.ref b360), (.ref b360)]
      refine Go.newO (pc' := 285) at_282 rfl (w_33 hw) (w_34 hw) (w_35 hw) (by decide) (by decide) ?_
      intro h374 b375 g376 ge_b375 x377 E_b375 D_b375 U_b375
      have o_b227_b375 : b227 ≠ b375 := Nat.ne_of_lt (Nat.lt_of_lt_of_le E_b227.lt (Nat.le_of_eq g376))
      have o_b330_b375 : b330 ≠ b375 := Nat.ne_of_lt (Nat.lt_of_lt_of_le E_b330.lt (Nat.le_of_eq g376))
      have o_b337_b375 : b337 ≠ b375 := Nat.ne_of_lt (Nat.lt_of_lt_of_le E_b337.lt (Nat.le_of_eq g376))
      have o_b349_b375 : b349 ≠ b375 := Nat.ne_of_lt (Nat.lt_of_lt_of_le E_b349.lt (Nat.le_of_eq g376))
      have o_b360_b375 : b360 ≠ b375 := Nat.ne_of_lt (Nat.lt_of_lt_of_le E_b360.lt (Nat.le_of_eq g376))
      have o_b364_b375 : b364 ≠ b375 := Nat.ne_of_lt (Nat.lt_of_lt_of_le E_b364.lt (Nat.le_of_eq g376))
      replace E_b227 := E_b227.ext x377
      replace E_b330 := E_b330.ext x377
      replace F_b227_elementData := F_b227_elementData.ext x377
      replace F_b227_size := F_b227_size.ext x377
      replace E_b337 := E_b337.ext x377
      replace V_b337 := V_b337.ext x377
      replace E_b349 := E_b349.ext x377
      replace F_b349_modCount := F_b349_modCount.ext x377
      replace F_b349_elementData := F_b349_elementData.ext x377
      replace F_b349_size := F_b349_size.ext x377
      replace E_b360 := E_b360.ext x377
      replace F_b360_before := F_b360_before.ext x377
      replace F_b360_after := F_b360_after.ext x377
      replace F_b360_addedFields := F_b360_addedFields.ext x377
      replace F_b360_removedFields := F_b360_removedFields.ext x377
      replace F_b360_variants := F_b360_variants.ext x377
      replace F_b360_removedVariants := F_b360_removedVariants.ext x377
      replace E_b364 := E_b364.ext x377
      replace F_b364_modCount := F_b364_modCount.ext x377
      replace F_b364_elementData := F_b364_elementData.ext x377
      replace F_b364_size := F_b364_size.ext x377
      have F_b375_modCount : Fld Z h374 b375 "java/util/AbstractList" "modCount" "I" (.int (0 : Int32)) := D_b375 (Or.inl (w_53 hw)) (ty := .int) (by decide)
      have F_b375_elementData : Fld Z h374 b375 "java/util/ArrayList" "elementData" "[Ljava/lang/Object;" .null := D_b375 (Or.inl (w_56 hw)) (ty := (.array (.object "java/lang/Object"))) (by decide)
      have F_b375_size : Fld Z h374 b375 "java/util/ArrayList" "size" "I" (.int (0 : Int32)) := D_b375 (Or.inl (w_90 hw)) (ty := .int) (by decide)
      change Go _ _ _ _ _ _ _ _ _ _ _ _ _ _ [b375, b364, b360, b349, b330, b227] h374 21 84 285 #[.val (.int p1), .val (.int p2), .val (.int p3), .val (.int t1), .val (.int t2), .val (.int t3), .val (.int t4), .val (.int t5), .val (.ref a8), .val (.ref a9), .val (.ref a10), .val (.ref a11), .val vb, .val va, .val (.ref b227), .val (.ref b349), .unset] [(.ref b375), (.ref b364), (.ref b349), (.ref b227), va, vb, (.ref b360), (.ref b360)]
      refine Go.dup (pc' := 286) at_285 rfl rfl ?_
      refine Go.callI (pc' := 289) (z := N_8) (a := b375) at_286 rfl rfl (w_36 hw) (w_37 hw) (w_38 hw) (by decide) (argsL := []) (rest := [(.ref b375), (.ref b364), (.ref b349), (.ref b227), va, vb, (.ref b360), (.ref b360)]) (Pays.of_met (W := 8) (len := 3) (m_al hw hs b375 h374 E_b375 F_b375_modCount F_b375_elementData F_b375_size) (w_38 hw) (w_35 hw) (by decide) (by decide)) rfl rfl (lenOf pd_4 rfl) rfl (by simp only [List.map_cons, List.map_nil, List.sum_cons, List.sum_nil, own_cat hv_va, own_cat hv_vb]; exact Nat.le_of_eq rfl) (memS (List.mem_of_getElem? (i := 0) rfl) mem0) (by decide) (by decide) ?_
      rintro _ h378 _ K379 le380 ⟨rfl, rfl, p381, p382, p383, p384⟩
      replace E_b227 := E_b227.keep K379
      replace E_b330 := E_b330.keep K379
      replace F_b227_elementData := F_b227_elementData.keep K379 (ninS o_b227_b375 nin0)
      replace F_b227_size := F_b227_size.keep K379 (ninS o_b227_b375 nin0)
      replace E_b337 := E_b337.keep K379
      replace V_b337 := V_b337.keep K379 (ninS o_b337_b375 nin0)
      replace E_b349 := E_b349.keep K379
      replace F_b349_modCount := F_b349_modCount.keep K379 (ninS o_b349_b375 nin0)
      replace F_b349_elementData := F_b349_elementData.keep K379 (ninS o_b349_b375 nin0)
      replace F_b349_size := F_b349_size.keep K379 (ninS o_b349_b375 nin0)
      replace E_b360 := E_b360.keep K379
      replace F_b360_before := F_b360_before.keep K379 (ninS o_b360_b375 nin0)
      replace F_b360_after := F_b360_after.keep K379 (ninS o_b360_b375 nin0)
      replace F_b360_addedFields := F_b360_addedFields.keep K379 (ninS o_b360_b375 nin0)
      replace F_b360_removedFields := F_b360_removedFields.keep K379 (ninS o_b360_b375 nin0)
      replace F_b360_variants := F_b360_variants.keep K379 (ninS o_b360_b375 nin0)
      replace F_b360_removedVariants := F_b360_removedVariants.keep K379 (ninS o_b360_b375 nin0)
      replace E_b364 := E_b364.keep K379
      replace F_b364_modCount := F_b364_modCount.keep K379 (ninS o_b364_b375 nin0)
      replace F_b364_elementData := F_b364_elementData.keep K379 (ninS o_b364_b375 nin0)
      replace F_b364_size := F_b364_size.keep K379 (ninS o_b364_b375 nin0)
      replace E_b375 := E_b375.keep K379
      have F_b375_modCount := p382
      have F_b375_elementData := p383
      have F_b375_size := p384
      change Go _ _ _ _ _ _ _ _ _ _ _ _ _ _ [b375, b364, b360, b349, b330, b227] h378 21 84 289 #[.val (.int p1), .val (.int p2), .val (.int p3), .val (.int t1), .val (.int t2), .val (.int t3), .val (.int t4), .val (.int t5), .val (.ref a8), .val (.ref a9), .val (.ref a10), .val (.ref a11), .val vb, .val va, .val (.ref b227), .val (.ref b349), .unset] [(.ref b375), (.ref b364), (.ref b349), (.ref b227), va, vb, (.ref b360), (.ref b360)]
      refine Go.callI (pc' := 292) (z := N_33) (a := b360) at_289 rfl rfl (w_122 hw) (w_123 hw) (w_124 hw) (by decide) (argsL := [vb, va, (.ref b227), (.ref b349), (.ref b364), (.ref b375)]) (rest := [(.ref b360)]) (Pays.of_met (W := 1) (len := 3) (m_tc10 hw hs b360 vb va b227 b349 b364 b375 b337 q338 b330 h378 E_b360 F_b360_before F_b360_after F_b360_addedFields F_b360_removedFields F_b360_variants F_b360_removedVariants E_b227 F_b227_size F_b227_elementData V_b337 E_b337 E_b330 E_b349 F_b349_size E_b364 F_b364_size E_b375 F_b375_size (hv_vb) (hv_va)) (w_124 hw) (w_121 hw) (by decide) (by decide)) rfl rfl (lenOf pd_17 rfl) rfl (Nat.le_of_eq rfl) (memS (List.mem_of_getElem? (i := 2) rfl) mem0) (by decide) (by decide) ?_
      rintro _ h385 _ K386 le387 ⟨rfl, rfl, p388, p389⟩
      replace E_b227 := E_b227.keep K386
      replace E_b330 := E_b330.keep K386
      replace F_b227_elementData := F_b227_elementData.keep K386 (ninS o_b227_b360 nin0)
      replace F_b227_size := F_b227_size.keep K386 (ninS o_b227_b360 nin0)
      replace E_b337 := E_b337.keep K386
      replace V_b337 := V_b337.keep K386 (ninS o_b337_b360 nin0)
      replace E_b349 := E_b349.keep K386
      replace F_b349_modCount := F_b349_modCount.keep K386 (ninS o_b349_b360 nin0)
      replace F_b349_elementData := F_b349_elementData.keep K386 (ninS o_b349_b360 nin0)
      replace F_b349_size := F_b349_size.keep K386 (ninS o_b349_b360 nin0)
      replace E_b360 := E_b360.keep K386
      replace E_b364 := E_b364.keep K386
      replace F_b364_modCount := F_b364_modCount.keep K386 (ninS (Ne.symm o_b360_b364) nin0)
      replace F_b364_elementData := F_b364_elementData.keep K386 (ninS (Ne.symm o_b360_b364) nin0)
      replace F_b364_size := F_b364_size.keep K386 (ninS (Ne.symm o_b360_b364) nin0)
      replace E_b375 := E_b375.keep K386
      replace F_b375_modCount := F_b375_modCount.keep K386 (ninS (Ne.symm o_b360_b375) nin0)
      replace F_b375_elementData := F_b375_elementData.keep K386 (ninS (Ne.symm o_b360_b375) nin0)
      replace F_b375_size := F_b375_size.keep K386 (ninS (Ne.symm o_b360_b375) nin0)
      have F_b360_before := p389
      change Go _ _ _ _ _ _ _ _ _ _ _ _ _ _ [b375, b364, b360, b349, b330, b227] h385 23 87 292 #[.val (.int p1), .val (.int p2), .val (.int p3), .val (.int t1), .val (.int t2), .val (.int t3), .val (.int t4), .val (.int t5), .val (.ref a8), .val (.ref a9), .val (.ref a10), .val (.ref a11), .val vb, .val va, .val (.ref b227), .val (.ref b349), .unset] [(.ref b360)]
      refine Go.astore (pc' := 294) (Ls' := #[.val (.int p1), .val (.int p2), .val (.int p3), .val (.int t1), .val (.int t2), .val (.int t3), .val (.int t4), .val (.int t5), .val (.ref a8), .val (.ref a9), .val (.ref a10), .val (.ref a11), .val vb, .val va, .val (.ref b227), .val (.ref b349), .val (.ref b360)]) at_292 rfl rfl rfl ?_
      refine Go.aload (pc' := 296) at_294 rfl rfl rfl ?_
      rcases hk with ⟨rfl, rfl⟩ | ⟨⟨bb, rfl⟩, rfl⟩
      · skip
        refine Go.callV (pc' := 299) (u := N_34) (z := N_34) (a := b360) at_296 rfl (w_139 hw) (w_140 hw) (nf (w_142 hw) rfl) (w_142 hw) (w_141 hw) (by decide) E_b360 (argsL := []) (rest := []) (Pays.of_met (W := 0) (len := 3) (m_adds1 hw hs b360 h385 F_b360_before) (w_143 hw) (w_121 hw) (by decide) (by decide)) rfl rfl (lenOf pd_13 rfl) rfl (Nat.le_of_eq rfl) mem0 (by decide) (by decide) ?_
        rintro _ _ _ - - ⟨rfl, rfl, rfl⟩
        change Go _ _ _ _ _ _ _ _ _ _ _ _ _ _ [b375, b364, b360, b349, b330, b227] h385 23 87 299 #[.val (.int p1), .val (.int p2), .val (.int p3), .val (.int (1 : Int32)), .val (.int t2), .val (.int t3), .val (.int t4), .val (.int t5), .val (.ref a8), .val (.ref a9), .val (.ref a10), .val (.ref a11), .val .null, .val va, .val (.ref b227), .val (.ref b349), .val (.ref b360)] [(.int (1 : Int32))]
        refine Go.iload_n (pc' := 300) at_299 rfl rfl ?_
        refine Go.icmpN (pc' := 303) at_300 rfl (teq (rfl : (1 : Int32) = (1 : Int32))).2 ?_
        refine Go.iconst (pc' := 304) at_303 rfl ic_1 ?_
        refine Go.goto (pc' := 308) at_304 (by decide) (by decide) ?_
        exact Go.retS (ty := .boolean) at_308 rfl (by simp) rfl (by decide) (by decide) [] sn0 ⟨rfl, rfl⟩
      · skip
        refine Go.callV (pc' := 299) (u := N_34) (z := N_34) (a := b360) at_296 rfl (w_139 hw) (w_140 hw) (nf (w_142 hw) rfl) (w_142 hw) (w_141 hw) (by decide) E_b360 (argsL := []) (rest := []) (Pays.of_met (W := 0) (len := 3) (m_adds0 hw hs b360 bb h385 F_b360_before) (w_143 hw) (w_121 hw) (by decide) (by decide)) rfl rfl (lenOf pd_13 rfl) rfl (Nat.le_of_eq rfl) mem0 (by decide) (by decide) ?_
        rintro _ _ _ - - ⟨rfl, rfl, rfl⟩
        change Go _ _ _ _ _ _ _ _ _ _ _ _ _ _ [b375, b364, b360, b349, b330, b227] h385 23 87 299 #[.val (.int p1), .val (.int p2), .val (.int p3), .val (.int (0 : Int32)), .val (.int t2), .val (.int t3), .val (.int t4), .val (.int t5), .val (.ref a8), .val (.ref a9), .val (.ref a10), .val (.ref a11), .val (.ref bb), .val va, .val (.ref b227), .val (.ref b349), .val (.ref b360)] [(.int (0 : Int32))]
        refine Go.iload_n (pc' := 300) at_299 rfl rfl ?_
        refine Go.icmpN (pc' := 303) at_300 rfl (teq (rfl : (0 : Int32) = (0 : Int32))).2 ?_
        refine Go.iconst (pc' := 304) at_303 rfl ic_1 ?_
        refine Go.goto (pc' := 308) at_304 (by decide) (by decide) ?_
        exact Go.retS (ty := .boolean) at_308 rfl (by simp) rfl (by decide) (by decide) [] sn0 ⟨rfl, rfl⟩
    · skip
      refine Go.ifN (pc' := 245) at_242 rfl ((if0 _ _).trans (feq (h2 : ¬ (t5 = (0 : Int32)))).1) ?_
      refine Go.aload (pc' := 247) at_245 rfl rfl rfl ?_
      refine Go.newO (pc' := 250) at_247 rfl (w_144 hw) (w_145 hw) (w_146 hw) (by decide) (by decide) ?_
      intro h390 b391 g392 ge_b391 x393 E_b391 D_b391 U_b391
      have o_b227_b391 : b227 ≠ b391 := Nat.ne_of_lt (Nat.lt_of_lt_of_le E_b227.lt (Nat.le_of_eq g392))
      have o_b330_b391 : b330 ≠ b391 := Nat.ne_of_lt (Nat.lt_of_lt_of_le E_b330.lt (Nat.le_of_eq g392))
      have o_b337_b391 : b337 ≠ b391 := Nat.ne_of_lt (Nat.lt_of_lt_of_le E_b337.lt (Nat.le_of_eq g392))
      have o_b349_b391 : b349 ≠ b391 := Nat.ne_of_lt (Nat.lt_of_lt_of_le E_b349.lt (Nat.le_of_eq g392))
      replace E_b227 := E_b227.ext x393
      replace E_b330 := E_b330.ext x393
      replace F_b227_elementData := F_b227_elementData.ext x393
      replace F_b227_size := F_b227_size.ext x393
      replace E_b337 := E_b337.ext x393
      replace V_b337 := V_b337.ext x393
      replace E_b349 := E_b349.ext x393
      replace F_b349_modCount := F_b349_modCount.ext x393
      replace F_b349_elementData := F_b349_elementData.ext x393
      replace F_b349_size := F_b349_size.ext x393
      have F_b391_name : Fld Z h390 b391 "com/example/sumgen/sumgen/model/Field" "name" "Ljava/lang/String;" .null := D_b391 (Or.inr (w_152 hw)) (ty := (.object "java/lang/String")) (by decide)
      have F_b391_type : Fld Z h390 b391 "com/example/sumgen/sumgen/model/Field" "type" "Lcom/example/sumgen/sumgen/model/FieldType;" .null := D_b391 (Or.inr (w_154 hw)) (ty := (.object "com/example/sumgen/sumgen/model/FieldType")) (by decide)
      have F_b391_multiplicity : Fld Z h390 b391 "com/example/sumgen/sumgen/model/Field" "multiplicity" "Lcom/example/sumgen/sumgen/model/Field$Multiplicity;" .null := D_b391 (Or.inr (w_156 hw)) (ty := (.object "com/example/sumgen/sumgen/model/Field$Multiplicity")) (by decide)
      have F_b391_place : Fld Z h390 b391 "com/example/sumgen/sumgen/model/Field" "place" "Lcom/example/sumgen/sumgen/model/Place;" .null := D_b391 (Or.inr (w_158 hw)) (ty := (.object "com/example/sumgen/sumgen/model/Place")) (by decide)
      change Go _ _ _ _ _ _ _ _ _ _ _ _ _ _ [b391, b349, b330, b227] h390 19 76 250 #[.val (.int p1), .val (.int p2), .val (.int p3), .val (.int t1), .val (.int t2), .val (.int t3), .val (.int t4), .val (.int t5), .val (.ref a8), .val (.ref a9), .val (.ref a10), .val (.ref a11), .val vb, .val va, .val (.ref b227), .val (.ref b349), .unset] [(.ref b391), (.ref b349)]
      refine Go.dup (pc' := 251) at_250 rfl rfl ?_
      refine Go.aload (pc' := 253) at_251 rfl rfl rfl ?_
      refine Go.aconst_null (pc' := 254) at_253 rfl ?_
      refine Go.aconst_null (pc' := 255) at_254 rfl ?_
      refine Go.aconst_null (pc' := 256) at_255 rfl ?_
      refine Go.callI (pc' := 259) (z := N_29) (a := b391) at_256 rfl rfl (w_147 hw) (w_148 hw) (w_149 hw) (by decide) (argsL := [(.ref a8), .null, .null, .null]) (rest := [(.ref b391), (.ref b349)]) (Pays.of_met (W := 2) (len := 3) (m_field hw hs b391 a8 h390 E_b391 F_b391_name F_b391_type F_b391_multiplicity F_b391_place) (w_149 hw) (w_146 hw) (by decide) (by decide)) rfl rfl (lenOf pd_18 rfl) rfl (Nat.le_of_eq rfl) (memS (List.mem_of_getElem? (i := 0) rfl) mem0) (by decide) (by decide) ?_
      rintro _ h394 _ K395 le396 ⟨rfl, rfl, p397⟩
      replace E_b227 := E_b227.keep K395
      replace E_b330 := E_b330.keep K395
      replace F_b227_elementData := F_b227_elementData.keep K395 (ninS o_b227_b391 nin0)
      replace F_b227_size := F_b227_size.keep K395 (ninS o_b227_b391 nin0)
      replace E_b337 := E_b337.keep K395
      replace V_b337 := V_b337.keep K395 (ninS o_b337_b391 nin0)
      replace E_b349 := E_b349.keep K395
      replace F_b349_modCount := F_b349_modCount.keep K395 (ninS o_b349_b391 nin0)
      replace F_b349_elementData := F_b349_elementData.keep K395 (ninS o_b349_b391 nin0)
      replace F_b349_size := F_b349_size.keep K395 (ninS o_b349_b391 nin0)
      replace E_b391 := E_b391.keep K395
      change Go _ _ _ _ _ _ _ _ _ _ _ _ _ _ [b391, b349, b330, b227] h394 19 76 259 #[.val (.int p1), .val (.int p2), .val (.int p3), .val (.int t1), .val (.int t2), .val (.int t3), .val (.int t4), .val (.int t5), .val (.ref a8), .val (.ref a9), .val (.ref a10), .val (.ref a11), .val vb, .val va, .val (.ref b227), .val (.ref b349), .unset] [(.ref b391), (.ref b349)]
      refine Go.callV (pc' := 262) (u := N_14) (z := N_14) (a := b349) at_259 rfl (w_159 hw) (w_160 hw) (nf (w_162 hw) rfl) (w_162 hw) (w_161 hw) (by decide) E_b349 (argsL := [(.ref b391)]) (rest := []) (Pays.of_met (W := 0) (len := 3) (m_add hw hs b349 b391 (0 : Int32) h394 E_b349 F_b349_modCount F_b349_elementData F_b349_size E_b391 (Ne.symm o_b349_b391)) (w_163 hw) (w_35 hw) (by decide) (by decide)) rfl rfl (lenOf pd_19 rfl) rfl (Nat.le_of_eq rfl) (memS (List.mem_of_getElem? (i := 1) rfl) mem0) (by decide) (by decide) ?_
      rintro _ h400 _ K401 le402 ⟨b398, q399, rfl, rfl, p403, p404, p405, p406, p407, p408⟩
      have o_b227_b398 : b227 ≠ b398 := Nat.ne_of_lt (Nat.lt_of_lt_of_le E_b227.lt p406)
      have o_b330_b398 : b330 ≠ b398 := Nat.ne_of_lt (Nat.lt_of_lt_of_le E_b330.lt p406)
      have o_b337_b398 : b337 ≠ b398 := Nat.ne_of_lt (Nat.lt_of_lt_of_le E_b337.lt p406)
      have o_b349_b398 : b349 ≠ b398 := Nat.ne_of_lt (Nat.lt_of_lt_of_le E_b349.lt p406)
      have o_b391_b398 : b391 ≠ b398 := Nat.ne_of_lt (Nat.lt_of_lt_of_le E_b391.lt p406)
      have ge_b398 := Nat.le_trans le402 p406
      replace E_b227 := E_b227.keep K401
      replace E_b330 := E_b330.keep K401
      replace F_b227_elementData := F_b227_elementData.keep K401 (ninS o_b227_b349 nin0)
      replace F_b227_size := F_b227_size.keep K401 (ninS o_b227_b349 nin0)
      replace E_b337 := E_b337.keep K401
      replace V_b337 := V_b337.keep K401 (ninS o_b337_b349 nin0)
      replace E_b349 := E_b349.keep K401
      replace E_b391 := E_b391.keep K401
      have F_b349_elementData := p404
      have F_b349_size := p405
      have E_b398 := p407
      have V_b398 := p408
      change Go _ _ _ _ _ _ _ _ _ _ _ _ _ _ [b391, b349, b330, b227] h400 20 86 262 #[.val (.int p1), .val (.int p2), .val (.int p3), .val (.int t1), .val (.int t2), .val (.int t3), .val (.int t4), .val (.int t5), .val (.ref a8), .val (.ref a9), .val (.ref a10), .val (.ref a11), .val vb, .val va, .val (.ref b227), .val (.ref b349), .unset] [(.int (1 : Int32))]
      refine Go.pop (pc' := 263) at_262 rfl rfl ?_
      refine Go.newO (pc' := 266) at_263 rfl (w_119 hw) (w_120 hw) (w_121 hw) (by decide) (by decide) ?_
      intro h409 b410 g411 ge_b410 x412 E_b410 D_b410 U_b410
      have o_b227_b410 : b227 ≠ b410 := Nat.ne_of_lt (Nat.lt_of_lt_of_le E_b227.lt (Nat.le_of_eq g411))
      have o_b330_b410 : b330 ≠ b410 := Nat.ne_of_lt (Nat.lt_of_lt_of_le E_b330.lt (Nat.le_of_eq g411))
      have o_b337_b410 : b337 ≠ b410 := Nat.ne_of_lt (Nat.lt_of_lt_of_le E_b337.lt (Nat.le_of_eq g411))
      have o_b349_b410 : b349 ≠ b410 := Nat.ne_of_lt (Nat.lt_of_lt_of_le E_b349.lt (Nat.le_of_eq g411))
      have o_b391_b410 : b391 ≠ b410 := Nat.ne_of_lt (Nat.lt_of_lt_of_le E_b391.lt (Nat.le_of_eq g411))
      have o_b398_b410 : b398 ≠ b410 := Nat.ne_of_lt (Nat.lt_of_lt_of_le E_b398.lt (Nat.le_of_eq g411))
      replace E_b227 := E_b227.ext x412
      replace E_b330 := E_b330.ext x412
      replace F_b227_elementData := F_b227_elementData.ext x412
      replace F_b227_size := F_b227_size.ext x412
      replace E_b337 := E_b337.ext x412
      replace V_b337 := V_b337.ext x412
      replace E_b349 := E_b349.ext x412
      replace E_b391 := E_b391.ext x412
      replace F_b349_elementData := F_b349_elementData.ext x412
      replace F_b349_size := F_b349_size.ext x412
      replace E_b398 := E_b398.ext x412
      replace V_b398 := V_b398.ext x412
      have F_b410_before : Fld Z h409 b410 "com/example/sumgen/sumgen/sql/Changes$TypeChange" "before" "Lcom/example/sumgen/sumgen/model/SumType;" .null := D_b410 (Or.inr (w_128 hw)) (ty := (.object "com/example/sumgen/sumgen/model/SumType")) (by decide)
      have F_b410_after : Fld Z h409 b410 "com/example/sumgen/sumgen/sql/Changes$TypeChange" "after" "Lcom/example/sumgen/sumgen/model/SumType;" .null := D_b410 (Or.inr (w_130 hw)) (ty := (.object "com/example/sumgen/sumgen/model/SumType")) (by decide)
      have F_b410_addedFields : Fld Z h409 b410 "com/example/sumgen/sumgen/sql/Changes$TypeChange" "addedFields" "Ljava/util/List;" .null := D_b410 (Or.inr (w_132 hw)) (ty := (.object "java/util/List")) (by decide)
      have F_b410_removedFields : Fld Z h409 b410 "com/example/sumgen/sumgen/sql/Changes$TypeChange" "removedFields" "Ljava/util/List;" .null := D_b410 (Or.inr (w_134 hw)) (ty := (.object "java/util/List")) (by decide)
      have F_b410_variants : Fld Z h409 b410 "com/example/sumgen/sumgen/sql/Changes$TypeChange" "variants" "Ljava/util/List;" .null := D_b410 (Or.inr (w_136 hw)) (ty := (.object "java/util/List")) (by decide)
      have F_b410_removedVariants : Fld Z h409 b410 "com/example/sumgen/sumgen/sql/Changes$TypeChange" "removedVariants" "Ljava/util/List;" .null := D_b410 (Or.inr (w_138 hw)) (ty := (.object "java/util/List")) (by decide)
      change Go _ _ _ _ _ _ _ _ _ _ _ _ _ _ [b410, b391, b349, b330, b227] h409 21 92 266 #[.val (.int p1), .val (.int p2), .val (.int p3), .val (.int t1), .val (.int t2), .val (.int t3), .val (.int t4), .val (.int t5), .val (.ref a8), .val (.ref a9), .val (.ref a10), .val (.ref a11), .val vb, .val va, .val (.ref b227), .val (.ref b349), .unset] [(.ref b410)]
      refine Go.dup (pc' := 267) at_266 rfl rfl ?_
      refine Go.aload (pc' := 269) at_267 rfl rfl hv_vb ?_
      refine Go.aload (pc' := 271) at_269 rfl rfl hv_va ?_
      refine Go.aload (pc' := 273) at_271 rfl rfl rfl ?_
      refine Go.aload (pc' := 275) at_273 rfl rfl rfl ?_
      refine Go.newO (pc' := 278) at_275 rfl (w_33 hw) (w_34 hw) (w_35 hw) (by decide) (by decide) ?_
      intro h413 b414 g415 ge_b414 x416 E_b414 D_b414 U_b414
      have o_b227_b414 : b227 ≠ b414 := Nat.ne_of_lt (Nat.lt_of_lt_of_le E_b227.lt (Nat.le_of_eq g415))
      have o_b330_b414 : b330 ≠ b414 := Nat.ne_of_lt (Nat.lt_of_lt_of_le E_b330.lt (Nat.le_of_eq g415))
      have o_b337_b414 : b337 ≠ b414 := Nat.ne_of_lt (Nat.lt_of_lt_of_le E_b337.lt (Nat.le_of_eq g415))
      have o_b349_b414 : b349 ≠ b414 := Nat.ne_of_lt (Nat.lt_of_lt_of_le E_b349.lt (Nat.le_of_eq g415))
      have o_b391_b414 : b391 ≠ b414 := Nat.ne_of_lt (Nat.lt_of_lt_of_le E_b391.lt (Nat.le_of_eq g415))
      have o_b398_b414 : b398 ≠ b414 := Nat.ne_of_lt (Nat.lt_of_lt_of_le E_b398.lt (Nat.le_of_eq g415))
      have o_b410_b414 : b410 ≠ b414 := Nat.ne_of_lt (Nat.lt_of_lt_of_le E_b410.lt (Nat.le_of_eq g415))
      replace E_b227 := E_b227.ext x416
      replace E_b330 := E_b330.ext x416
      replace F_b227_elementData := F_b227_elementData.ext x416
      replace F_b227_size := F_b227_size.ext x416
      replace E_b337 := E_b337.ext x416
      replace V_b337 := V_b337.ext x416
      replace E_b349 := E_b349.ext x416
      replace E_b391 := E_b391.ext x416
      replace F_b349_elementData := F_b349_elementData.ext x416
      replace F_b349_size := F_b349_size.ext x416
      replace E_b398 := E_b398.ext x416
      replace V_b398 := V_b398.ext x416
      replace E_b410 := E_b410.ext x416
      replace U_b410 := unt_ext x416 U_b410
      replace F_b410_before := F_b410_before.ext x416
      replace F_b410_after := F_b410_after.ext x416
      replace F_b410_addedFields := F_b410_addedFields.ext x416
      replace F_b410_removedFields := F_b410_removedFields.ext x416
      replace F_b410_variants := F_b410_variants.ext x416
      replace F_b410_removedVariants := F_b410_removedVariants.ext x416
      have F_b414_modCount : Fld Z h413 b414 "java/util/AbstractList" "modCount" "I" (.int (0 : Int32)) := D_b414 (Or.inl (w_53 hw)) (ty := .int) (by decide)
      have F_b414_elementData : Fld Z h413 b414 "java/util/ArrayList" "elementData" "[Ljava/lang/Object;" .null := D_b414 (Or.inl (w_56 hw)) (ty := (.array (.object "java/lang/Object"))) (by decide)
      have F_b414_size : Fld Z h413 b414 "java/util/ArrayList" "size" "I" (.int (0 : Int32)) := D_b414 (Or.inl (w_90 hw)) (ty := .int) (by decide)
      change Go _ _ _ _ _ _ _ _ _ _ _ _ _ _ [b414, b410, b391, b349, b330, b227] h413 22 95 278 #[.val (.int p1), .val (.int p2), .val (.int p3), .val (.int t1), .val (.int t2), .val (.int t3), .val (.int t4), .val (.int t5), .val (.ref a8), .val (.ref a9), .val (.ref a10), .val (.ref a11), .val vb, .val va, .val (.ref b227), .val (.ref b349), .unset] [(.ref b414), (.ref b349), (.ref b227), va, vb, (.ref b410), (.ref b410)]
      refine Go.dup (pc' := 279) at_278 rfl rfl ?_
      refine Go.callI (pc' := 282) (z := N_8) (a := b414) at_279 rfl rfl (w_36 hw) (w_37 hw) (w_38 hw) (by decide) (argsL := []) (rest := [(.ref b414), (.ref b349), (.ref b227), va, vb, (.ref b410), (.ref b410)]) (Pays.of_met (W := 7) (len := 3) (m_al hw hs b414 h413 E_b414 F_b414_modCount F_b414_elementData F_b414_size) (w_38 hw) (w_35 hw) (by decide) (by decide)) rfl rfl (lenOf pd_4 rfl) rfl (by simp only [List.map_cons, List.map_nil, List.sum_cons, List.sum_nil, own_cat hv_va, own_cat hv_vb]; exact Nat.le_of_eq rfl) (memS (List.mem_of_getElem? (i := 0) rfl) mem0) (by decide) (by decide) ?_
      rintro _ h417 _ K418 le419 ⟨rfl, rfl, p420, p421, p422, p423⟩
      replace E_b227 := E_b227.keep K418
      replace E_b330 := E_b330.keep K418
      replace F_b227_elementData := F_b227_elementData.keep K418 (ninS o_b227_b414 nin0)
      replace F_b227_size := F_b227_size.keep K418 (ninS o_b227_b414 nin0)
      replace E_b337 := E_b337.keep K418
      replace V_b337 := V_b337.keep K418 (ninS o_b337_b414 nin0)
      replace E_b349 := E_b349.keep K418
      replace E_b391 := E_b391.keep K418
      replace F_b349_elementData := F_b349_elementData.keep K418 (ninS o_b349_b414 nin0)
      replace F_b349_size := F_b349_size.keep K418 (ninS o_b349_b414 nin0)
      replace E_b398 := E_b398.keep K418
      replace V_b398 := V_b398.keep K418 (ninS o_b398_b414 nin0)
      replace E_b410 := E_b410.keep K418
      replace F_b410_before := F_b410_before.keep K418 (ninS o_b410_b414 nin0)
      replace F_b410_after := F_b410_after.keep K418 (ninS o_b410_b414 nin0)
      replace F_b410_addedFields := F_b410_addedFields.keep K418 (ninS o_b410_b414 nin0)
      replace F_b410_removedFields := F_b410_removedFields.keep K418 (ninS o_b410_b414 nin0)
      replace F_b410_variants := F_b410_variants.keep K418 (ninS o_b410_b414 nin0)
      replace F_b410_removedVariants := F_b410_removedVariants.keep K418 (ninS o_b410_b414 nin0)
      replace E_b414 := E_b414.keep K418
      have F_b414_modCount := p421
      have F_b414_elementData := p422
      have F_b414_size := p423
      change Go _ _ _ _ _ _ _ _ _ _ _ _ _ _ [b414, b410, b391, b349, b330, b227] h417 22 95 282 #[.val (.int p1), .val (.int p2), .val (.int p3), .val (.int t1), .val (.int t2), .val (.int t3), .val (.int t4), .val (.int t5), .val (.ref a8), .val (.ref a9), .val (.ref a10), .val (.ref a11), .val vb, .val va, .val (.ref b227), .val (.ref b349), .unset] [(.ref b414), (.ref b349), (.ref b227), va, vb, (.ref b410), (.ref b410)]
      refine Go.newO (pc' := 285) at_282 rfl (w_33 hw) (w_34 hw) (w_35 hw) (by decide) (by decide) ?_
      intro h424 b425 g426 ge_b425 x427 E_b425 D_b425 U_b425
      have o_b227_b425 : b227 ≠ b425 := Nat.ne_of_lt (Nat.lt_of_lt_of_le E_b227.lt (Nat.le_of_eq g426))
      have o_b330_b425 : b330 ≠ b425 := Nat.ne_of_lt (Nat.lt_of_lt_of_le E_b330.lt (Nat.le_of_eq g426))
      have o_b337_b425 : b337 ≠ b425 := Nat.ne_of_lt (Nat.lt_of_lt_of_le E_b337.lt (Nat.le_of_eq g426))
      have o_b349_b425 : b349 ≠ b425 := Nat.ne_of_lt (Nat.lt_of_lt_of_le E_b349.lt (Nat.le_of_eq g426))
      have o_b391_b425 : b391 ≠ b425 := Nat.ne_of_lt (Nat.lt_of_lt_of_le E_b391.lt (Nat.le_of_eq g426))
      have o_b398_b425 : b398 ≠ b425 := Nat.ne_of_lt (Nat.lt_of_lt_of_le E_b398.lt (Nat.le_of_eq g426))
      have o_b410_b425 : b410 ≠ b425 := Nat.ne_of_lt (Nat.lt_of_lt_of_le E_b410.lt (Nat.le_of_eq g426))
      have o_b414_b425 : b414 ≠ b425 := Nat.ne_of_lt (Nat.lt_of_lt_of_le E_b414.lt (Nat.le_of_eq g426))
      replace E_b227 := E_b227.ext x427
      replace E_b330 := E_b330.ext x427
      replace F_b227_elementData := F_b227_elementData.ext x427
      replace F_b227_size := F_b227_size.ext x427
      replace E_b337 := E_b337.ext x427
      replace V_b337 := V_b337.ext x427
      replace E_b349 := E_b349.ext x427
      replace E_b391 := E_b391.ext x427
      replace F_b349_elementData := F_b349_elementData.ext x427
      replace F_b349_size := F_b349_size.ext x427
      replace E_b398 := E_b398.ext x427
      replace V_b398 := V_b398.ext x427
      replace E_b410 := E_b410.ext x427
      replace F_b410_before := F_b410_before.ext x427
      replace F_b410_after := F_b410_after.ext x427
      replace F_b410_addedFields := F_b410_addedFields.ext x427
      replace F_b410_removedFields := F_b410_removedFields.ext x427
      replace F_b410_variants := F_b410_variants.ext x427
      replace F_b410_removedVariants := F_b410_removedVariants.ext x427
      replace E_b414 := E_b414.ext x427
      replace F_b414_modCount := F_b414_modCount.ext x427
      replace F_b414_elementData := F_b414_elementData.ext x427
      replace F_b414_size := F_b414_size.ext x427
      have F_b425_modCount : Fld Z h424 b425 "java/util/AbstractList" "modCount" "I" (.int (0 : Int32)) := D_b425 (Or.inl (w_53 hw)) (ty := .int) (by decide)
      have F_b425_elementData : Fld Z h424 b425 "java/util/ArrayList" "elementData" "[Ljava/lang/Object;" .null := D_b425 (Or.inl (w_56 hw)) (ty := (.array (.object "java/lang/Object"))) (by decide)
      have F_b425_size : Fld Z h424 b425 "java/util/ArrayList" "size" "I" (.int (0 : Int32)) := D_b425 (Or.inl (w_90 hw)) (ty := .int) (by decide)
      change Go _ _ _ _ _ _ _ _ _ _ _ _ _ _ [b425, b414, b410, b391, b349, b330, b227] h424 23 98 285 #[.val (.int p1), .val (.int p2), .val (.int p3), .val (.int t1), .val (.int t2), .val (.int t3), .val (.int t4), .val (.int t5), .val (.ref a8), .val (.ref a9), .val (.ref a10), .val (.ref a11), .val vb, .val va, .val (.ref b227), .val (.ref b349), .unset] [(.ref b425), (.ref b414), (.ref b349), (.ref b227), va, vb, (.ref b410), (.ref b410)]
      refine Go.dup (pc' := 286) at_285 rfl rfl ?_
      refine Go.callI (pc' := 289) (z := N_8) (a := b425) at_286 rfl rfl (w_36 hw) (w_37 hw) (w_38 hw) (by decide) (argsL := []) (rest := [(.ref b425), (.ref b414), (.ref b349), (.ref b227), va, vb, (.ref b410), (.ref b410)]) (Pays.of_met (W := 8) (len := 3) (m_al hw hs b425 h424 E_b425 F_b425_modCount F_b425_elementData F_b425_size) (w_38 hw) (w_35 hw) (by decide) (by decide)) rfl rfl (lenOf pd_4 rfl) rfl (by simp only [List.map_cons, List.map_nil, List.sum_cons, List.sum_nil, own_cat hv_va, own_cat hv_vb]; exact Nat.le_of_eq rfl) (memS (List.mem_of_getElem? (i := 0) rfl) mem0) (by decide) (by decide) ?_
      rintro _ h428 _ K429 le430 ⟨rfl, rfl, p431, p432, p433, p434⟩
      replace E_b227 := E_b227.keep K429
      replace E_b330 := E_b330.keep K429
      replace F_b227_elementData := F_b227_elementData.keep K429 (ninS o_b227_b425 nin0)
      replace F_b227_size := F_b227_size.keep K429 (ninS o_b227_b425 nin0)
      replace E_b337 := E_b337.keep K429
      replace V_b337 := V_b337.keep K429 (ninS o_b337_b425 nin0)
      replace E_b349 := E_b349.keep K429
      replace E_b391 := E_b391.keep K429
      replace F_b349_elementData := F_b349_elementData.keep K429 (ninS o_b349_b425 nin0)
      replace F_b349_size := F_b349_size.keep K429 (ninS o_b349_b425 nin0)
      replace E_b398 := E_b398.keep K429
      replace V_b398 := V_b398.keep K429 (ninS o_b398_b425 nin0)
      replace E_b410 := E_b410.keep K429
      replace F_b410_before := F_b410_before.keep K429 (ninS o_b410_b425 nin0)
      replace F_b410_after := F_b410_after.keep K429 (ninS o_b410_b425 nin0)
      replace F_b410_addedFields := F_b410_addedFields.keep K429 (ninS o_b410_b425 nin0)
      replace F_b410_removedFields := F_b410_removedFields.keep K429 (ninS o_b410_b425 nin0)
      replace F_b410_variants := F_b410_variants.keep K429 (ninS o_b410_b425 nin0)
      replace F_b410_removedVariants := F_b410_removedVariants.keep K429 (ninS o_b410_b425 nin0)
      replace E_b414 := E_b414.keep K429
      replace F_b414_modCount := F_b414_modCount.keep K429 (ninS o_b414_b425 nin0)
      replace F_b414_elementData := F_b414_elementData.keep K429 (ninS o_b414_b425 nin0)
      replace F_b414_size := F_b414_size.keep K429 (ninS o_b414_b425 nin0)
      replace E_b425 := E_b425.keep K429
      have F_b425_modCount := p432
      have F_b425_elementData := p433
      have F_b425_size := p434
      change Go _ _ _ _ _ _ _ _ _ _ _ _ _ _ [b425, b414, b410, b391, b349, b330, b227] h428 23 98 289 #[.val (.int p1), .val (.int p2), .val (.int p3), .val (.int t1), .val (.int t2), .val (.int t3), .val (.int t4), .val (.int t5), .val (.ref a8), .val (.ref a9), .val (.ref a10), .val (.ref a11), .val vb, .val va, .val (.ref b227), .val (.ref b349), .unset] [(.ref b425), (.ref b414), (.ref b349), (.ref b227), va, vb, (.ref b410), (.ref b410)]
      refine Go.callI (pc' := 292) (z := N_33) (a := b410) at_289 rfl rfl (w_122 hw) (w_123 hw) (w_124 hw) (by decide) (argsL := [vb, va, (.ref b227), (.ref b349), (.ref b414), (.ref b425)]) (rest := [(.ref b410)]) (Pays.of_met (W := 1) (len := 3) (m_tc11 hw hs b410 vb va b227 b349 b414 b425 b337 q338 b330 b398 q399 b391 h428 E_b410 F_b410_before F_b410_after F_b410_addedFields F_b410_removedFields F_b410_variants F_b410_removedVariants E_b227 F_b227_size F_b227_elementData V_b337 E_b337 E_b330 E_b349 F_b349_size F_b349_elementData V_b398 E_b398 E_b391 E_b414 F_b414_size E_b425 F_b425_size (hv_vb) (hv_va)) (w_124 hw) (w_121 hw) (by decide) (by decide)) rfl rfl (lenOf pd_17 rfl) rfl (Nat.le_of_eq rfl) (memS (List.mem_of_getElem? (i := 2) rfl) mem0) (by decide) (by decide) ?_
      rintro _ h435 _ K436 le437 ⟨rfl, rfl, p438, p439⟩
      replace E_b227 := E_b227.keep K436
      replace E_b330 := E_b330.keep K436
      replace F_b227_elementData := F_b227_elementData.keep K436 (ninS o_b227_b410 nin0)
      replace F_b227_size := F_b227_size.keep K436 (ninS o_b227_b410 nin0)
      replace E_b337 := E_b337.keep K436
      replace V_b337 := V_b337.keep K436 (ninS o_b337_b410 nin0)
      replace E_b349 := E_b349.keep K436
      replace E_b391 := E_b391.keep K436
      replace F_b349_elementData := F_b349_elementData.keep K436 (ninS o_b349_b410 nin0)
      replace F_b349_size := F_b349_size.keep K436 (ninS o_b349_b410 nin0)
      replace E_b398 := E_b398.keep K436
      replace V_b398 := V_b398.keep K436 (ninS o_b398_b410 nin0)
      replace E_b410 := E_b410.keep K436
      replace E_b414 := E_b414.keep K436
      replace F_b414_modCount := F_b414_modCount.keep K436 (ninS (Ne.symm o_b410_b414) nin0)
      replace F_b414_elementData := F_b414_elementData.keep K436 (ninS (Ne.symm o_b410_b414) nin0)
      replace F_b414_size := F_b414_size.keep K436 (ninS (Ne.symm o_b410_b414) nin0)
      replace E_b425 := E_b425.keep K436
      replace F_b425_modCount := F_b425_modCount.keep K436 (ninS (Ne.symm o_b410_b425) nin0)
      replace F_b425_elementData := F_b425_elementData.keep K436 (ninS (Ne.symm o_b410_b425) nin0)
      replace F_b425_size := F_b425_size.keep K436 (ninS (Ne.symm o_b410_b425) nin0)
      have F_b410_before := p439
      change Go _ _ _ _ _ _ _ _ _ _ _ _ _ _ [b425, b414, b410, b391, b349, b330, b227] h435 27 104 292 #[.val (.int p1), .val (.int p2), .val (.int p3), .val (.int t1), .val (.int t2), .val (.int t3), .val (.int t4), .val (.int t5), .val (.ref a8), .val (.ref a9), .val (.ref a10), .val (.ref a11), .val vb, .val va, .val (.ref b227), .val (.ref b349), .unset] [(.ref b410)]
      refine Go.astore (pc' := 294) (Ls' := #[.val (.int p1), .val (.int p2), .val (.int p3), .val (.int t1), .val (.int t2), .val (.int t3), .val (.int t4), .val (.int t5), .val (.ref a8), .val (.ref a9), .val (.ref a10), .val (.ref a11), .val vb, .val va, .val (.ref b227), .val (.ref b349), .val (.ref b410)]) at_292 rfl rfl rfl ?_
      refine Go.aload (pc' := 296) at_294 rfl rfl rfl ?_
      rcases hk with ⟨rfl, rfl⟩ | ⟨⟨bb, rfl⟩, rfl⟩
      · skip
        refine Go.callV (pc' := 299) (u := N_34) (z := N_34) (a := b410) at_296 rfl (w_139 hw) (w_140 hw) (nf (w_142 hw) rfl) (w_142 hw) (w_141 hw) (by decide) E_b410 (argsL := []) (rest := []) (Pays.of_met (W := 0) (len := 3) (m_adds1 hw hs b410 h435 F_b410_before) (w_143 hw) (w_121 hw) (by decide) (by decide)) rfl rfl (lenOf pd_13 rfl) rfl (Nat.le_of_eq rfl) mem0 (by decide) (by decide) ?_
        rintro _ _ _ - - ⟨rfl, rfl, rfl⟩
        change Go _ _ _ _ _ _ _ _ _ _ _ _ _ _ [b425, b414, b410, b391, b349, b330, b227] h435 27 104 299 #[.val (.int p1), .val (.int p2), .val (.int p3), .val (.int (1 : Int32)), .val (.int t2), .val (.int t3), .val (.int t4), .val (.int t5), .val (.ref a8), .val (.ref a9), .val (.ref a10), .val (.ref a11), .val .null, .val va, .val (.ref b227), .val (.ref b349), .val (.ref b410)] [(.int (1 : Int32))]
        refine Go.iload_n (pc' := 300) at_299 rfl rfl ?_
        refine Go.icmpN (pc' := 303) at_300 rfl (teq (rfl : (1 : Int32) = (1 : Int32))).2 ?_
        refine Go.iconst (pc' := 304) at_303 rfl ic_1 ?_
        refine Go.goto (pc' := 308) at_304 (by decide) (by decide) ?_
        exact Go.retS (ty := .boolean) at_308 rfl (by simp) rfl (by decide) (by decide) [] sn0 ⟨rfl, rfl⟩
      · skip
        refine Go.callV (pc' := 299) (u := N_34) (z := N_34) (a := b410) at_296 rfl (w_139 hw) (w_140 hw) (nf (w_142 hw) rfl) (w_142 hw) (w_141 hw) (by decide) E_b410 (argsL := []) (rest := []) (Pays.of_met (W := 0) (len := 3) (m_adds0 hw hs b410 bb h435 F_b410_before) (w_143 hw) (w_121 hw) (by decide) (by decide)) rfl rfl (lenOf pd_13 rfl) rfl (Nat.le_of_eq rfl) mem0 (by decide) (by decide) ?_
        rintro _ _ _ - - ⟨rfl, rfl, rfl⟩
        change Go _ _ _ _ _ _ _ _ _ _ _ _ _ _ [b425, b414, b410, b391, b349, b330, b227] h435 27 104 299 #[.val (.int p1), .val (.int p2), .val (.int p3), .val (.int (0 : Int32)), .val (.int t2), .val (.int t3), .val (.int t4), .val (.int t5), .val (.ref a8), .val (.ref a9), .val (.ref a10), .val (.ref a11), .val (.ref bb), .val va, .val (.ref b227), .val (.ref b349), .val (.ref b410)] [(.int (0 : Int32))]
        refine Go.iload_n (pc' := 300) at_299 rfl rfl ?_
        refine Go.icmpN (pc' := 303) at_300 rfl (teq (rfl : (0 : Int32) = (0 : Int32))).2 ?_
        refine Go.iconst (pc' := 304) at_303 rfl ic_1 ?_
        refine Go.goto (pc' := 308) at_304 (by decide) (by decide) ?_
        exact Go.retS (ty := .boolean) at_308 rfl (by simp) rfl (by decide) (by decide) [] sn0 ⟨rfl, rfl⟩
set_option maxRecDepth 65536 in
set_option maxHeartbeats 40000000 in
theorem m_law2 {l : Launch} {Z : State} {a0 : Array Value} {n0 : Nat} (hw : ∀ d ∈ tables_1, d.before a0 Z = true) (hs : Stat Z) (p1 : Int32) (p2 : Int32) (p3 : Int32) (t1 : Int32) (t2 : Int32) (t3 : Int32) (t4 : Int32) (t5 : Int32) (a8 : Addr) (a9 : Addr) (a10 : Addr) (a11 : Addr) (h0 h : Heap) (ht : t1 = (0 : Int32) ∨ t1 = (1 : Int32)) :
    Go l Z EL0 n0 NR0 KN0 x code maxLocals ret room_1 h0 [] (Q_m_law Z p1 p2 p3 h0) [] h 14 52 174 #[.val (.int p1), .val (.int p2), .val (.int p3), .val (.int t1), .val (.int t2), .val (.int t3), .val (.int t4), .val (.int t5), .val (.ref a8), .val (.ref a9), .val (.ref a10), .val (.ref a11), .unset, .unset, .unset, .unset, .unset] [] := by
  refine Go.iload_n (pc' := 175) at_174 rfl rfl ?_
  rcases ht with rfl | rfl
  · skip
    refine Go.ifY (pc' := 182) at_175 (by decide) (by decide) ((if0 _ _).trans (teq (rfl : (0 : Int32) = (0 : Int32))).1) ?_
    refine Go.aload (pc' := 184) at_182 rfl rfl rfl ?_
    refine Go.astore (pc' := 186) (Ls' := #[.val (.int p1), .val (.int p2), .val (.int p3), .val (.int (0 : Int32)), .val (.int t2), .val (.int t3), .val (.int t4), .val (.int t5), .val (.ref a8), .val (.ref a9), .val (.ref a10), .val (.ref a11), .val (.ref a10), .unset, .unset, .unset, .unset]) at_184 rfl rfl rfl ?_
    refine Go.iload (pc' := 188) at_186 rfl rfl ?_
    by_cases h2 : t3 = (0 : Int32)
    · skip
      refine Go.ifY (pc' := 195) at_188 (by decide) (by decide) ((if0 _ _).trans (teq (h2 : t3 = (0 : Int32))).1) ?_
      refine Go.aload (pc' := 197) at_195 rfl rfl rfl ?_
      refine Go.astore (pc' := 199) (Ls' := #[.val (.int p1), .val (.int p2), .val (.int p3), .val (.int (0 : Int32)), .val (.int t2), .val (.int t3), .val (.int t4), .val (.int t5), .val (.ref a8), .val (.ref a9), .val (.ref a10), .val (.ref a11), .val (.ref a10), .val (.ref a11), .unset, .unset, .unset]) at_197 rfl rfl rfl ?_
      exact Go.more (k' := 14) (n' := 52) (by decide) (by decide) (Go.fewer mem0 (m_law3 hw hs p1 p2 p3 (0 : Int32) t2 t3 t4 t5 a8 a9 a10 a11 (.ref a10) (.ref a11) h0 h (rfl) (rfl) (Or.inr ⟨⟨_, rfl⟩, rfl⟩)))
    · skip
      refine Go.ifN (pc' := 191) at_188 rfl ((if0 _ _).trans (feq (h2 : ¬ (t3 = (0 : Int32)))).1) ?_
      refine Go.aconst_null (pc' := 192) at_191 rfl ?_
      refine Go.goto (pc' := 197) at_192 (by decide) (by decide) ?_
      refine Go.astore (pc' := 199) (Ls' := #[.val (.int p1), .val (.int p2), .val (.int p3), .val (.int (0 : Int32)), .val (.int t2), .val (.int t3), .val (.int t4), .val (.int t5), .val (.ref a8), .val (.ref a9), .val (.ref a10), .val (.ref a11), .val (.ref a10), .val .null, .unset, .unset, .unset]) at_197 rfl rfl rfl ?_
      exact Go.more (k' := 14) (n' := 52) (by decide) (by decide) (Go.fewer mem0 (m_law3 hw hs p1 p2 p3 (0 : Int32) t2 t3 t4 t5 a8 a9 a10 a11 (.ref a10) .null h0 h (rfl) (rfl) (Or.inr ⟨⟨_, rfl⟩, rfl⟩)))
  · skip
    refine Go.ifN (pc' := 178) at_175 rfl ((if0 _ _).trans (feq (by decide : ¬ ((1 : Int32) = (0 : Int32)))).1) ?_
    refine Go.aconst_null (pc' := 179) at_178 rfl ?_
    refine Go.goto (pc' := 184) at_179 (by decide) (by decide) ?_
    refine Go.astore (pc' := 186) (Ls' := #[.val (.int p1), .val (.int p2), .val (.int p3), .val (.int (1 : Int32)), .val (.int t2), .val (.int t3), .val (.int t4), .val (.int t5), .val (.ref a8), .val (.ref a9), .val (.ref a10), .val (.ref a11), .val .null, .unset, .unset, .unset, .unset]) at_184 rfl rfl rfl ?_
    refine Go.iload (pc' := 188) at_186 rfl rfl ?_
    by_cases h2 : t3 = (0 : Int32)
    · skip
      refine Go.ifY (pc' := 195) at_188 (by decide) (by decide) ((if0 _ _).trans (teq (h2 : t3 = (0 : Int32))).1) ?_
      refine Go.aload (pc' := 197) at_195 rfl rfl rfl ?_
      refine Go.astore (pc' := 199) (Ls' := #[.val (.int p1), .val (.int p2), .val (.int p3), .val (.int (1 : Int32)), .val (.int t2), .val (.int t3), .val (.int t4), .val (.int t5), .val (.ref a8), .val (.ref a9), .val (.ref a10), .val (.ref a11), .val .null, .val (.ref a11), .unset, .unset, .unset]) at_197 rfl rfl rfl ?_
      exact Go.more (k' := 14) (n' := 52) (by decide) (by decide) (Go.fewer mem0 (m_law3 hw hs p1 p2 p3 (1 : Int32) t2 t3 t4 t5 a8 a9 a10 a11 .null (.ref a11) h0 h (rfl) (rfl) (Or.inl ⟨rfl, rfl⟩)))
    · skip
      refine Go.ifN (pc' := 191) at_188 rfl ((if0 _ _).trans (feq (h2 : ¬ (t3 = (0 : Int32)))).1) ?_
      refine Go.aconst_null (pc' := 192) at_191 rfl ?_
      refine Go.goto (pc' := 197) at_192 (by decide) (by decide) ?_
      refine Go.astore (pc' := 199) (Ls' := #[.val (.int p1), .val (.int p2), .val (.int p3), .val (.int (1 : Int32)), .val (.int t2), .val (.int t3), .val (.int t4), .val (.int t5), .val (.ref a8), .val (.ref a9), .val (.ref a10), .val (.ref a11), .val .null, .val .null, .unset, .unset, .unset]) at_197 rfl rfl rfl ?_
      exact Go.more (k' := 14) (n' := 52) (by decide) (by decide) (Go.fewer mem0 (m_law3 hw hs p1 p2 p3 (1 : Int32) t2 t3 t4 t5 a8 a9 a10 a11 .null .null h0 h (rfl) (rfl) (Or.inl ⟨rfl, rfl⟩)))
set_option maxRecDepth 65536 in
set_option maxHeartbeats 40000000 in
theorem m_law1 {l : Launch} {Z : State} {a0 : Array Value} {n0 : Nat} (hw : ∀ d ∈ tables_1, d.before a0 Z = true) (hs : Stat Z) (p1 : Int32) (p2 : Int32) (p3 : Int32) (t1 : Int32) (t2 : Int32) (t3 : Int32) (t4 : Int32) (t5 : Int32) (h0 h : Heap) (ht : t1 = (0 : Int32) ∨ t1 = (1 : Int32)) :
    Go l Z EL0 n0 NR0 KN0 x code maxLocals ret room_1 h0 [] (Q_m_law Z p1 p2 p3 h0) [] h 0 0 66 #[.val (.int p1), .val (.int p2), .val (.int p3), .val (.int t1), .val (.int t2), .val (.int t3), .val (.int t4), .val (.int t5), .unset, .unset, .unset, .unset, .unset, .unset, .unset, .unset, .unset] [] := by
  refine Go.newO (pc' := 69) at_66 rfl (w_0 hw) (w_1 hw) (w_2 hw) (by decide) (by decide) ?_
  intro h440 b441 g442 ge_b441 x443 E_b441 D_b441 U_b441
  have F_b441_coder : Fld Z h440 b441 "java/lang/String" "coder" "B" (.int (0 : Int32)) := D_b441 (Or.inr (w_27 hw)) (ty := .byte) (by decide)
  have F_b441_value : Fld Z h440 b441 "java/lang/String" "value" "[B" .null := D_b441 (Or.inr (w_29 hw)) (ty := (.array .byte)) (by decide)
  change Go _ _ _ _ _ _ _ _ _ _ _ _ _ _ [b441] h440 1 4 69 #[.val (.int p1), .val (.int p2), .val (.int p3), .val (.int t1), .val (.int t2), .val (.int t3), .val (.int t4), .val (.int t5), .unset, .unset, .unset, .unset, .unset, .unset, .unset, .unset, .unset] [(.ref b441)]
  refine Go.dup (pc' := 70) at_69 rfl rfl ?_
  refine Go.iconst (pc' := 71) at_70 rfl ic_1 ?_
  refine Go.newP (pc' := 73) (cap := 1) (ad := "[C") at_71 rfl (w_3 hw) (by decide) (by decide) (by decide) (by decide) (by decide) (by decide) ?_
  intro h444 b445 g446 ge_b445 q448 x447 V_b445 E_b445
  have o_b441_b445 : b441 ≠ b445 := Nat.ne_of_lt (Nat.lt_of_lt_of_le E_b441.lt (Nat.le_of_eq g446))
  replace E_b441 := E_b441.ext x447
  replace U_b441 := unt_ext x447 U_b441
  replace F_b441_coder := F_b441_coder.ext x447
  replace F_b441_value := F_b441_value.ext x447
  replace V_b445 : Arv Z h444 b445 q448 .char (1 : Int32) [(.int (0 : Int32))] (.int (0 : Int32)) := V_b445.pad (pad_rep [] _ 1)
  change Go _ _ _ _ _ _ _ _ _ _ _ _ _ _ [b445, b441] h444 2 5 73 #[.val (.int p1), .val (.int p2), .val (.int p3), .val (.int t1), .val (.int t2), .val (.int t3), .val (.int t4), .val (.int t5), .unset, .unset, .unset, .unset, .unset, .unset, .unset, .unset, .unset] [(.ref b445), (.ref b441), (.ref b441)]
  refine Go.dup (pc' := 74) at_73 rfl rfl ?_
  refine Go.iconst (pc' := 75) at_74 rfl ic_0 ?_
  refine Go.iload_n (pc' := 76) at_75 rfl rfl ?_
  refine Go.sipush (pc' := 79) at_76 rfl ics_255 ?_
  refine Go.iand (pc' := 80) at_79 rfl ?_
  refine Go.i2c (pc' := 81) at_80 rfl ?_
  rw [i2c_mask]
  have b_c0 := mask255 p2
  generalize h_c0 : (p2 &&& (255 : Int32)) = c0 at b_c0 ⊢
  refine Go.castoreV (pc' := 82) (i := 0) at_81 rfl (List.mem_of_getElem? (i := 0) rfl) V_b445 (by decide) (by decide) (by simp) ?_
  rw [nar_char b_c0.1 (le255 b_c0.2)]
  intro h449 W450 V_b445'
  replace E_b441 := E_b441.wr W450
  replace F_b441_coder := F_b441_coder.other W450 (Or.inl o_b441_b445)
  replace F_b441_value := F_b441_value.other W450 (Or.inl o_b441_b445)
  replace E_b445 := E_b445.wr W450
  replace V_b445 : Arv Z h449 b445 q448 .char (1 : Int32) [(.int c0)] (.int (0 : Int32)) := V_b445'
  change Go _ _ _ _ _ _ _ _ _ _ _ _ _ _ [b445, b441] h449 2 5 82 #[.val (.int p1), .val (.int p2), .val (.int p3), .val (.int t1), .val (.int t2), .val (.int t3), .val (.int t4), .val (.int t5), .unset, .unset, .unset, .unset, .unset, .unset, .unset, .unset, .unset] [(.ref b445), (.ref b441), (.ref b441)]
  refine Go.callI (pc' := 85) (z := N_5) (a := b441) at_82 rfl rfl (w_4 hw) (w_5 hw) (w_6 hw) (by decide) (argsL := [(.ref b445)]) (rest := [(.ref b441)]) (Pays.of_met (W := 1) (len := 3) (m_str hw hs b441 b445 q448 [c0] (1 : Int32) h449 E_b441 F_b441_coder F_b441_value V_b445 (rfl) (own_one b_c0) (by simp) (by decide) (Ne.symm o_b441_b445)) (w_6 hw) (w_2 hw) (by decide) (by decide)) rfl rfl (lenOf pd_20 rfl) rfl (Nat.le_of_eq rfl) (memS (List.mem_of_getElem? (i := 1) rfl) mem0) (by decide) (by decide) ?_
  rintro _ h453 _ K454 le455 ⟨b451, q452, rfl, rfl, p456, p457, p458, p459, p460⟩
  have o_b441_b451 : b441 ≠ b451 := Nat.ne_of_lt (Nat.lt_of_lt_of_le E_b441.lt p460)
  have o_b445_b451 : b445 ≠ b451 := Nat.ne_of_lt (Nat.lt_of_lt_of_le E_b445.lt p460)
  have ge_b451 := Nat.le_trans le455 p460
  replace E_b441 := E_b441.keep K454
  replace E_b445 := E_b445.keep K454
  replace V_b445 := V_b445.keep K454 (ninS (Ne.symm o_b441_b445) nin0)
  have F_b441_coder := p457
  have F_b441_value := p458
  have V_b451 := p459
  change Go _ _ _ _ _ _ _ _ _ _ _ _ _ _ [b445, b441] h453 3 6 85 #[.val (.int p1), .val (.int p2), .val (.int p3), .val (.int t1), .val (.int t2), .val (.int t3), .val (.int t4), .val (.int t5), .unset, .unset, .unset, .unset, .unset, .unset, .unset, .unset, .unset] [(.ref b441)]
  refine Go.astore (pc' := 87) (Ls' := #[.val (.int p1), .val (.int p2), .val (.int p3), .val (.int t1), .val (.int t2), .val (.int t3), .val (.int t4), .val (.int t5), .val (.ref b441), .unset, .unset, .unset, .unset, .unset, .unset, .unset, .unset]) at_85 rfl rfl rfl ?_
  refine Go.newO (pc' := 90) at_87 rfl (w_0 hw) (w_1 hw) (w_2 hw) (by decide) (by decide) ?_
  intro h461 b462 g463 ge_b462 x464 E_b462 D_b462 U_b462
  have o_b441_b462 : b441 ≠ b462 := Nat.ne_of_lt (Nat.lt_of_lt_of_le E_b441.lt (Nat.le_of_eq g463))
  have o_b445_b462 : b445 ≠ b462 := Nat.ne_of_lt (Nat.lt_of_lt_of_le E_b445.lt (Nat.le_of_eq g463))
  have o_b451_b462 : b451 ≠ b462 := Nat.ne_of_lt (Nat.lt_of_lt_of_le V_b451.lt (Nat.le_of_eq g463))
  replace E_b441 := E_b441.ext x464
  replace E_b445 := E_b445.ext x464
  replace V_b445 := V_b445.ext x464
  replace F_b441_coder := F_b441_coder.ext x464
  replace F_b441_value := F_b441_value.ext x464
  replace V_b451 := V_b451.ext x464
  have F_b462_coder : Fld Z h461 b462 "java/lang/String" "coder" "B" (.int (0 : Int32)) := D_b462 (Or.inr (w_27 hw)) (ty := .byte) (by decide)
  have F_b462_value : Fld Z h461 b462 "java/lang/String" "value" "[B" .null := D_b462 (Or.inr (w_29 hw)) (ty := (.array .byte)) (by decide)
  change Go _ _ _ _ _ _ _ _ _ _ _ _ _ _ [b462, b445, b441] h461 4 10 90 #[.val (.int p1), .val (.int p2), .val (.int p3), .val (.int t1), .val (.int t2), .val (.int t3), .val (.int t4), .val (.int t5), .val (.ref b441), .unset, .unset, .unset, .unset, .unset, .unset, .unset, .unset] [(.ref b462)]
  refine Go.dup (pc' := 91) at_90 rfl rfl ?_
  refine Go.iconst (pc' := 92) at_91 rfl ic_1 ?_
  refine Go.newP (pc' := 94) (cap := 1) (ad := "[C") at_92 rfl (w_3 hw) (by decide) (by decide) (by decide) (by decide) (by decide) (by decide) ?_
  intro h465 b466 g467 ge_b466 q469 x468 V_b466 E_b466
  have o_b441_b466 : b441 ≠ b466 := Nat.ne_of_lt (Nat.lt_of_lt_of_le E_b441.lt (Nat.le_of_eq g467))
  have o_b445_b466 : b445 ≠ b466 := Nat.ne_of_lt (Nat.lt_of_lt_of_le E_b445.lt (Nat.le_of_eq g467))
  have o_b451_b466 : b451 ≠ b466 := Nat.ne_of_lt (Nat.lt_of_lt_of_le V_b451.lt (Nat.le_of_eq g467))
  have o_b462_b466 : b462 ≠ b466 := Nat.ne_of_lt (Nat.lt_of_lt_of_le E_b462.lt (Nat.le_of_eq g467))
  replace E_b441 := E_b441.ext x468
  replace E_b445 := E_b445.ext x468
  replace V_b445 := V_b445.ext x468
  replace F_b441_coder := F_b441_coder.ext x468
  replace F_b441_value := F_b441_value.ext x468
  replace V_b451 := V_b451.ext x468
  replace E_b462 := E_b462.ext x468
  replace U_b462 := unt_ext x468 U_b462
  replace F_b462_coder := F_b462_coder.ext x468
  replace F_b462_value := F_b462_value.ext x468
  replace V_b466 : Arv Z h465 b466 q469 .char (1 : Int32) [(.int (0 : Int32))] (.int (0 : Int32)) := V_b466.pad (pad_rep [] _ 1)
  change Go _ _ _ _ _ _ _ _ _ _ _ _ _ _ [b466, b462, b445, b441] h465 5 11 94 #[.val (.int p1), .val (.int p2), .val (.int p3), .val (.int t1), .val (.int t2), .val (.int t3), .val (.int t4), .val (.int t5), .val (.ref b441), .unset, .unset, .unset, .unset, .unset, .unset, .unset, .unset] [(.ref b466), (.ref b462), (.ref b462)]
  refine Go.dup (pc' := 95) at_94 rfl rfl ?_
  refine Go.iconst (pc' := 96) at_95 rfl ic_0 ?_
  refine Go.iload_n (pc' := 97) at_96 rfl rfl ?_
  refine Go.sipush (pc' := 100) at_97 rfl ics_255 ?_
  refine Go.iand (pc' := 101) at_100 rfl ?_
  refine Go.i2c (pc' := 102) at_101 rfl ?_
  rw [i2c_mask]
  have b_c1 := mask255 p3
  generalize h_c1 : (p3 &&& (255 : Int32)) = c1 at b_c1 ⊢
  refine Go.castoreV (pc' := 103) (i := 0) at_102 rfl (List.mem_of_getElem? (i := 0) rfl) V_b466 (by decide) (by decide) (by simp) ?_
  rw [nar_char b_c1.1 (le255 b_c1.2)]
  intro h470 W471 V_b466'
  replace E_b441 := E_b441.wr W471
  replace E_b445 := E_b445.wr W471
  replace V_b445 := V_b445.other W471 o_b445_b466
  replace F_b441_coder := F_b441_coder.other W471 (Or.inl o_b441_b466)
  replace F_b441_value := F_b441_value.other W471 (Or.inl o_b441_b466)
  replace V_b451 := V_b451.other W471 o_b451_b466
  replace E_b462 := E_b462.wr W471
  replace F_b462_coder := F_b462_coder.other W471 (Or.inl o_b462_b466)
  replace F_b462_value := F_b462_value.other W471 (Or.inl o_b462_b466)
  replace E_b466 := E_b466.wr W471
  replace V_b466 : Arv Z h470 b466 q469 .char (1 : Int32) [(.int c1)] (.int (0 : Int32)) := V_b466'
  change Go _ _ _ _ _ _ _ _ _ _ _ _ _ _ [b466, b462, b445, b441] h470 5 11 103 #[.val (.int p1), .val (.int p2), .val (.int p3), .val (.int t1), .val (.int t2), .val (.int t3), .val (.int t4), .val (.int t5), .val (.ref b441), .unset, .unset, .unset, .unset, .unset, .unset, .unset, .unset] [(.ref b466), (.ref b462), (.ref b462)]
  refine Go.callI (pc' := 106) (z := N_5) (a := b462) at_103 rfl rfl (w_4 hw) (w_5 hw) (w_6 hw) (by decide) (argsL := [(.ref b466)]) (rest := [(.ref b462)]) (Pays.of_met (W := 1) (len := 3) (m_str hw hs b462 b466 q469 [c1] (1 : Int32) h470 E_b462 F_b462_coder F_b462_value V_b466 (rfl) (own_one b_c1) (by simp) (by decide) (Ne.symm o_b462_b466)) (w_6 hw) (w_2 hw) (by decide) (by decide)) rfl rfl (lenOf pd_20 rfl) rfl (Nat.le_of_eq rfl) (memS (List.mem_of_getElem? (i := 1) rfl) mem0) (by decide) (by decide) ?_
  rintro _ h474 _ K475 le476 ⟨b472, q473, rfl, rfl, p477, p478, p479, p480, p481⟩
  have o_b441_b472 : b441 ≠ b472 := Nat.ne_of_lt (Nat.lt_of_lt_of_le E_b441.lt p481)
  have o_b445_b472 : b445 ≠ b472 := Nat.ne_of_lt (Nat.lt_of_lt_of_le E_b445.lt p481)
  have o_b451_b472 : b451 ≠ b472 := Nat.ne_of_lt (Nat.lt_of_lt_of_le V_b451.lt p481)
  have o_b462_b472 : b462 ≠ b472 := Nat.ne_of_lt (Nat.lt_of_lt_of_le E_b462.lt p481)
  have o_b466_b472 : b466 ≠ b472 := Nat.ne_of_lt (Nat.lt_of_lt_of_le E_b466.lt p481)
  have ge_b472 := Nat.le_trans le476 p481
  replace E_b441 := E_b441.keep K475
  replace E_b445 := E_b445.keep K475
  replace V_b445 := V_b445.keep K475 (ninS o_b445_b462 nin0)
  replace F_b441_coder := F_b441_coder.keep K475 (ninS o_b441_b462 nin0)
  replace F_b441_value := F_b441_value.keep K475 (ninS o_b441_b462 nin0)
  replace V_b451 := V_b451.keep K475 (ninS o_b451_b462 nin0)
  replace E_b462 := E_b462.keep K475
  replace E_b466 := E_b466.keep K475
  replace V_b466 := V_b466.keep K475 (ninS (Ne.symm o_b462_b466) nin0)
  have F_b462_coder := p478
  have F_b462_value := p479
  have V_b472 := p480
  change Go _ _ _ _ _ _ _ _ _ _ _ _ _ _ [b466, b462, b445, b441] h474 6 12 106 #[.val (.int p1), .val (.int p2), .val (.int p3), .val (.int t1), .val (.int t2), .val (.int t3), .val (.int t4), .val (.int t5), .val (.ref b441), .unset, .unset, .unset, .unset, .unset, .unset, .unset, .unset] [(.ref b462)]
  refine Go.astore (pc' := 108) (Ls' := #[.val (.int p1), .val (.int p2), .val (.int p3), .val (.int t1), .val (.int t2), .val (.int t3), .val (.int t4), .val (.int t5), .val (.ref b441), .val (.ref b462), .unset, .unset, .unset, .unset, .unset, .unset, .unset]) at_106 rfl rfl rfl ?_
  refine Go.newO (pc' := 111) at_108 rfl (w_30 hw) (w_31 hw) (w_32 hw) (by decide) (by decide) ?_
  intro h482 b483 g484 ge_b483 x485 E_b483 D_b483 U_b483
  have o_b441_b483 : b441 ≠ b483 := Nat.ne_of_lt (Nat.lt_of_lt_of_le E_b441.lt (Nat.le_of_eq g484))
  have o_b445_b483 : b445 ≠ b483 := Nat.ne_of_lt (Nat.lt_of_lt_of_le E_b445.lt (Nat.le_of_eq g484))
  have o_b451_b483 : b451 ≠ b483 := Nat.ne_of_lt (Nat.lt_of_lt_of_le V_b451.lt (Nat.le_of_eq g484))
  have o_b462_b483 : b462 ≠ b483 := Nat.ne_of_lt (Nat.lt_of_lt_of_le E_b462.lt (Nat.le_of_eq g484))
  have o_b466_b483 : b466 ≠ b483 := Nat.ne_of_lt (Nat.lt_of_lt_of_le E_b466.lt (Nat.le_of_eq g484))
  have o_b472_b483 : b472 ≠ b483 := Nat.ne_of_lt (Nat.lt_of_lt_of_le V_b472.lt (Nat.le_of_eq g484))
  replace E_b441 := E_b441.ext x485
  replace E_b445 := E_b445.ext x485
  replace V_b445 := V_b445.ext x485
  replace F_b441_coder := F_b441_coder.ext x485
  replace F_b441_value := F_b441_value.ext x485
  replace V_b451 := V_b451.ext x485
  replace E_b462 := E_b462.ext x485
  replace E_b466 := E_b466.ext x485
  replace V_b466 := V_b466.ext x485
  replace F_b462_coder := F_b462_coder.ext x485
  replace F_b462_value := F_b462_value.ext x485
  replace V_b472 := V_b472.ext x485
  have F_b483_name : Fld Z h482 b483 "com/example/sumgen/sumgen/model/SumType" "name" "Ljava/lang/String;" .null := D_b483 (Or.inr (w_108 hw)) (ty := (.object "java/lang/String")) (by decide)
  have F_b483_tag : Fld Z h482 b483 "com/example/sumgen/sumgen/model/SumType" "tag" "Ljava/lang/String;" .null := D_b483 (Or.inr (w_110 hw)) (ty := (.object "java/lang/String")) (by decide)
  have F_b483_commonFields : Fld Z h482 b483 "com/example/sumgen/sumgen/model/SumType" "commonFields" "Ljava/util/List;" .null := D_b483 (Or.inr (w_112 hw)) (ty := (.object "java/util/List")) (by decide)
  have F_b483_variants : Fld Z h482 b483 "com/example/sumgen/sumgen/model/SumType" "variants" "Ljava/util/List;" .null := D_b483 (Or.inr (w_114 hw)) (ty := (.object "java/util/List")) (by decide)
  have F_b483_place : Fld Z h482 b483 "com/example/sumgen/sumgen/model/SumType" "place" "Lcom/example/sumgen/sumgen/model/Place;" .null := D_b483 (Or.inr (w_116 hw)) (ty := (.object "com/example/sumgen/sumgen/model/Place")) (by decide)
  have F_b483_tagPlace : Fld Z h482 b483 "com/example/sumgen/sumgen/model/SumType" "tagPlace" "Lcom/example/sumgen/sumgen/model/Place;" .null := D_b483 (Or.inr (w_118 hw)) (ty := (.object "com/example/sumgen/sumgen/model/Place")) (by decide)
  change Go _ _ _ _ _ _ _ _ _ _ _ _ _ _ [b483, b466, b462, b445, b441] h482 7 18 111 #[.val (.int p1), .val (.int p2), .val (.int p3), .val (.int t1), .val (.int t2), .val (.int t3), .val (.int t4), .val (.int t5), .val (.ref b441), .val (.ref b462), .unset, .unset, .unset, .unset, .unset, .unset, .unset] [(.ref b483)]
  refine Go.dup (pc' := 112) at_111 rfl rfl ?_
  refine Go.aload (pc' := 114) at_112 rfl rfl rfl ?_
  refine Go.aconst_null (pc' := 115) at_114 rfl ?_
  refine Go.newO (pc' := 118) at_115 rfl (w_33 hw) (w_34 hw) (w_35 hw) (by decide) (by decide) ?_
  intro h486 b487 g488 ge_b487 x489 E_b487 D_b487 U_b487
  have o_b441_b487 : b441 ≠ b487 := Nat.ne_of_lt (Nat.lt_of_lt_of_le E_b441.lt (Nat.le_of_eq g488))
  have o_b445_b487 : b445 ≠ b487 := Nat.ne_of_lt (Nat.lt_of_lt_of_le E_b445.lt (Nat.le_of_eq g488))
  have o_b451_b487 : b451 ≠ b487 := Nat.ne_of_lt (Nat.lt_of_lt_of_le V_b451.lt (Nat.le_of_eq g488))
  have o_b462_b487 : b462 ≠ b487 := Nat.ne_of_lt (Nat.lt_of_lt_of_le E_b462.lt (Nat.le_of_eq g488))
  have o_b466_b487 : b466 ≠ b487 := Nat.ne_of_lt (Nat.lt_of_lt_of_le E_b466.lt (Nat.le_of_eq g488))
  have o_b472_b487 : b472 ≠ b487 := Nat.ne_of_lt (Nat.lt_of_lt_of_le V_b472.lt (Nat.le_of_eq g488))
  have o_b483_b487 : b483 ≠ b487 := Nat.ne_of_lt (Nat.lt_of_lt_of_le E_b483.lt (Nat.le_of_eq g488))
  replace E_b441 := E_b441.ext x489
  replace E_b445 := E_b445.ext x489
  replace V_b445 := V_b445.ext x489
  replace F_b441_coder := F_b441_coder.ext x489
  replace F_b441_value := F_b441_value.ext x489
  replace V_b451 := V_b451.ext x489
  replace E_b462 := E_b462.ext x489
  replace E_b466 := E_b466.ext x489
  replace V_b466 := V_b466.ext x489
  replace F_b462_coder := F_b462_coder.ext x489
  replace F_b462_value := F_b462_value.ext x489
  replace V_b472 := V_b472.ext x489
  replace E_b483 := E_b483.ext x489
  replace U_b483 := unt_ext x489 U_b483
  replace F_b483_name := F_b483_name.ext x489
  replace F_b483_tag := F_b483_tag.ext x489
  replace F_b483_commonFields := F_b483_commonFields.ext x489
  replace F_b483_variants := F_b483_variants.ext x489
  replace F_b483_place := F_b483_place.ext x489
  replace F_b483_tagPlace := F_b483_tagPlace.ext x489
  have F_b487_modCount : Fld Z h486 b487 "java/util/AbstractList" "modCount" "I" (.int (0 : Int32)) := D_b487 (Or.inl (w_53 hw)) (ty := .int) (by decide)
  have F_b487_elementData : Fld Z h486 b487 "java/util/ArrayList" "elementData" "[Ljava/lang/Object;" .null := D_b487 (Or.inl (w_56 hw)) (ty := (.array (.object "java/lang/Object"))) (by decide)
  have F_b487_size : Fld Z h486 b487 "java/util/ArrayList" "size" "I" (.int (0 : Int32)) := D_b487 (Or.inl (w_90 hw)) (ty := .int) (by decide)
  change Go _ _ _ _ _ _ _ _ _ _ _ _ _ _ [b487, b483, b466, b462, b445, b441] h486 8 21 118 #[.val (.int p1), .val (.int p2), .val (.int p3), .val (.int t1), .val (.int t2), .val (.int t3), .val (.int t4), .val (.int t5), .val (.ref b441), .val (.ref b462), .unset, .unset, .unset, .unset, .unset, .unset, .unset] [(.ref b487), .null, (.ref b441), (.ref b483), (.ref b483)]
  refine Go.dup (pc' := 119) at_118 rfl rfl ?_
  refine Go.callI (pc' := 122) (z := N_8) (a := b487) at_119 rfl rfl (w_36 hw) (w_37 hw) (w_38 hw) (by decide) (argsL := []) (rest := [(.ref b487), .null, (.ref b441), (.ref b483), (.ref b483)]) (Pays.of_met (W := 5) (len := 3) (m_al hw hs b487 h486 E_b487 F_b487_modCount F_b487_elementData F_b487_size) (w_38 hw) (w_35 hw) (by decide) (by decide)) rfl rfl (lenOf pd_4 rfl) rfl (Nat.le_of_eq rfl) (memS (List.mem_of_getElem? (i := 0) rfl) mem0) (by decide) (by decide) ?_
  rintro _ h490 _ K491 le492 ⟨rfl, rfl, p493, p494, p495, p496⟩
  replace E_b441 := E_b441.keep K491
  replace E_b445 := E_b445.keep K491
  replace V_b445 := V_b445.keep K491 (ninS o_b445_b487 nin0)
  replace F_b441_coder := F_b441_coder.keep K491 (ninS o_b441_b487 nin0)
  replace F_b441_value := F_b441_value.keep K491 (ninS o_b441_b487 nin0)
  replace V_b451 := V_b451.keep K491 (ninS o_b451_b487 nin0)
  replace E_b462 := E_b462.keep K491
  replace E_b466 := E_b466.keep K491
  replace V_b466 := V_b466.keep K491 (ninS o_b466_b487 nin0)
  replace F_b462_coder := F_b462_coder.keep K491 (ninS o_b462_b487 nin0)
  replace F_b462_value := F_b462_value.keep K491 (ninS o_b462_b487 nin0)
  replace V_b472 := V_b472.keep K491 (ninS o_b472_b487 nin0)
  replace E_b483 := E_b483.keep K491
  replace F_b483_name := F_b483_name.keep K491 (ninS o_b483_b487 nin0)
  replace F_b483_tag := F_b483_tag.keep K491 (ninS o_b483_b487 nin0)
  replace F_b483_commonFields := F_b483_commonFields.keep K491 (ninS o_b483_b487 nin0)
  replace F_b483_variants := F_b483_variants.keep K491 (ninS o_b483_b487 nin0)
  replace F_b483_place := F_b483_place.keep K491 (ninS o_b483_b487 nin0)
  replace F_b483_tagPlace := F_b483_tagPlace.keep K491 (ninS o_b483_b487 nin0)
  replace E_b487 := E_b487.keep K491
  have F_b487_modCount := p494
  have F_b487_elementData := p495
  have F_b487_size := p496
  change Go _ _ _ _ _ _ _ _ _ _ _ _ _ _ [b487, b483, b466, b462, b445, b441] h490 8 21 122 #[.val (.int p1), .val (.int p2), .val (.int p3), .val (.int t1), .val (.int t2), .val (.int t3), .val (.int t4), .val (.int t5), .val (.ref b441), .val (.ref b462), .unset, .unset, .unset, .unset, .unset, .unset, .unset] [(.ref b487), .null, (.ref b441), (.ref b483), (.ref b483)]
  refine Go.newO (pc' := 125) at_122 rfl (w_33 hw) (w_34 hw) (w_35 hw) (by decide) (by decide) ?_
  intro h497 b498 g499 ge_b498 x500 E_b498 D_b498 U_b498
  have o_b441_b498 : b441 ≠ b498 := Nat.ne_of_lt (Nat.lt_of_lt_of_le E_b441.lt (Nat.le_of_eq g499))
  have o_b445_b498 : b445 ≠ b498 := Nat.ne_of_lt (Nat.lt_of_lt_of_le E_b445.lt (Nat.le_of_eq g499))
  have o_b451_b498 : b451 ≠ b498 := Nat.ne_of_lt (Nat.lt_of_lt_of_le V_b451.lt (Nat.le_of_eq g499))
  have o_b462_b498 : b462 ≠ b498 := Nat.ne_of_lt (Nat.lt_of_lt_of_le E_b462.lt (Nat.le_of_eq g499))
  have o_b466_b498 : b466 ≠ b498 := Nat.ne_of_lt (Nat.lt_of_lt_of_le E_b466.lt (Nat.le_of_eq g499))
  have o_b472_b498 : b472 ≠ b498 := Nat.ne_of_lt (Nat.lt_of_lt_of_le V_b472.lt (Nat.le_of_eq g499))
  have o_b483_b498 : b483 ≠ b498 := Nat.ne_of_lt (Nat.lt_of_lt_of_le E_b483.lt (Nat.le_of_eq g499))
  have o_b487_b498 : b487 ≠ b498 := Nat.ne_of_lt (Nat.lt_of_lt_of_le E_b487.lt (Nat.le_of_eq g499))
  replace E_b441 := E_b441.ext x500
  replace E_b445 := E_b445.ext x500
  replace V_b445 := V_b445.ext x500
  replace F_b441_coder := F_b441_coder.ext x500
  replace F_b441_value := F_b441_value.ext x500
  replace V_b451 := V_b451.ext x500
  replace E_b462 := E_b462.ext x500
  replace E_b466 := E_b466.ext x500
  replace V_b466 := V_b466.ext x500
  replace F_b462_coder := F_b462_coder.ext x500
  replace F_b462_value := F_b462_value.ext x500
  replace V_b472 := V_b472.ext x500
  replace E_b483 := E_b483.ext x500
  replace F_b483_name := F_b483_name.ext x500
  replace F_b483_tag := F_b483_tag.ext x500
  replace F_b483_commonFields := F_b483_commonFields.ext x500
  replace F_b483_variants := F_b483_variants.ext x500
  replace F_b483_place := F_b483_place.ext x500
  replace F_b483_tagPlace := F_b483_tagPlace.ext x500
  replace E_b487 := E_b487.ext x500
  replace F_b487_modCount := F_b487_modCount.ext x500
  replace F_b487_elementData := F_b487_elementData.ext x500
  replace F_b487_size := F_b487_size.ext x500
  have F_b498_modCount : Fld Z h497 b498 "java/util/AbstractList" "modCount" "I" (.int (0 : Int32)) := D_b498 (Or.inl (w_53 hw)) (ty := .int) (by decide)
  have F_b498_elementData : Fld Z h497 b498 "java/util/ArrayList" "elementData" "[Ljava/lang/Object;" .null := D_b498 (Or.inl (w_56 hw)) (ty := (.array (.object "java/lang/Object"))) (by decide)
  have F_b498_size : Fld Z h497 b498 "java/util/ArrayList" "size" "I" (.int (0 : Int32)) := D_b498 (Or.inl (w_90 hw)) (ty := .int) (by decide)
  change Go _ _ _ _ _ _ _ _ _ _ _ _ _ _ [b498, b487, b483, b466, b462, b445, b441] h497 9 24 125 #[.val (.int p1), .val (.int p2), .val (.int p3), .val (.int t1), .val (.int t2), .val (.int t3), .val (.int t4), .val (.int t5), .val (.ref b441), .val (.ref b462), .unset, .unset, .unset, .unset, .unset, .unset, .unset] [(.ref b498), (.ref b487), .null, (.ref b441), (.ref b483), (.ref b483)]
  refine Go.dup (pc' := 126) at_125 rfl rfl ?_
  refine Go.callI (pc' := 129) (z := N_8) (a := b498) at_126 rfl rfl (w_36 hw) (w_37 hw) (w_38 hw) (by decide) (argsL := []) (rest := [(.ref b498), (.ref b487), .null, (.ref b441), (.ref b483), (.ref b483)]) (Pays.of_met (W := 6) (len := 3) (m_al hw hs b498 h497 E_b498 F_b498_modCount F_b498_elementData F_b498_size) (w_38 hw) (w_35 hw) (by decide) (by decide)) rfl rfl (lenOf pd_4 rfl) rfl (Nat.le_of_eq rfl) (memS (List.mem_of_getElem? (i := 0) rfl) mem0) (by decide) (by decide) ?_
  rintro _ h501 _ K502 le503 ⟨rfl, rfl, p504, p505, p506, p507⟩
  replace E_b441 := E_b441.keep K502
  replace E_b445 := E_b445.keep K502
  replace V_b445 := V_b445.keep K502 (ninS o_b445_b498 nin0)
  replace F_b441_coder := F_b441_coder.keep K502 (ninS o_b441_b498 nin0)
  replace F_b441_value := F_b441_value.keep K502 (ninS o_b441_b498 nin0)
  replace V_b451 := V_b451.keep K502 (ninS o_b451_b498 nin0)
  replace E_b462 := E_b462.keep K502
  replace E_b466 := E_b466.keep K502
  replace V_b466 := V_b466.keep K502 (ninS o_b466_b498 nin0)
  replace F_b462_coder := F_b462_coder.keep K502 (ninS o_b462_b498 nin0)
  replace F_b462_value := F_b462_value.keep K502 (ninS o_b462_b498 nin0)
  replace V_b472 := V_b472.keep K502 (ninS o_b472_b498 nin0)
  replace E_b483 := E_b483.keep K502
  replace F_b483_name := F_b483_name.keep K502 (ninS o_b483_b498 nin0)
  replace F_b483_tag := F_b483_tag.keep K502 (ninS o_b483_b498 nin0)
  replace F_b483_commonFields := F_b483_commonFields.keep K502 (ninS o_b483_b498 nin0)
  replace F_b483_variants := F_b483_variants.keep K502 (ninS o_b483_b498 nin0)
  replace F_b483_place := F_b483_place.keep K502 (ninS o_b483_b498 nin0)
  replace F_b483_tagPlace := F_b483_tagPlace.keep K502 (ninS o_b483_b498 nin0)
  replace E_b487 := E_b487.keep K502
  replace F_b487_modCount := F_b487_modCount.keep K502 (ninS o_b487_b498 nin0)
  replace F_b487_elementData := F_b487_elementData.keep K502 (ninS o_b487_b498 nin0)
  replace F_b487_size := F_b487_size.keep K502 (ninS o_b487_b498 nin0)
  replace E_b498 := E_b498.keep K502
  have F_b498_modCount := p505
  have F_b498_elementData := p506
  have F_b498_size := p507
  change Go _ _ _ _ _ _ _ _ _ _ _ _ _ _ [b498, b487, b483, b466, b462, b445, b441] h501 9 24 129 #[.val (.int p1), .val (.int p2), .val (.int p3), .val (.int t1), .val (.int t2), .val (.int t3), .val (.int t4), .val (.int t5), .val (.ref b441), .val (.ref b462), .unset, .unset, .unset, .unset, .unset, .unset, .unset] [(.ref b498), (.ref b487), .null, (.ref b441), (.ref b483), (.ref b483)]
  refine Go.aconst_null (pc' := 130) at_129 rfl ?_
  refine Go.aconst_null (pc' := 131) at_130 rfl ?_
  refine Go.callI (pc' := 134) (z := N_32) (a := b483) at_131 rfl rfl (w_57 hw) (w_58 hw) (w_59 hw) (by decide) (argsL := [(.ref b441), .null, (.ref b487), (.ref b498), .null, .null]) (rest := [(.ref b483)]) (Pays.of_met (W := 1) (len := 3) (m_sum hw hs b483 b441 b487 b498 h501 E_b483 F_b483_name F_b483_tag F_b483_commonFields F_b483_variants F_b483_place F_b483_tagPlace E_b487 F_b487_size E_b498 F_b498_size) (w_59 hw) (w_32 hw) (by decide) (by decide)) rfl rfl (lenOf pd_21 rfl) rfl (Nat.le_of_eq rfl) (memS (List.mem_of_getElem? (i := 2) rfl) mem0) (by decide) (by decide) ?_
  rintro _ h508 _ K509 le510 ⟨rfl, rfl, p511⟩
  replace E_b441 := E_b441.keep K509
  replace E_b445 := E_b445.keep K509
  replace V_b445 := V_b445.keep K509 (ninS o_b445_b483 nin0)
  replace F_b441_coder := F_b441_coder.keep K509 (ninS o_b441_b483 nin0)
  replace F_b441_value := F_b441_value.keep K509 (ninS o_b441_b483 nin0)
  replace V_b451 := V_b451.keep K509 (ninS o_b451_b483 nin0)
  replace E_b462 := E_b462.keep K509
  replace E_b466 := E_b466.keep K509
  replace V_b466 := V_b466.keep K509 (ninS o_b466_b483 nin0)
  replace F_b462_coder := F_b462_coder.keep K509 (ninS o_b462_b483 nin0)
  replace F_b462_value := F_b462_value.keep K509 (ninS o_b462_b483 nin0)
  replace V_b472 := V_b472.keep K509 (ninS o_b472_b483 nin0)
  replace E_b483 := E_b483.keep K509
  replace E_b487 := E_b487.keep K509
  replace F_b487_modCount := F_b487_modCount.keep K509 (ninS (Ne.symm o_b483_b487) nin0)
  replace F_b487_elementData := F_b487_elementData.keep K509 (ninS (Ne.symm o_b483_b487) nin0)
  replace F_b487_size := F_b487_size.keep K509 (ninS (Ne.symm o_b483_b487) nin0)
  replace E_b498 := E_b498.keep K509
  replace F_b498_modCount := F_b498_modCount.keep K509 (ninS (Ne.symm o_b483_b498) nin0)
  replace F_b498_elementData := F_b498_elementData.keep K509 (ninS (Ne.symm o_b483_b498) nin0)
  replace F_b498_size := F_b498_size.keep K509 (ninS (Ne.symm o_b483_b498) nin0)
  change Go _ _ _ _ _ _ _ _ _ _ _ _ _ _ [b498, b487, b483, b466, b462, b445, b441] h508 9 24 134 #[.val (.int p1), .val (.int p2), .val (.int p3), .val (.int t1), .val (.int t2), .val (.int t3), .val (.int t4), .val (.int t5), .val (.ref b441), .val (.ref b462), .unset, .unset, .unset, .unset, .unset, .unset, .unset] [(.ref b483)]
  refine Go.astore (pc' := 136) (Ls' := #[.val (.int p1), .val (.int p2), .val (.int p3), .val (.int t1), .val (.int t2), .val (.int t3), .val (.int t4), .val (.int t5), .val (.ref b441), .val (.ref b462), .val (.ref b483), .unset, .unset, .unset, .unset, .unset, .unset]) at_134 rfl rfl rfl ?_
  refine Go.iload (pc' := 138) at_136 rfl rfl ?_
  by_cases h1 : t2 = (0 : Int32)
  · skip
    refine Go.ifY (pc' := 146) at_138 (by decide) (by decide) ((if0 _ _).trans (teq (h1 : t2 = (0 : Int32))).1) ?_
    refine Go.newO (pc' := 149) at_146 rfl (w_30 hw) (w_31 hw) (w_32 hw) (by decide) (by decide) ?_
    intro h512 b513 g514 ge_b513 x515 E_b513 D_b513 U_b513
    have o_b441_b513 : b441 ≠ b513 := Nat.ne_of_lt (Nat.lt_of_lt_of_le E_b441.lt (Nat.le_of_eq g514))
    have o_b445_b513 : b445 ≠ b513 := Nat.ne_of_lt (Nat.lt_of_lt_of_le E_b445.lt (Nat.le_of_eq g514))
    have o_b451_b513 : b451 ≠ b513 := Nat.ne_of_lt (Nat.lt_of_lt_of_le V_b451.lt (Nat.le_of_eq g514))
    have o_b462_b513 : b462 ≠ b513 := Nat.ne_of_lt (Nat.lt_of_lt_of_le E_b462.lt (Nat.le_of_eq g514))
    have o_b466_b513 : b466 ≠ b513 := Nat.ne_of_lt (Nat.lt_of_lt_of_le E_b466.lt (Nat.le_of_eq g514))
    have o_b472_b513 : b472 ≠ b513 := Nat.ne_of_lt (Nat.lt_of_lt_of_le V_b472.lt (Nat.le_of_eq g514))
    have o_b483_b513 : b483 ≠ b513 := Nat.ne_of_lt (Nat.lt_of_lt_of_le E_b483.lt (Nat.le_of_eq g514))
    have o_b487_b513 : b487 ≠ b513 := Nat.ne_of_lt (Nat.lt_of_lt_of_le E_b487.lt (Nat.le_of_eq g514))
    have o_b498_b513 : b498 ≠ b513 := Nat.ne_of_lt (Nat.lt_of_lt_of_le E_b498.lt (Nat.le_of_eq g514))
    replace E_b441 := E_b441.ext x515
    replace E_b445 := E_b445.ext x515
    replace V_b445 := V_b445.ext x515
    replace F_b441_coder := F_b441_coder.ext x515
    replace F_b441_value := F_b441_value.ext x515
    replace V_b451 := V_b451.ext x515
    replace E_b462 := E_b462.ext x515
    replace E_b466 := E_b466.ext x515
    replace V_b466 := V_b466.ext x515
    replace F_b462_coder := F_b462_coder.ext x515
    replace F_b462_value := F_b462_value.ext x515
    replace V_b472 := V_b472.ext x515
    replace E_b483 := E_b483.ext x515
    replace E_b487 := E_b487.ext x515
    replace F_b487_modCount := F_b487_modCount.ext x515
    replace F_b487_elementData := F_b487_elementData.ext x515
    replace F_b487_size := F_b487_size.ext x515
    replace E_b498 := E_b498.ext x515
    replace F_b498_modCount := F_b498_modCount.ext x515
    replace F_b498_elementData := F_b498_elementData.ext x515
    replace F_b498_size := F_b498_size.ext x515
    have F_b513_name : Fld Z h512 b513 "com/example/sumgen/sumgen/model/SumType" "name" "Ljava/lang/String;" .null := D_b513 (Or.inr (w_108 hw)) (ty := (.object "java/lang/String")) (by decide)
    have F_b513_tag : Fld Z h512 b513 "com/example/sumgen/sumgen/model/SumType" "tag" "Ljava/lang/String;" .null := D_b513 (Or.inr (w_110 hw)) (ty := (.object "java/lang/String")) (by decide)
    have F_b513_commonFields : Fld Z h512 b513 "com/example/sumgen/sumgen/model/SumType" "commonFields" "Ljava/util/List;" .null := D_b513 (Or.inr (w_112 hw)) (ty := (.object "java/util/List")) (by decide)
    have F_b513_variants : Fld Z h512 b513 "com/example/sumgen/sumgen/model/SumType" "variants" "Ljava/util/List;" .null := D_b513 (Or.inr (w_114 hw)) (ty := (.object "java/util/List")) (by decide)
    have F_b513_place : Fld Z h512 b513 "com/example/sumgen/sumgen/model/SumType" "place" "Lcom/example/sumgen/sumgen/model/Place;" .null := D_b513 (Or.inr (w_116 hw)) (ty := (.object "com/example/sumgen/sumgen/model/Place")) (by decide)
    have F_b513_tagPlace : Fld Z h512 b513 "com/example/sumgen/sumgen/model/SumType" "tagPlace" "Lcom/example/sumgen/sumgen/model/Place;" .null := D_b513 (Or.inr (w_118 hw)) (ty := (.object "com/example/sumgen/sumgen/model/Place")) (by decide)
    change Go _ _ _ _ _ _ _ _ _ _ _ _ _ _ [b513, b498, b487, b483, b466, b462, b445, b441] h512 10 30 149 #[.val (.int p1), .val (.int p2), .val (.int p3), .val (.int t1), .val (.int t2), .val (.int t3), .val (.int t4), .val (.int t5), .val (.ref b441), .val (.ref b462), .val (.ref b483), .unset, .unset, .unset, .unset, .unset, .unset] [(.ref b513)]
    refine Go.dup (pc' := 150) at_149 rfl rfl ?_
    refine Go.aload (pc' := 152) at_150 rfl rfl rfl ?_
    refine Go.aconst_null (pc' := 153) at_152 rfl ?_
    refine Go.newO (pc' := 156) at_153 rfl (w_33 hw) (w_34 hw) (w_35 hw) (by decide) (by decide) ?_
    intro h516 b517 g518 ge_b517 x519 E_b517 D_b517 U_b517
    have o_b441_b517 : b441 ≠ b517 := Nat.ne_of_lt (Nat.lt_of_lt_of_le E_b441.lt (Nat.le_of_eq g518))
    have o_b445_b517 : b445 ≠ b517 := Nat.ne_of_lt (Nat.lt_of_lt_of_le E_b445.lt (Nat.le_of_eq g518))
    have o_b451_b517 : b451 ≠ b517 := Nat.ne_of_lt (Nat.lt_of_lt_of_le V_b451.lt (Nat.le_of_eq g518))
    have o_b462_b517 : b462 ≠ b517 := Nat.ne_of_lt (Nat.lt_of_lt_of_le E_b462.lt (Nat.le_of_eq g518))
    have o_b466_b517 : b466 ≠ b517 := Nat.ne_of_lt (Nat.lt_of_lt_of_le E_b466.lt (Nat.le_of_eq g518))
    have o_b472_b517 : b472 ≠ b517 := Nat.ne_of_lt (Nat.lt_of_lt_of_le V_b472.lt (Nat.le_of_eq g518))
    have o_b483_b517 : b483 ≠ b517 := Nat.ne_of_lt (Nat.lt_of_lt_of_le E_b483.lt (Nat.le_of_eq g518))
    have o_b487_b517 : b487 ≠ b517 := Nat.ne_of_lt (Nat.lt_of_lt_of_le E_b487.lt (Nat.le_of_eq g518))
    have o_b498_b517 : b498 ≠ b517 := Nat.ne_of_lt (Nat.lt_of_lt_of_le E_b498.lt (Nat.le_of_eq g518))
    have o_b513_b517 : b513 ≠ b517 := Nat.ne_of_lt (Nat.lt_of_lt_of_le E_b513.lt (Nat.le_of_eq g518))
    replace E_b441 := E_b441.ext x519
    replace E_b445 := E_b445.ext x519
    replace V_b445 := V_b445.ext x519
    replace F_b441_coder := F_b441_coder.ext x519
    replace F_b441_value := F_b441_value.ext x519
    replace V_b451 := V_b451.ext x519
    replace E_b462 := E_b462.ext x519
    replace E_b466 := E_b466.ext x519
    replace V_b466 := V_b466.ext x519
    replace F_b462_coder := F_b462_coder.ext x519
    replace F_b462_value := F_b462_value.ext x519
    replace V_b472 := V_b472.ext x519
    replace E_b483 := E_b483.ext x519
    replace E_b487 := E_b487.ext x519
    replace F_b487_modCount := F_b487_modCount.ext x519
    replace F_b487_elementData := F_b487_elementData.ext x519
    replace F_b487_size := F_b487_size.ext x519
    replace E_b498 := E_b498.ext x519
    replace F_b498_modCount := F_b498_modCount.ext x519
    replace F_b498_elementData := F_b498_elementData.ext x519
    replace F_b498_size := F_b498_size.ext x519
    replace E_b513 := E_b513.ext x519
    replace U_b513 := unt_ext x519 U_b513
    replace F_b513_name := F_b513_name.ext x519
    replace F_b513_tag := F_b513_tag.ext x519
    replace F_b513_commonFields := F_b513_commonFields.ext x519
    replace F_b513_variants := F_b513_variants.ext x519
    replace F_b513_place := F_b513_place.ext x519
    replace F_b513_tagPlace := F_b513_tagPlace.ext x519
    have F_b517_modCount : Fld Z h516 b517 "java/util/AbstractList" "modCount" "I" (.int (0 : Int32)) := D_b517 (Or.inl (w_53 hw)) (ty := .int) (by decide)
    have F_b517_elementData : Fld Z h516 b517 "java/util/ArrayList" "elementData" "[Ljava/lang/Object;" .null := D_b517 (Or.inl (w_56 hw)) (ty := (.array (.object "java/lang/Object"))) (by decide)
    have F_b517_size : Fld Z h516 b517 "java/util/ArrayList" "size" "I" (.int (0 : Int32)) := D_b517 (Or.inl (w_90 hw)) (ty := .int) (by decide)
    change Go _ _ _ _ _ _ _ _ _ _ _ _ _ _ [b517, b513, b498, b487, b483, b466, b462, b445, b441] h516 11 33 156 #[.val (.int p1), .val (.int p2), .val (.int p3), .val (.int t1), .val (.int t2), .val (.int t3), .val (.int t4), .val (.int t5), .val (.ref b441), .val (.ref b462), .val (.ref b483), .unset, .unset, .unset, .unset, .unset, .unset] [(.ref b517), .null, (.ref b462), (.ref b513), (.ref b513)]
    refine Go.dup (pc' := 157) at_156 rfl rfl ?_
    refine Go.callI (pc' := 160) (z := N_8) (a := b517) at_157 rfl rfl (w_36 hw) (w_37 hw) (w_38 hw) (by decide) (argsL := []) (rest := [(.ref b517), .null, (.ref b462), (.ref b513), (.ref b513)]) (Pays.of_met (W := 5) (len := 3) (m_al hw hs b517 h516 E_b517 F_b517_modCount F_b517_elementData F_b517_size) (w_38 hw) (w_35 hw) (by decide) (by decide)) rfl rfl (lenOf pd_4 rfl) rfl (Nat.le_of_eq rfl) (memS (List.mem_of_getElem? (i := 0) rfl) mem0) (by decide) (by decide) ?_
    rintro _ h520 _ K521 le522 ⟨rfl, rfl, p523, p524, p525, p526⟩
    replace E_b441 := E_b441.keep K521
    replace E_b445 := E_b445.keep K521
    replace V_b445 := V_b445.keep K521 (ninS o_b445_b517 nin0)
    replace F_b441_coder := F_b441_coder.keep K521 (ninS o_b441_b517 nin0)
    replace F_b441_value := F_b441_value.keep K521 (ninS o_b441_b517 nin0)
    replace V_b451 := V_b451.keep K521 (ninS o_b451_b517 nin0)
    replace E_b462 := E_b462.keep K521
    replace E_b466 := E_b466.keep K521
    replace V_b466 := V_b466.keep K521 (ninS o_b466_b517 nin0)
    replace F_b462_coder := F_b462_coder.keep K521 (ninS o_b462_b517 nin0)
    replace F_b462_value := F_b462_value.keep K521 (ninS o_b462_b517 nin0)
    replace V_b472 := V_b472.keep K521 (ninS o_b472_b517 nin0)
    replace E_b483 := E_b483.keep K521
    replace E_b487 := E_b487.keep K521
    replace F_b487_modCount := F_b487_modCount.keep K521 (ninS o_b487_b517 nin0)
    replace F_b487_elementData := F_b487_elementData.keep K521 (ninS o_b487_b517 nin0)
    replace F_b487_size := F_b487_size.keep K521 (ninS o_b487_b517 nin0)
    replace E_b498 := E_b498.keep K521
    replace F_b498_modCount := F_b498_modCount.keep K521 (ninS o_b498_b517 nin0)
    replace F_b498_elementData := F_b498_elementData.keep K521 (ninS o_b498_b517 nin0)
    replace F_b498_size := F_b498_size.keep K521 (ninS o_b498_b517 nin0)
    replace E_b513 := E_b513.keep K521
    replace F_b513_name := F_b513_name.keep K521 (ninS o_b513_b517 nin0)
    replace F_b513_tag := F_b513_tag.keep K521 (ninS o_b513_b517 nin0)
    replace F_b513_commonFields := F_b513_commonFields.keep K521 (ninS o_b513_b517 nin0)
    replace F_b513_variants := F_b513_variants.keep K521 (ninS o_b513_b517 nin0)
    replace F_b513_place := F_b513_place.keep K521 (ninS o_b513_b517 nin0)
    replace F_b513_tagPlace := F_b513_tagPlace.keep K521 (ninS o_b513_b517 nin0)
    replace E_b517 := E_b517.keep K521
    have F_b517_modCount := p524
    have F_b517_elementData := p525
    have F_b517_size := p526
    change Go _ _ _ _ _ _ _ _ _ _ _ _ _ _ [b517, b513, b498, b487, b483, b466, b462, b445, b441] h520 11 33 160 #[.val (.int p1), .val (.int p2), .val (.int p3), .val (.int t1), .val (.int t2), .val (.int t3), .val (.int t4), .val (.int t5), .val (.ref b441), .val (.ref b462), .val (.ref b483), .unset, .unset, .unset, .unset, .unset, .unset] [(.ref b517), .null, (.ref b462), (.ref b513), (.ref b513)]
    refine Go.newO (pc' := 163) at_160 rfl (w_33 hw) (w_34 hw) (w_35 hw) (by decide) (by decide) ?_
    intro h527 b528 g529 ge_b528 x530 E_b528 D_b528 U_b528
    have o_b441_b528 : b441 ≠ b528 := Nat.ne_of_lt (Nat.lt_of_lt_of_le E_b441.lt (Nat.le_of_eq g529))
    have o_b445_b528 : b445 ≠ b528 := Nat.ne_of_lt (Nat.lt_of_lt_of_le E_b445.lt (Nat.le_of_eq g529))
    have o_b451_b528 : b451 ≠ b528 := Nat.ne_of_lt (Nat.lt_of_lt_of_le V_b451.lt (Nat.le_of_eq g529))
    have o_b462_b528 : b462 ≠ b528 := Nat.ne_of_lt (Nat.lt_of_lt_of_le E_b462.lt (Nat.le_of_eq g529))
    have o_b466_b528 : b466 ≠ b528 := Nat.ne_of_lt (Nat.lt_of_lt_of_le E_b466.lt (Nat.le_of_eq g529))
    have o_b472_b528 : b472 ≠ b528 := Nat.ne_of_lt (Nat.lt_of_lt_of_le V_b472.lt (Nat.le_of_eq g529))
    have o_b483_b528 : b483 ≠ b528 := Nat.ne_of_lt (Nat.lt_of_lt_of_le E_b483.lt (Nat.le_of_eq g529))
    have o_b487_b528 : b487 ≠ b528 := Nat.ne_of_lt (Nat.lt_of_lt_of_le E_b487.lt (Nat.le_of_eq g529))
    have o_b498_b528 : b498 ≠ b528 := Nat.ne_of_lt (Nat.lt_of_lt_of_le E_b498.lt (Nat.le_of_eq g529))
    have o_b513_b528 : b513 ≠ b528 := Nat.ne_of_lt (Nat.lt_of_lt_of_le E_b513.lt (Nat.le_of_eq g529))
    have o_b517_b528 : b517 ≠ b528 := Nat.ne_of_lt (Nat.lt_of_lt_of_le E_b517.lt (Nat.le_of_eq g529))
    replace E_b441 := E_b441.ext x530
    replace E_b445 := E_b445.ext x530
    replace V_b445 := V_b445.ext x530
    replace F_b441_coder := F_b441_coder.ext x530
    replace F_b441_value := F_b441_value.ext x530
    replace V_b451 := V_b451.ext x530
    replace E_b462 := E_b462.ext x530
    replace E_b466 := E_b466.ext x530
    replace V_b466 := V_b466.ext x530
    replace F_b462_coder := F_b462_coder.ext x530
    replace F_b462_value := F_b462_value.ext x530
    replace V_b472 := V_b472.ext x530
    replace E_b483 := E_b483.ext x530
    replace E_b487 := E_b487.ext x530
    replace F_b487_modCount := F_b487_modCount.ext x530
    replace F_b487_elementData := F_b487_elementData.ext x530
    replace F_b487_size := F_b487_size.ext x530
    replace E_b498 := E_b498.ext x530
    replace F_b498_modCount := F_b498_modCount.ext x530
    replace F_b498_elementData := F_b498_elementData.ext x530
    replace F_b498_size := F_b498_size.ext x530
    replace E_b513 := E_b513.ext x530
    replace F_b513_name := F_b513_name.ext x530
    replace F_b513_tag := F_b513_tag.ext x530
    replace F_b513_commonFields := F_b513_commonFields.ext x530
    replace F_b513_variants := F_b513_variants.ext x530
    replace F_b513_place := F_b513_place.ext x530
    replace F_b513_tagPlace := F_b513_tagPlace.ext x530
    replace E_b517 := E_b517.ext x530
    replace F_b517_modCount := F_b517_modCount.ext x530
    replace F_b517_elementData := F_b517_elementData.ext x530
    replace F_b517_size := F_b517_size.ext x530
    have F_b528_modCount : Fld Z h527 b528 "java/util/AbstractList" "modCount" "I" (.int (0 : Int32)) := D_b528 (Or.inl (w_53 hw)) (ty := .int) (by decide)
    have F_b528_elementData : Fld Z h527 b528 "java/util/ArrayList" "elementData" "[Ljava/lang/Object;" .null := D_b528 (Or.inl (w_56 hw)) (ty := (.array (.object "java/lang/Object"))) (by decide)
    have F_b528_size : Fld Z h527 b528 "java/util/ArrayList" "size" "I" (.int (0 : Int32)) := D_b528 (Or.inl (w_90 hw)) (ty := .int) (by decide)
    change Go _ _ _ _ _ _ _ _ _ _ _ _ _ _ [b528, b517, b513, b498, b487, b483, b466, b462, b445, b441] h527 12 36 163 #[.val (.int p1), .val (.int p2), .val (.int p3), .val (.int t1), .val (.int t2), .val (.int t3), .val (.int t4), .val (.int t5), .val (.ref b441), .val (.ref b462), .val (.ref b483), .unset, .unset, .unset, .unset, .unset, .unset] [(.ref b528), (.ref b517), .null, (.ref b462), (.ref b513), (.ref b513)]
    refine Go.dup (pc' := 164) at_163 rfl rfl ?_
    refine Go.callI (pc' := 167) (z := N_8) (a := b528) at_164 rfl rfl (w_36 hw) (w_37 hw) (w_38 hw) (by decide) (argsL := []) (rest := [(.ref b528), (.ref b517), .null, (.ref b462), (.ref b513), (.ref b513)]) (Pays.of_met (W := 6) (len := 3) (m_al hw hs b528 h527 E_b528 F_b528_modCount F_b528_elementData F_b528_size) (w_38 hw) (w_35 hw) (by decide) (by decide)) rfl rfl (lenOf pd_4 rfl) rfl (Nat.le_of_eq rfl) (memS (List.mem_of_getElem? (i := 0) rfl) mem0) (by decide) (by decide) ?_
    rintro _ h531 _ K532 le533 ⟨rfl, rfl, p534, p535, p536, p537⟩
    replace E_b441 := E_b441.keep K532
    replace E_b445 := E_b445.keep K532
    replace V_b445 := V_b445.keep K532 (ninS o_b445_b528 nin0)
    replace F_b441_coder := F_b441_coder.keep K532 (ninS o_b441_b528 nin0)
    replace F_b441_value := F_b441_value.keep K532 (ninS o_b441_b528 nin0)
    replace V_b451 := V_b451.keep K532 (ninS o_b451_b528 nin0)
    replace E_b462 := E_b462.keep K532
    replace E_b466 := E_b466.keep K532
    replace V_b466 := V_b466.keep K532 (ninS o_b466_b528 nin0)
    replace F_b462_coder := F_b462_coder.keep K532 (ninS o_b462_b528 nin0)
    replace F_b462_value := F_b462_value.keep K532 (ninS o_b462_b528 nin0)
    replace V_b472 := V_b472.keep K532 (ninS o_b472_b528 nin0)
    replace E_b483 := E_b483.keep K532
    replace E_b487 := E_b487.keep K532
    replace F_b487_modCount := F_b487_modCount.keep K532 (ninS o_b487_b528 nin0)
    replace F_b487_elementData := F_b487_elementData.keep K532 (ninS o_b487_b528 nin0)
    replace F_b487_size := F_b487_size.keep K532 (ninS o_b487_b528 nin0)
    replace E_b498 := E_b498.keep K532
    replace F_b498_modCount := F_b498_modCount.keep K532 (ninS o_b498_b528 nin0)
    replace F_b498_elementData := F_b498_elementData.keep K532 (ninS o_b498_b528 nin0)
    replace F_b498_size := F_b498_size.keep K532 (ninS o_b498_b528 nin0)
    replace E_b513 := E_b513.keep K532
    replace F_b513_name := F_b513_name.keep K532 (ninS o_b513_b528 nin0)
    replace F_b513_tag := F_b513_tag.keep K532 (ninS o_b513_b528 nin0)
    replace F_b513_commonFields := F_b513_commonFields.keep K532 (ninS o_b513_b528 nin0)
    replace F_b513_variants := F_b513_variants.keep K532 (ninS o_b513_b528 nin0)
    replace F_b513_place := F_b513_place.keep K532 (ninS o_b513_b528 nin0)
    replace F_b513_tagPlace := F_b513_tagPlace.keep K532 (ninS o_b513_b528 nin0)
    replace E_b517 := E_b517.keep K532
    replace F_b517_modCount := F_b517_modCount.keep K532 (ninS o_b517_b528 nin0)
    replace F_b517_elementData := F_b517_elementData.keep K532 (ninS o_b517_b528 nin0)
    replace F_b517_size := F_b517_size.keep K532 (ninS o_b517_b528 nin0)
    replace E_b528 := E_b528.keep K532
    have F_b528_modCount := p535
    have F_b528_elementData := p536
    have F_b528_size := p537
    change Go _ _ _ _ _ _ _ _ _ _ _ _ _ _ [b528, b517, b513, b498, b487, b483, b466, b462, b445, b441] h531 12 36 167 #[.val (.int p1), .val (.int p2), .val (.int p3), .val (.int t1), .val (.int t2), .val (.int t3), .val (.int t4), .val (.int t5), .val (.ref b441), .val (.ref b462), .val (.ref b483), .unset, .unset, .unset, .unset, .unset, .unset] [(.ref b528), (.ref b517), .null, (.ref b462), (.ref b513), (.ref b513)]
    refine Go.aconst_null (pc' := 168) at_167 rfl ?_
    refine Go.aconst_null (pc' := 169) at_168 rfl ?_
    refine Go.callI (pc' := 172) (z := N_32) (a := b513) at_169 rfl rfl (w_57 hw) (w_58 hw) (w_59 hw) (by decide) (argsL := [(.ref b462), .null, (.ref b517), (.ref b528), .null, .null]) (rest := [(.ref b513)]) (Pays.of_met (W := 1) (len := 3) (m_sum hw hs b513 b462 b517 b528 h531 E_b513 F_b513_name F_b513_tag F_b513_commonFields F_b513_variants F_b513_place F_b513_tagPlace E_b517 F_b517_size E_b528 F_b528_size) (w_59 hw) (w_32 hw) (by decide) (by decide)) rfl rfl (lenOf pd_21 rfl) rfl (Nat.le_of_eq rfl) (memS (List.mem_of_getElem? (i := 2) rfl) mem0) (by decide) (by decide) ?_
    rintro _ h538 _ K539 le540 ⟨rfl, rfl, p541⟩
    replace E_b441 := E_b441.keep K539
    replace E_b445 := E_b445.keep K539
    replace V_b445 := V_b445.keep K539 (ninS o_b445_b513 nin0)
    replace F_b441_coder := F_b441_coder.keep K539 (ninS o_b441_b513 nin0)
    replace F_b441_value := F_b441_value.keep K539 (ninS o_b441_b513 nin0)
    replace V_b451 := V_b451.keep K539 (ninS o_b451_b513 nin0)
    replace E_b462 := E_b462.keep K539
    replace E_b466 := E_b466.keep K539
    replace V_b466 := V_b466.keep K539 (ninS o_b466_b513 nin0)
    replace F_b462_coder := F_b462_coder.keep K539 (ninS o_b462_b513 nin0)
    replace F_b462_value := F_b462_value.keep K539 (ninS o_b462_b513 nin0)
    replace V_b472 := V_b472.keep K539 (ninS o_b472_b513 nin0)
    replace E_b483 := E_b483.keep K539
    replace E_b487 := E_b487.keep K539
    replace F_b487_modCount := F_b487_modCount.keep K539 (ninS o_b487_b513 nin0)
    replace F_b487_elementData := F_b487_elementData.keep K539 (ninS o_b487_b513 nin0)
    replace F_b487_size := F_b487_size.keep K539 (ninS o_b487_b513 nin0)
    replace E_b498 := E_b498.keep K539
    replace F_b498_modCount := F_b498_modCount.keep K539 (ninS o_b498_b513 nin0)
    replace F_b498_elementData := F_b498_elementData.keep K539 (ninS o_b498_b513 nin0)
    replace F_b498_size := F_b498_size.keep K539 (ninS o_b498_b513 nin0)
    replace E_b513 := E_b513.keep K539
    replace E_b517 := E_b517.keep K539
    replace F_b517_modCount := F_b517_modCount.keep K539 (ninS (Ne.symm o_b513_b517) nin0)
    replace F_b517_elementData := F_b517_elementData.keep K539 (ninS (Ne.symm o_b513_b517) nin0)
    replace F_b517_size := F_b517_size.keep K539 (ninS (Ne.symm o_b513_b517) nin0)
    replace E_b528 := E_b528.keep K539
    replace F_b528_modCount := F_b528_modCount.keep K539 (ninS (Ne.symm o_b513_b528) nin0)
    replace F_b528_elementData := F_b528_elementData.keep K539 (ninS (Ne.symm o_b513_b528) nin0)
    replace F_b528_size := F_b528_size.keep K539 (ninS (Ne.symm o_b513_b528) nin0)
    change Go _ _ _ _ _ _ _ _ _ _ _ _ _ _ [b528, b517, b513, b498, b487, b483, b466, b462, b445, b441] h538 12 36 172 #[.val (.int p1), .val (.int p2), .val (.int p3), .val (.int t1), .val (.int t2), .val (.int t3), .val (.int t4), .val (.int t5), .val (.ref b441), .val (.ref b462), .val (.ref b483), .unset, .unset, .unset, .unset, .unset, .unset] [(.ref b513)]
    refine Go.astore (pc' := 174) (Ls' := #[.val (.int p1), .val (.int p2), .val (.int p3), .val (.int t1), .val (.int t2), .val (.int t3), .val (.int t4), .val (.int t5), .val (.ref b441), .val (.ref b462), .val (.ref b483), .val (.ref b513), .unset, .unset, .unset, .unset, .unset]) at_172 rfl rfl rfl ?_
    exact Go.more (k' := 14) (n' := 52) (by decide) (by decide) (Go.fewer mem0 (m_law2 hw hs p1 p2 p3 t1 t2 t3 t4 t5 b441 b462 b483 b513 h0 h538 (ht)))
  · skip
    refine Go.ifN (pc' := 141) at_138 rfl ((if0 _ _).trans (feq (h1 : ¬ (t2 = (0 : Int32)))).1) ?_
    refine Go.aload (pc' := 143) at_141 rfl rfl rfl ?_
    refine Go.goto (pc' := 172) at_143 (by decide) (by decide) ?_
    refine Go.astore (pc' := 174) (Ls' := #[.val (.int p1), .val (.int p2), .val (.int p3), .val (.int t1), .val (.int t2), .val (.int t3), .val (.int t4), .val (.int t5), .val (.ref b441), .val (.ref b462), .val (.ref b483), .val (.ref b483), .unset, .unset, .unset, .unset, .unset]) at_172 rfl rfl rfl ?_
    exact Go.more (k' := 14) (n' := 52) (by decide) (by decide) (Go.fewer mem0 (m_law2 hw hs p1 p2 p3 t1 t2 t3 t4 t5 b441 b462 b483 b483 h0 h508 (ht)))
theorem pn_m_law : plainFor (⟨"com/example/sumgen/sumgen/sql/TypeChangeAddsTypePinLaw", "law", "(III)Z"⟩ : MethodName) = true := by first | (refine plainFor_of_name ?_; simp [plainName, overriddenIn]; done) | decide +kernel
theorem ef_m_law (mid : MethodId) (p1 : Int32) (p2 : Int32) (p3 : Int32) : entryFrame mid #[(.int p1), (.int p2), (.int p3)] maxLocals = mkF mid 0 #[.val (.int p1), .val (.int p2), .val (.int p3), .unset, .unset, .unset, .unset, .unset, .unset, .unset, .unset, .unset, .unset, .unset, .unset, .unset, .unset] [] := by first | (simp [entryFrame, mkF, argsToLocals, Value.category, maxLocals]; done) | rfl
set_option maxRecDepth 65536 in
set_option maxHeartbeats 40000000 in
theorem m_law {l : Launch} {Z : State} {a0 : Array Value} {n0 : Nat} (hw : ∀ d ∈ tables_1, d.before a0 Z = true) (hs : Stat Z) (p1 : Int32) (p2 : Int32) (p3 : Int32) (h0 : Heap) :
    Met l Z EL0 n0 NR0 KN0 x code maxLocals ret room_1 [] #[(.int p1), (.int p2), (.int p3)] h0 (Q_m_law Z p1 p2 p3 h0) := by
  refine Met.of_go pn_m_law (fun mid => ef_m_law mid p1 p2 p3 ) ?_
  intro hO hWS
  refine Go.iload_n (pc' := 1) at_0 rfl rfl ?_
  refine Go.iconst (pc' := 2) at_1 rfl ic_1 ?_
  refine Go.iand (pc' := 3) at_2 rfl ?_
  suffices key_t1 : ∀ t1 : Int32, (((p1 &&& (1 : Int32)) = (0 : Int32)) ∧ t1 = (0 : Int32)) ∨ (¬ ((p1 &&& (1 : Int32)) = (0 : Int32)) ∧ t1 = (1 : Int32)) → Go l Z EL0 n0 NR0 KN0 x code maxLocals ret room_1 h0 [] (Q_m_law Z p1 p2 p3 h0) [] h0 0 0 12 #[.val (.int p1), .val (.int p2), .val (.int p3), .val (.int t1), .unset, .unset, .unset, .unset, .unset, .unset, .unset, .unset, .unset, .unset, .unset, .unset, .unset] [] by
    by_cases hc : (p1 &&& (1 : Int32)) = (0 : Int32)
    · skip
      refine Go.ifY (pc' := 10) at_3 (by decide) (by decide) ((if0 _ _).trans (teq (hc : (p1 &&& (1 : Int32)) = (0 : Int32))).1) ?_
      refine Go.iconst (pc' := 11) at_10 rfl ic_0 ?_
      refine Go.istore_n (pc' := 12) (Ls' := #[.val (.int p1), .val (.int p2), .val (.int p3), .val (.int (0 : Int32)), .unset, .unset, .unset, .unset, .unset, .unset, .unset, .unset, .unset, .unset, .unset, .unset, .unset]) at_11 rfl rfl ?_
      exact key_t1 (0 : Int32) (Or.inl ⟨hc, rfl⟩)
    · skip
      refine Go.ifN (pc' := 6) at_3 rfl ((if0 _ _).trans (feq (hc : ¬ ((p1 &&& (1 : Int32)) = (0 : Int32)))).1) ?_
      refine Go.iconst (pc' := 7) at_6 rfl ic_1 ?_
      refine Go.goto (pc' := 11) at_7 (by decide) (by decide) ?_
      refine Go.istore_n (pc' := 12) (Ls' := #[.val (.int p1), .val (.int p2), .val (.int p3), .val (.int (1 : Int32)), .unset, .unset, .unset, .unset, .unset, .unset, .unset, .unset, .unset, .unset, .unset, .unset, .unset]) at_11 rfl rfl ?_
      exact key_t1 (1 : Int32) (Or.inr ⟨hc, rfl⟩)
  intro t1 hf_t1
  refine Go.iload_n (pc' := 13) at_12 rfl rfl ?_
  refine Go.iconst (pc' := 14) at_13 rfl ic_2 ?_
  refine Go.iand (pc' := 15) at_14 rfl ?_
  suffices key_t2 : ∀ t2 : Int32, (((p1 &&& (2 : Int32)) = (0 : Int32)) ∧ t2 = (0 : Int32)) ∨ (¬ ((p1 &&& (2 : Int32)) = (0 : Int32)) ∧ t2 = (1 : Int32)) → Go l Z EL0 n0 NR0 KN0 x code maxLocals ret room_1 h0 [] (Q_m_law Z p1 p2 p3 h0) [] h0 0 0 25 #[.val (.int p1), .val (.int p2), .val (.int p3), .val (.int t1), .val (.int t2), .unset, .unset, .unset, .unset, .unset, .unset, .unset, .unset, .unset, .unset, .unset, .unset] [] by
    by_cases hc : (p1 &&& (2 : Int32)) = (0 : Int32)
    · skip
      refine Go.ifY (pc' := 22) at_15 (by decide) (by decide) ((if0 _ _).trans (teq (hc : (p1 &&& (2 : Int32)) = (0 : Int32))).1) ?_
      refine Go.iconst (pc' := 23) at_22 rfl ic_0 ?_
      refine Go.istore (pc' := 25) (Ls' := #[.val (.int p1), .val (.int p2), .val (.int p3), .val (.int t1), .val (.int (0 : Int32)), .unset, .unset, .unset, .unset, .unset, .unset, .unset, .unset, .unset, .unset, .unset, .unset]) at_23 rfl rfl ?_
      exact key_t2 (0 : Int32) (Or.inl ⟨hc, rfl⟩)
    · skip
      refine Go.ifN (pc' := 18) at_15 rfl ((if0 _ _).trans (feq (hc : ¬ ((p1 &&& (2 : Int32)) = (0 : Int32)))).1) ?_
      refine Go.iconst (pc' := 19) at_18 rfl ic_1 ?_
      refine Go.goto (pc' := 23) at_19 (by decide) (by decide) ?_
      refine Go.istore (pc' := 25) (Ls' := #[.val (.int p1), .val (.int p2), .val (.int p3), .val (.int t1), .val (.int (1 : Int32)), .unset, .unset, .unset, .unset, .unset, .unset, .unset, .unset, .unset, .unset, .unset, .unset]) at_23 rfl rfl ?_
      exact key_t2 (1 : Int32) (Or.inr ⟨hc, rfl⟩)
  intro t2 hf_t2
  refine Go.iload_n (pc' := 26) at_25 rfl rfl ?_
  refine Go.iconst (pc' := 27) at_26 rfl ic_4 ?_
  refine Go.iand (pc' := 28) at_27 rfl ?_
  suffices key_t3 : ∀ t3 : Int32, (((p1 &&& (4 : Int32)) = (0 : Int32)) ∧ t3 = (0 : Int32)) ∨ (¬ ((p1 &&& (4 : Int32)) = (0 : Int32)) ∧ t3 = (1 : Int32)) → Go l Z EL0 n0 NR0 KN0 x code maxLocals ret room_1 h0 [] (Q_m_law Z p1 p2 p3 h0) [] h0 0 0 38 #[.val (.int p1), .val (.int p2), .val (.int p3), .val (.int t1), .val (.int t2), .val (.int t3), .unset, .unset, .unset, .unset, .unset, .unset, .unset, .unset, .unset, .unset, .unset] [] by
    by_cases hc : (p1 &&& (4 : Int32)) = (0 : Int32)
    · skip
      refine Go.ifY (pc' := 35) at_28 (by decide) (by decide) ((if0 _ _).trans (teq (hc : (p1 &&& (4 : Int32)) = (0 : Int32))).1) ?_
      refine Go.iconst (pc' := 36) at_35 rfl ic_0 ?_
      refine Go.istore (pc' := 38) (Ls' := #[.val (.int p1), .val (.int p2), .val (.int p3), .val (.int t1), .val (.int t2), .val (.int (0 : Int32)), .unset, .unset, .unset, .unset, .unset, .unset, .unset, .unset, .unset, .unset, .unset]) at_36 rfl rfl ?_
      exact key_t3 (0 : Int32) (Or.inl ⟨hc, rfl⟩)
    · skip
      refine Go.ifN (pc' := 31) at_28 rfl ((if0 _ _).trans (feq (hc : ¬ ((p1 &&& (4 : Int32)) = (0 : Int32)))).1) ?_
      refine Go.iconst (pc' := 32) at_31 rfl ic_1 ?_
      refine Go.goto (pc' := 36) at_32 (by decide) (by decide) ?_
      refine Go.istore (pc' := 38) (Ls' := #[.val (.int p1), .val (.int p2), .val (.int p3), .val (.int t1), .val (.int t2), .val (.int (1 : Int32)), .unset, .unset, .unset, .unset, .unset, .unset, .unset, .unset, .unset, .unset, .unset]) at_36 rfl rfl ?_
      exact key_t3 (1 : Int32) (Or.inr ⟨hc, rfl⟩)
  intro t3 hf_t3
  refine Go.iload_n (pc' := 39) at_38 rfl rfl ?_
  refine Go.bipush (pc' := 41) at_39 rfl icb_8 ?_
  refine Go.iand (pc' := 42) at_41 rfl ?_
  suffices key_t4 : ∀ t4 : Int32, (((p1 &&& (8 : Int32)) = (0 : Int32)) ∧ t4 = (0 : Int32)) ∨ (¬ ((p1 &&& (8 : Int32)) = (0 : Int32)) ∧ t4 = (1 : Int32)) → Go l Z EL0 n0 NR0 KN0 x code maxLocals ret room_1 h0 [] (Q_m_law Z p1 p2 p3 h0) [] h0 0 0 52 #[.val (.int p1), .val (.int p2), .val (.int p3), .val (.int t1), .val (.int t2), .val (.int t3), .val (.int t4), .unset, .unset, .unset, .unset, .unset, .unset, .unset, .unset, .unset, .unset] [] by
    by_cases hc : (p1 &&& (8 : Int32)) = (0 : Int32)
    · skip
      refine Go.ifY (pc' := 49) at_42 (by decide) (by decide) ((if0 _ _).trans (teq (hc : (p1 &&& (8 : Int32)) = (0 : Int32))).1) ?_
      refine Go.iconst (pc' := 50) at_49 rfl ic_0 ?_
      refine Go.istore (pc' := 52) (Ls' := #[.val (.int p1), .val (.int p2), .val (.int p3), .val (.int t1), .val (.int t2), .val (.int t3), .val (.int (0 : Int32)), .unset, .unset, .unset, .unset, .unset, .unset, .unset, .unset, .unset, .unset]) at_50 rfl rfl ?_
      exact key_t4 (0 : Int32) (Or.inl ⟨hc, rfl⟩)
    · skip
      refine Go.ifN (pc' := 45) at_42 rfl ((if0 _ _).trans (feq (hc : ¬ ((p1 &&& (8 : Int32)) = (0 : Int32)))).1) ?_
      refine Go.iconst (pc' := 46) at_45 rfl ic_1 ?_
      refine Go.goto (pc' := 50) at_46 (by decide) (by decide) ?_
      refine Go.istore (pc' := 52) (Ls' := #[.val (.int p1), .val (.int p2), .val (.int p3), .val (.int t1), .val (.int t2), .val (.int t3), .val (.int (1 : Int32)), .unset, .unset, .unset, .unset, .unset, .unset, .unset, .unset, .unset, .unset]) at_50 rfl rfl ?_
      exact key_t4 (1 : Int32) (Or.inr ⟨hc, rfl⟩)
  intro t4 hf_t4
  refine Go.iload_n (pc' := 53) at_52 rfl rfl ?_
  refine Go.bipush (pc' := 55) at_53 rfl icb_16 ?_
  refine Go.iand (pc' := 56) at_55 rfl ?_
  suffices key_t5 : ∀ t5 : Int32, (((p1 &&& (16 : Int32)) = (0 : Int32)) ∧ t5 = (0 : Int32)) ∨ (¬ ((p1 &&& (16 : Int32)) = (0 : Int32)) ∧ t5 = (1 : Int32)) → Go l Z EL0 n0 NR0 KN0 x code maxLocals ret room_1 h0 [] (Q_m_law Z p1 p2 p3 h0) [] h0 0 0 66 #[.val (.int p1), .val (.int p2), .val (.int p3), .val (.int t1), .val (.int t2), .val (.int t3), .val (.int t4), .val (.int t5), .unset, .unset, .unset, .unset, .unset, .unset, .unset, .unset, .unset] [] by
    by_cases hc : (p1 &&& (16 : Int32)) = (0 : Int32)
    · skip
      refine Go.ifY (pc' := 63) at_56 (by decide) (by decide) ((if0 _ _).trans (teq (hc : (p1 &&& (16 : Int32)) = (0 : Int32))).1) ?_
      refine Go.iconst (pc' := 64) at_63 rfl ic_0 ?_
      refine Go.istore (pc' := 66) (Ls' := #[.val (.int p1), .val (.int p2), .val (.int p3), .val (.int t1), .val (.int t2), .val (.int t3), .val (.int t4), .val (.int (0 : Int32)), .unset, .unset, .unset, .unset, .unset, .unset, .unset, .unset, .unset]) at_64 rfl rfl ?_
      exact key_t5 (0 : Int32) (Or.inl ⟨hc, rfl⟩)
    · skip
      refine Go.ifN (pc' := 59) at_56 rfl ((if0 _ _).trans (feq (hc : ¬ ((p1 &&& (16 : Int32)) = (0 : Int32)))).1) ?_
      refine Go.iconst (pc' := 60) at_59 rfl ic_1 ?_
      refine Go.goto (pc' := 64) at_60 (by decide) (by decide) ?_
      refine Go.istore (pc' := 66) (Ls' := #[.val (.int p1), .val (.int p2), .val (.int p3), .val (.int t1), .val (.int t2), .val (.int t3), .val (.int t4), .val (.int (1 : Int32)), .unset, .unset, .unset, .unset, .unset, .unset, .unset, .unset, .unset]) at_64 rfl rfl ?_
      exact key_t5 (1 : Int32) (Or.inr ⟨hc, rfl⟩)
  intro t5 hf_t5
  have ht : t1 = (0 : Int32) ∨ t1 = (1 : Int32) := by rcases hf_t1 with ⟨-, h⟩ | ⟨-, h⟩ <;> simp [h]
  exact Go.more (k' := 0) (n' := 0) (by decide) (by decide) (Go.fewer mem0 (m_law1 hw hs p1 p2 p3 t1 t2 t3 t4 t5 h0 h0 (ht)))
set_option maxRecDepth 65536 in
set_option maxHeartbeats 40000000 in
theorem comes_1 {Post : Tables → Env → Array Value → State → Outcome → State → Prop} (hpost : ∀ tb e args s v u, (limb_1_1.after args s (.returned v) u = true ∧ limb_1_2.after args s (.returned v) u = true ∧ True) → FrameEnd s (.returned v) u (Jvm.fieldLocs frame_1_writes args s ++ Jvm.arrayLocs frame_1_arrays args s ++ Jvm.staticLocs frame_1_statics s) 64 256 → Post tb e args s (.returned v) u) :
    ArmFor flags0 classFile x code maxLocals ret World_1 tables_1 room_1 Calls_1 rest_1 Pre_1 Post := by
  intro l hfl _ _ p e ha hc hk s m args below hf hA hF happ hP
  obtain ⟨hcalls, hrest, hpre⟩ := hP
  obtain ⟨-, -, -, hnamed, -, -, -, hat⟩ := (Spec.applies_iff hf).mp happ
  obtain ⟨hg, hn⟩ := and_e (Cond.before_iff.mp (show (Jvm.Cond.and given_1 narrow_1).before args s = true from hpre))
  have hgn := hg
  obtain ⟨h_c, hg⟩ := and_e hg
  obtain ⟨w0, w1, w2, rfl⟩ : ∃ w0 w1 w2 : Value, args = #[w0, w1, w2] := by
    have hs : args.size = 3 := by simpa [Cond.value, given_1] using h_c
    obtain ⟨L⟩ := args
    match L, hs with
    | [w0, w1, w2], _ => exact ⟨w0, w1, w2, rfl⟩
  obtain ⟨h_0, hg⟩ := and_e hg
  obtain ⟨i0, e_0⟩ := is_v h_0
  obtain rfl : w0 = (.int i0) := Option.some.inj e_0
  obtain ⟨h_1, hg⟩ := and_e hg
  obtain ⟨i1, e_1⟩ := is_v h_1
  obtain rfl : w1 = (.int i1) := Option.some.inj e_1
  have h_2 := hg
  obtain ⟨i2, e_2⟩ := is_v h_2
  obtain rfl : w2 = (.int i2) := Option.some.inj e_2
  have hw := fun d (hd : d ∈ tables_1) => atoms_spec (ws := Jvm.Cond.code x code maxLocals ret :: tables_1) hat d (List.mem_cons_of_mem _ hd)
  have hfit : Fit s := fun {y c} hc i hi => by
    obtain ⟨ha, rfl⟩ := Array.getElem?_eq_some_iff.mp hc
    have q := List.all_eq_true.mp ((Array.all_eq_true_iff_forall_mem.mp hF) _ (Array.getElem_mem ha)) i (List.mem_range.mpr hi)
    simpa [Array.getElem?_eq_getElem hi] using q
  have hsets := (atoms_of jdkStatics_1 (show (jdkStatics_1.foldr Jvm.Cond.and restOwn_1).before _ s = true from hrest)).1
  obtain ⟨zc, e_zc⟩ := is_v (Cond.before_iff.mp (hsets _ (List.mem_of_getElem? (i := 1) rfl)))
  have n_zc := gotF (Cond.eq_ints e_zc (Term.int_eval (0))) (not_v (Cond.before_iff.mp (hsets _ (List.mem_of_getElem? (i := 2) rfl))))
  have s_zc := Sta.start e_zc (Or.inl (hsets _ (List.mem_of_getElem? (i := 0) rfl)))
  obtain ⟨da, e_da⟩ := arr_v (Cond.before_iff.mp (hsets _ (List.mem_of_getElem? (i := 15) rfl)))
  have r_da := stRef_of e_da
  have s_da := Sta.start e_da (Or.inr ⟨(w_35 hw), (hsets _ (List.mem_of_getElem? (i := 11) rfl))⟩)
  have x_da := Exa.start e_da (Cond.before_iff.mp (hsets _ (List.mem_of_getElem? (i := 16) rfl)))
  obtain ⟨cl_da, A_da⟩ := Arr.start e_da (Cond.before_iff.mp (hsets _ (List.mem_of_getElem? (i := 15) rfl)))
  have l_da := own_len e_da A_da (eqv_i (Term.int_eval (0)) (Cond.before_iff.mp (hsets _ (List.mem_of_getElem? (i := 17) rfl))))
  have v_da := own_arv0 (d := .null) A_da l_da
  obtain ⟨ea, e_ea⟩ := exa_v (Cond.before_iff.mp (hsets _ (List.mem_of_getElem? (i := 20) rfl)))
  have r_ea := stRef_of e_ea
  have s_ea := Sta.start e_ea (Or.inl (hsets _ (List.mem_of_getElem? (i := 19) rfl)))
  have x_ea := Exa.start e_ea (Cond.before_iff.mp (hsets _ (List.mem_of_getElem? (i := 20) rfl)))
  obtain ⟨ta, e_ta⟩ := arr_v (Cond.before_iff.mp (hsets _ (List.mem_of_getElem? (i := 21) rfl)))
  have f_ta := Fld.start ((fld_at e_ea).symm.trans e_ta)
  obtain ⟨cl_ta, A_ta⟩ := Arr.start e_ta (Cond.before_iff.mp (hsets _ (List.mem_of_getElem? (i := 21) rfl)))
  have l_ta := own_len e_ta A_ta (eqv_i (Term.int_eval (0)) (Cond.before_iff.mp (hsets _ (List.mem_of_getElem? (i := 23) rfl))))
  have v_ta := own_arv0 (d := .null) A_ta l_ta
  obtain ⟨oa, e_oa⟩ := exa_v (Cond.before_iff.mp (hsets _ (List.mem_of_getElem? (i := 27) rfl)))
  have s_oa := Sta.start e_oa (Or.inl (hsets _ (List.mem_of_getElem? (i := 26) rfl)))
  obtain ⟨cm, km, mm, hm1, hm2, hm3⟩ := hcalls.1
  have hs : Stat s := ⟨⟨zc, s_zc, n_zc⟩, (by rw [r_da]; exact ⟨s_da, x_da, _, v_da⟩), (by rw [r_ea]; exact ⟨s_ea, x_ea, ta, _, f_ta, v_ta⟩), ⟨oa, s_oa⟩, ⟨mm, cm, km, hm1, hm2, hm3.1⟩, trivial⟩
  obtain ⟨n, o, h1, h2, h3, v, L, SN, rfl, ⟨rfl, -⟩, hL, -, -, -, hN, hE⟩ := m_law hw hs i0 i1 i2 s.heap tables_1 p e ha hc hk s m _ below hf ((Spec.applies_iff_loose hf).mp happ).1 ⟨rfl, State.Warmed39.refl s, rfl, (fun p hp => nomatch hp), (fun x hx => nomatch hx), ⟨rfl, Ext.refl _⟩, _, (EW.nil (a0 := #[]))⟩ (fun q => nomatch q)
  refine ⟨n, _, h1, h2, h3, hpost _ _ _ _ _ _ ⟨Cond.after_iff.mpr rfl, Cond.after_iff.mpr (eq_i res_at (Term.int_eval (1)) rfl), trivial⟩ ⟨hE.1, hN rfl, (hE.2.2.2.sift fun y hy => Or.inr (hL y hy)).mono (by decide) (by decide)⟩⟩
theorem main_1_1 : Claimed_1_1 := comes_1 fun _ _ _ _ _ _ h hF => ⟨h.1, hF⟩
theorem main_1_2 : Claimed_1_2 := comes_1 fun _ _ _ _ _ _ h hF => ⟨h.2.1, hF⟩
end Jvm.Pilot.@@N@@
namespace Jvm.Pilot.@@N@@
open Jvm Jvm.ClassFile Sem Op Lib Jvm.Free Jvm.Stand Jvm.Pilot.@@N@@.Jvm.D
/-! MADE BY PROGRAM (witnessworld.py) out of the Statement's table words and the real class files: 42 classes; the members and pool entries that the words name. The judged class is class 1, her method 1. -/
namespace start1
open Jvm.ClassFile
def u (s : String) : CpInfo := .utf8 (stringToUtf16 s)
/-- a pool by its gaps: so many unusable entries, then the entry; so many at the end -/
def gap : Nat → List CpInfo → List CpInfo
  | 0, r => r
  | n + 1, r => .unusable :: gap n r
def poolList (es : List (Nat × CpInfo)) (last : Nat) : List CpInfo := es.foldr (fun e r => gap e.1 (e.2 :: r)) (gap last [])
def pool (es : List (Nat × CpInfo)) (last : Nat) : Array CpInfo := ⟨poolList es last⟩
def fileOf (pool : Array CpInfo) (this : Nat) (attrs : Array Attribute := #[]) (ms : Array MethodInfo := #[]) (fl : Nat := 33) (sup : Nat := 0) (ifs : Array Nat := #[]) (fds : Array FieldInfo := #[]) : ClassFile where
  minorVersion := 0
  majorVersion := 65
  constantPool := pool
  accessFlags := fl
  thisClass := this
  superClass := sup
  interfaces := ifs
  fields := fds
  methods := ms
  attributes := attrs
def plain (name : String) (sup : Option ClassId) : Class where
  name := name
  kind := .ordinary
  loader := none
  accessFlags := 33
  super := sup
  interfaces := #[]
  cf := none
  fields := #[]
  methods := #[]
  instanceTypes := #[]
  staticTypes := #[]
  resolved := #[]
  callSites := []
  init := .initialized
  statics := none
  mirror := none

def pool0 : Array CpInfo := pool [(5, u "<init>"), (0, u "()V"), (1, .class_ 10), (1, u "java/lang/Object"), (0, u "getClass"), (0, u "()Ljava/lang/Class;")] 111

def k0c0 : Code := { maxStack := 0, maxLocals := 1, code := object_method_1_code, exceptionTable := #[], attributes := #[] }
def k0m0 : Method := { name := "<init>", desc := "()V", sig := { parameters := [], returnType := none }, accessFlags := 1, code := some k0c0 }
def k0m1 : Method := { name := "getClass", desc := "()Ljava/lang/Class;", sig := { parameters := [], returnType := some (.object "java/lang/Class") }, accessFlags := 273, code := none }
/-- java/lang/Object -/
def k0 : Class := { plain "java/lang/Object" none with
  accessFlags := 33
  interfaces := #[]
  cf := some (fileOf pool0 8 #[] #[{ accessFlags := 1, nameIndex := 5, descriptorIndex := 6, attributes := #[] }, { accessFlags := 273, nameIndex := 11, descriptorIndex := 12, attributes := #[] }] 33 0 #[] #[])
  fields := #[]
  methods := #[k0m0, k0m1]
  instanceTypes := #[]
  staticTypes := #[]
  resolved := Array.replicate 124 none
  statics := none }

def pool1 : Array CpInfo := pool [(2, .class_ 4), (0, .nameAndType 5 6), (0, u "java/lang/Object"), (0, u "<init>"), (0, u "()V"), (0, .class_ 8), (0, u "java/lang/String"), (0, .methodref 7 10), (0, .nameAndType 5 11), (0, u "([C)V"), (0, .class_ 13), (0, u "com/example/sumgen/sumgen/model/SumType"), (0, .class_ 15), (0, u "java/util/ArrayList"), (0, .methodref 14 3), (0, .methodref 12 18), (0, .nameAndType 5 19), (0, u "(Ljava/lang/String;Ljava/lang/String;Ljava/util/List;Ljava/util/List;Lcom/example/sumgen/sumgen/model/Place;Lcom/example/sumgen/sumgen/model/Place;)V"), (0, .class_ 21), (0, u "com/example/sumgen/sumgen/model/Field"), (0, .methodref 20 23), (0, .nameAndType 5 24), (0, u "(Ljava/lang/String;Lcom/example/sumgen/sumgen/model/FieldType;Lcom/example/sumgen/sumgen/model/Field$Multiplicity;Lcom/example/sumgen/sumgen/model/Place;)V"), (0, .methodref 14 26), (0, .nameAndType 27 28), (0, u "add"), (0, u "(Ljava/lang/Object;)Z"), (0, .class_ 30), (0, u "com/example/sumgen/sumgen/sql/Changes$TypeChange"), (0, .methodref 29 32), (0, .nameAndType 5 33), (0, u "(Lcom/example/sumgen/sumgen/model/SumType;Lcom/example/sumgen/sumgen/model/SumType;Ljava/util/List;Ljava/util/List;Ljava/util/List;Ljava/util/List;)V"), (0, .methodref 29 35), (0, .nameAndType 36 37), (0, u "addsType"), (0, u "()Z"), (0, .class_ 39), (0, u "com/example/sumgen/sumgen/sql/TypeChangeAddsTypePinLaw"), (2, u "law"), (0, u "(III)Z")] 10

def k1m0 : Method := { name := "<init>", desc := "()V", sig := { parameters := [], returnType := none }, accessFlags := 1, code := none }
def k1c1 : Code := { maxStack := 9, maxLocals := 17, code := code, exceptionTable := #[], attributes := #[] }
def k1m1 : Method := { name := "law", desc := "(III)Z", sig := { parameters := [.int, .int, .int], returnType := some .boolean }, accessFlags := 9, code := some k1c1 }
/-- com/example/sumgen/sumgen/sql/TypeChangeAddsTypePinLaw -/
def k1 : Class := { plain "com/example/sumgen/sumgen/sql/TypeChangeAddsTypePinLaw" (some 0) with
  accessFlags := 49
  interfaces := #[]
  cf := some (fileOf pool1 38 #[] #[{ accessFlags := 1, nameIndex := 5, descriptorIndex := 6, attributes := #[] }, { accessFlags := 9, nameIndex := 42, descriptorIndex := 43, attributes := #[] }] 49 2 #[] #[])
  fields := #[]
  methods := #[k1m0, k1m1]
  instanceTypes := #[]
  staticTypes := #[]
  resolved := Array.replicate 54 none
  statics := none }

def pool2 : Array CpInfo := pool [(1, .class_ 2), (0, u "java/io/Serializable"), (0, .class_ 4), (0, u "java/lang/Object")] 2

/-- java/io/Serializable -/
def k2 : Class := { plain "java/io/Serializable" (some 0) with
  accessFlags := 1537
  interfaces := #[]
  cf := some (fileOf pool2 1 #[] #[] 1537 3 #[] #[])
  fields := #[]
  methods := #[]
  instanceTypes := #[]
  staticTypes := #[]
  resolved := Array.replicate 7 none
  statics := none }

def pool3 : Array CpInfo := pool [(1, .class_ 2), (0, u "java/lang/Comparable"), (0, .class_ 4), (0, u "java/lang/Object")] 7

/-- java/lang/Comparable -/
def k3 : Class := { plain "java/lang/Comparable" (some 0) with
  accessFlags := 1537
  interfaces := #[]
  cf := some (fileOf pool3 1 #[] #[] 1537 3 #[] #[])
  fields := #[]
  methods := #[]
  instanceTypes := #[]
  staticTypes := #[]
  resolved := Array.replicate 12 none
  statics := none }

def pool4 : Array CpInfo := pool [(2, .class_ 4), (1, u "java/lang/CharSequence"), (42, .class_ 48), (0, u "java/lang/CharSequence$1CodePointIterator"), (10, .class_ 60), (0, u "java/lang/CharSequence$1CharIterator"), (5, .class_ 67), (0, u "java/lang/Object")] 63

/-- java/lang/CharSequence -/
def k4 : Class := { plain "java/lang/CharSequence" (some 0) with
  accessFlags := 1537
  interfaces := #[]
  cf := some (fileOf pool4 2 #[.nestMembers #[47, 59]] #[] 1537 66 #[] #[])
  fields := #[]
  methods := #[]
  instanceTypes := #[]
  staticTypes := #[]
  resolved := Array.replicate 131 none
  statics := none }

def pool5 : Array CpInfo := pool [(1, .class_ 2), (0, u "java/lang/constant/Constable"), (0, .class_ 4), (0, u "java/lang/Object")] 6

/-- java/lang/constant/Constable -/
def k5 : Class := { plain "java/lang/constant/Constable" (some 0) with
  accessFlags := 1537
  interfaces := #[]
  cf := some (fileOf pool5 1 #[] #[] 1537 3 #[] #[])
  fields := #[]
  methods := #[]
  instanceTypes := #[]
  staticTypes := #[]
  resolved := Array.replicate 11 none
  statics := none }

def pool6 : Array CpInfo := pool [(1, .class_ 2), (0, u "java/lang/constant/ConstantDesc"), (0, .class_ 4), (0, u "java/lang/Object")] 32

/-- java/lang/constant/ConstantDesc -/
def k6 : Class := { plain "java/lang/constant/ConstantDesc" (some 0) with
  accessFlags := 1537
  interfaces := #[]
  cf := some (fileOf pool6 1 #[] #[] 1537 3 #[] #[])
  fields := #[]
  methods := #[]
  instanceTypes := #[]
  staticTypes := #[]
  resolved := Array.replicate 37 none
  statics := none }

def pool7 : Array CpInfo := pool [(1, .methodref 2 3), (0, .class_ 4), (0, .nameAndType 5 6), (0, u "java/lang/Object"), (0, u "<init>"), (0, u "()V"), (2, .fieldref 10 11), (0, .class_ 12), (0, .nameAndType 13 14), (0, u "java/lang/String"), (0, u "value"), (0, u "[B"), (0, .fieldref 10 16), (0, .nameAndType 17 18), (0, u "coder"), (0, u "B"), (2, u "hash"), (0, u "I"), (2, u "hashIsZero"), (0, u "Z"), (0, .methodref 10 28), (0, .nameAndType 5 29), (0, u "([CIILjava/lang/Void;)V"), (8, .fieldref 10 39), (0, .nameAndType 40 26), (0, u "COMPACT_STRINGS"), (1, .class_ 44), (1, u "java/lang/StringUTF16"), (0, u "compress"), (1, .methodref 42 48), (0, .nameAndType 49 50), (0, u "coderFromArrayLen"), (0, u "([BI)B"), (126, .methodref 42 178), (0, .nameAndType 45 179), (0, u "([CII)[B"), (395, .class_ 576), (0, u "java/lang/CharSequence"), (22, u "CASE_INSENSITIVE_ORDER"), (0, u "Ljava/util/Comparator;"), (409, u "([C)V"), (90, u "serialPersistentFields"), (0, u "[Ljava/io/ObjectStreamField;"), (0, .class_ 1104), (0, u "java/lang/String$CaseInsensitiveComparator"), (1, .class_ 1107), (0, u "java/io/Serializable"), (0, .class_ 1109), (0, u "java/lang/Comparable"), (0, .class_ 1111), (0, u "java/lang/constant/Constable"), (0, .class_ 1113), (0, u "java/lang/constant/ConstantDesc"), (2, u "serialVersionUID"), (0, u "J"), (3, u "REPL"), (0, u "C"), (2, u "LATIN1"), (1, u "UTF16")] 323

def k7m0 : Method := { name := "<init>", desc := "()V", sig := { parameters := [], returnType := none }, accessFlags := 1, code := none }
def k7c1 : Code := { maxStack := 5, maxLocals := 2, code := jdk_42_method_3_code, exceptionTable := #[], attributes := #[] }
def k7m1 : Method := { name := "<init>", desc := "([C)V", sig := { parameters := [(.array .char)], returnType := none }, accessFlags := 1, code := some k7c1 }
def k7c2 : Code := { maxStack := 4, maxLocals := 6, code := jdk_42_method_149_code, exceptionTable := #[], attributes := #[] }
def k7m2 : Method := { name := "<init>", desc := "([CIILjava/lang/Void;)V", sig := { parameters := [(.array .char), .int, .int, (.object "java/lang/Void")], returnType := none }, accessFlags := 2, code := some k7c2 }
/-- java/lang/String -/
def k7 : Class := { plain "java/lang/String" (some 0) with
  accessFlags := 49
  interfaces := #[2, 3, 4, 5, 6]
  cf := some (fileOf pool7 10 #[.nestMembers #[1103]] #[{ accessFlags := 1, nameIndex := 5, descriptorIndex := 6, attributes := #[] }, { accessFlags := 1, nameIndex := 5, descriptorIndex := 1010, attributes := #[] }, { accessFlags := 2, nameIndex := 5, descriptorIndex := 29, attributes := #[] }] 49 2 #[1106, 1108, 575, 1110, 1112] #[{ accessFlags := 18, nameIndex := 13, descriptorIndex := 14, attributes := #[] }, { accessFlags := 18, nameIndex := 17, descriptorIndex := 18, attributes := #[] }, { accessFlags := 2, nameIndex := 21, descriptorIndex := 22, attributes := #[] }, { accessFlags := 2, nameIndex := 25, descriptorIndex := 26, attributes := #[] }, { accessFlags := 26, nameIndex := 1116, descriptorIndex := 1117, attributes := #[] }, { accessFlags := 24, nameIndex := 40, descriptorIndex := 26, attributes := #[] }, { accessFlags := 26, nameIndex := 1101, descriptorIndex := 1102, attributes := #[] }, { accessFlags := 26, nameIndex := 1121, descriptorIndex := 1122, attributes := #[] }, { accessFlags := 25, nameIndex := 599, descriptorIndex := 600, attributes := #[] }, { accessFlags := 24, nameIndex := 1125, descriptorIndex := 18, attributes := #[] }, { accessFlags := 24, nameIndex := 1127, descriptorIndex := 18, attributes := #[] }])
  fields := #[{ name := "value", type := (.array .byte), accessFlags := 18, slot := 0, constantValue := 0 }, { name := "coder", type := .byte, accessFlags := 18, slot := 1, constantValue := 0 }, { name := "hash", type := .int, accessFlags := 2, slot := 2, constantValue := 0 }, { name := "hashIsZero", type := .boolean, accessFlags := 2, slot := 3, constantValue := 0 }, { name := "serialVersionUID", type := .long, accessFlags := 26, slot := 0, constantValue := 0 }, { name := "COMPACT_STRINGS", type := .boolean, accessFlags := 24, slot := 1, constantValue := 0 }, { name := "serialPersistentFields", type := (.array (.object "java/io/ObjectStreamField")), accessFlags := 26, slot := 2, constantValue := 0 }, { name := "REPL", type := .char, accessFlags := 26, slot := 3, constantValue := 0 }, { name := "CASE_INSENSITIVE_ORDER", type := (.object "java/util/Comparator"), accessFlags := 25, slot := 4, constantValue := 0 }, { name := "LATIN1", type := .byte, accessFlags := 24, slot := 5, constantValue := 0 }, { name := "UTF16", type := .byte, accessFlags := 24, slot := 6, constantValue := 0 }]
  methods := #[k7m0, k7m1, k7m2]
  instanceTypes := #[(.array .byte), .byte, .int, .boolean]
  staticTypes := #[.long, .boolean, (.array (.object "java/io/ObjectStreamField")), .char, (.object "java/util/Comparator"), .byte, .byte]
  resolved := Array.replicate 1451 none
  statics := some 0 }

def pool8 : Array CpInfo := pool [(6, .class_ 8), (1, u "java/lang/Object"), (0, u "<init>"), (0, u "()V"), (1, .class_ 14), (1, u "java/lang/StringUTF16"), (31, u "$assertionsDisabled"), (0, u "Z"), (13, u "HI_BYTE_SHIFT"), (0, u "I"), (2, u "LO_BYTE_SHIFT"), (49, .methodref 12 116), (0, .nameAndType 117 118), (0, u "compress"), (0, u "([CI[BII)I"), (3, u "([CII)[B"), (138, u "coderFromArrayLen"), (0, u "([BI)B"), (106, .class_ 371), (1, u "java/lang/StringUTF16$LinesSpliterator"), (58, u "MAX_LENGTH"), (196, .class_ 628), (0, u "java/lang/StringUTF16$CodePointsSpliterator"), (0, .class_ 630), (0, u "java/lang/StringUTF16$CharsSpliterator")] 4

def k8m0 : Method := { name := "<init>", desc := "()V", sig := { parameters := [], returnType := none }, accessFlags := 0, code := none }
def k8c1 : Code := { maxStack := 2, maxLocals := 2, code := jdk_52_method_15_code, exceptionTable := #[], attributes := #[] }
def k8m1 : Method := { name := "coderFromArrayLen", desc := "([BI)B", sig := { parameters := [(.array .byte), .int], returnType := some .byte }, accessFlags := 8, code := some k8c1 }
def k8c2 : Code := { maxStack := 5, maxLocals := 6, code := jdk_52_method_16_code, exceptionTable := #[], attributes := #[] }
def k8m2 : Method := { name := "compress", desc := "([CII)[B", sig := { parameters := [(.array .char), .int, .int], returnType := some (.array .byte) }, accessFlags := 9, code := some k8c2 }
def k8c3 : Code := { maxStack := 3, maxLocals := 7, code := jdk_52_method_21_code, exceptionTable := #[], attributes := #[] }
def k8m3 : Method := { name := "compress", desc := "([CI[BII)I", sig := { parameters := [(.array .char), .int, (.array .byte), .int, .int], returnType := some .int }, accessFlags := 9, code := some k8c3 }
/-- java/lang/StringUTF16 -/
def k8 : Class := { plain "java/lang/StringUTF16" (some 0) with
  accessFlags := 48
  interfaces := #[]
  cf := some (fileOf pool8 12 #[.nestMembers #[627, 629, 369]] #[{ accessFlags := 0, nameIndex := 9, descriptorIndex := 10, attributes := #[] }, { accessFlags := 8, nameIndex := 261, descriptorIndex := 262, attributes := #[] }, { accessFlags := 9, nameIndex := 117, descriptorIndex := 122, attributes := #[] }, { accessFlags := 9, nameIndex := 117, descriptorIndex := 118, attributes := #[] }] 48 6 #[] #[{ accessFlags := 26, nameIndex := 61, descriptorIndex := 62, attributes := #[] }, { accessFlags := 26, nameIndex := 65, descriptorIndex := 62, attributes := #[] }, { accessFlags := 24, nameIndex := 430, descriptorIndex := 62, attributes := #[] }, { accessFlags := 4120, nameIndex := 46, descriptorIndex := 47, attributes := #[] }])
  fields := #[{ name := "HI_BYTE_SHIFT", type := .int, accessFlags := 26, slot := 0, constantValue := 0 }, { name := "LO_BYTE_SHIFT", type := .int, accessFlags := 26, slot := 1, constantValue := 0 }, { name := "MAX_LENGTH", type := .int, accessFlags := 24, slot := 2, constantValue := 0 }, { name := "$assertionsDisabled", type := .boolean, accessFlags := 4120, slot := 3, constantValue := 0 }]
  methods := #[k8m0, k8m1, k8m2, k8m3]
  instanceTypes := #[]
  staticTypes := #[.int, .int, .int, .boolean]
  resolved := Array.replicate 635 none
  statics := none }

def pool9 : Array CpInfo := pool [(1, .methodref 2 3), (0, .class_ 4), (0, .nameAndType 5 6), (0, u "java/lang/Object"), (0, u "<init>"), (0, u "()V"), (0, .class_ 8), (0, u "java/lang/Record")] 13

def k9c0 : Code := { maxStack := 1, maxLocals := 1, code := jdk_30_method_1_code, exceptionTable := #[], attributes := #[] }
def k9m0 : Method := { name := "<init>", desc := "()V", sig := { parameters := [], returnType := none }, accessFlags := 4, code := some k9c0 }
/-- java/lang/Record -/
def k9 : Class := { plain "java/lang/Record" (some 0) with
  accessFlags := 1057
  interfaces := #[]
  cf := some (fileOf pool9 7 #[] #[{ accessFlags := 4, nameIndex := 5, descriptorIndex := 6, attributes := #[] }] 1057 2 #[] #[])
  fields := #[]
  methods := #[k9m0]
  instanceTypes := #[]
  staticTypes := #[]
  resolved := Array.replicate 22 none
  statics := none }

def pool10 : Array CpInfo := pool [(1, .methodref 2 3), (0, .class_ 4), (0, .nameAndType 5 6), (0, u "java/lang/Record"), (0, u "<init>"), (0, u "()V"), (0, .interfaceMethodref 8 9), (0, .class_ 10), (0, .nameAndType 11 12), (0, u "java/util/List"), (0, u "copyOf"), (0, u "(Ljava/util/Collection;)Ljava/util/List;"), (0, .interfaceMethodref 8 14), (0, .nameAndType 15 16), (0, u "isEmpty"), (0, u "()Z"), (9, .fieldref 27 28), (0, .class_ 29), (0, .nameAndType 30 31), (0, u "com/example/sumgen/sumgen/model/SumType"), (0, u "name"), (0, u "Ljava/lang/String;"), (0, .fieldref 27 33), (0, .nameAndType 34 31), (0, u "tag"), (0, .fieldref 27 36), (0, .nameAndType 37 38), (0, u "commonFields"), (0, u "Ljava/util/List;"), (0, .fieldref 27 40), (0, .nameAndType 41 38), (0, u "variants"), (0, .fieldref 27 43), (0, .nameAndType 44 45), (0, u "place"), (0, u "Lcom/example/sumgen/sumgen/model/Place;"), (0, .fieldref 27 47), (0, .nameAndType 48 45), (0, u "tagPlace"), (43, u "ID"), (3, u "POSITION"), (2, u "ITEM"), (2, u "(Ljava/lang/String;Ljava/lang/String;Ljava/util/List;Ljava/util/List;Lcom/example/sumgen/sumgen/model/Place;Lcom/example/sumgen/sumgen/model/Place;)V")] 49

def k10c0 : Code := { maxStack := 3, maxLocals := 7, code := prog_25_method_1_code, exceptionTable := #[], attributes := #[] }
def k10m0 : Method := { name := "<init>", desc := "(Ljava/lang/String;Ljava/lang/String;Ljava/util/List;Ljava/util/List;Lcom/example/sumgen/sumgen/model/Place;Lcom/example/sumgen/sumgen/model/Place;)V", sig := { parameters := [(.object "java/lang/String"), (.object "java/lang/String"), (.object "java/util/List"), (.object "java/util/List"), (.object "com/example/sumgen/sumgen/model/Place"), (.object "com/example/sumgen/sumgen/model/Place")], returnType := none }, accessFlags := 1, code := some k10c0 }
/-- com/example/sumgen/sumgen/model/SumType -/
def k10 : Class := { plain "com/example/sumgen/sumgen/model/SumType" (some 9) with
  accessFlags := 49
  interfaces := #[]
  cf := some (fileOf pool10 27 #[] #[{ accessFlags := 1, nameIndex := 5, descriptorIndex := 102, attributes := #[] }] 49 2 #[] #[{ accessFlags := 18, nameIndex := 30, descriptorIndex := 31, attributes := #[] }, { accessFlags := 18, nameIndex := 34, descriptorIndex := 31, attributes := #[] }, { accessFlags := 18, nameIndex := 37, descriptorIndex := 38, attributes := #[] }, { accessFlags := 18, nameIndex := 41, descriptorIndex := 38, attributes := #[] }, { accessFlags := 18, nameIndex := 44, descriptorIndex := 45, attributes := #[] }, { accessFlags := 18, nameIndex := 48, descriptorIndex := 45, attributes := #[] }, { accessFlags := 25, nameIndex := 92, descriptorIndex := 31, attributes := #[] }, { accessFlags := 25, nameIndex := 96, descriptorIndex := 31, attributes := #[] }, { accessFlags := 25, nameIndex := 99, descriptorIndex := 31, attributes := #[] }])
  fields := #[{ name := "name", type := (.object "java/lang/String"), accessFlags := 18, slot := 0, constantValue := 0 }, { name := "tag", type := (.object "java/lang/String"), accessFlags := 18, slot := 1, constantValue := 0 }, { name := "commonFields", type := (.object "java/util/List"), accessFlags := 18, slot := 2, constantValue := 0 }, { name := "variants", type := (.object "java/util/List"), accessFlags := 18, slot := 3, constantValue := 0 }, { name := "place", type := (.object "com/example/sumgen/sumgen/model/Place"), accessFlags := 18, slot := 4, constantValue := 0 }, { name := "tagPlace", type := (.object "com/example/sumgen/sumgen/model/Place"), accessFlags := 18, slot := 5, constantValue := 0 }, { name := "ID", type := (.object "java/lang/String"), accessFlags := 25, slot := 0, constantValue := 0 }, { name := "POSITION", type := (.object "java/lang/String"), accessFlags := 25, slot := 1, constantValue := 0 }, { name := "ITEM", type := (.object "java/lang/String"), accessFlags := 25, slot := 2, constantValue := 0 }]
  methods := #[k10m0]
  instanceTypes := #[(.object "java/lang/String"), (.object "java/lang/String"), (.object "java/util/List"), (.object "java/util/List"), (.object "com/example/sumgen/sumgen/model/Place"), (.object "com/example/sumgen/sumgen/model/Place")]
  staticTypes := #[(.object "java/lang/String"), (.object "java/lang/String"), (.object "java/lang/String")]
  resolved := Array.replicate 152 none
  statics := none }

def pool11 : Array CpInfo := pool [(8, .class_ 10), (1, u "java/lang/Iterable"), (24, .class_ 36), (0, u "java/lang/Object")] 25

/-- java/lang/Iterable -/
def k11 : Class := { plain "java/lang/Iterable" (some 0) with
  accessFlags := 1537
  interfaces := #[]
  cf := some (fileOf pool11 8 #[] #[] 1537 35 #[] #[])
  fields := #[]
  methods := #[]
  instanceTypes := #[]
  staticTypes := #[]
  resolved := Array.replicate 62 none
  statics := none }

def pool12 : Array CpInfo := pool [(10, .class_ 12), (1, u "java/util/Collection"), (0, u "toArray"), (16, u "()Z"), (29, .class_ 61), (0, u "java/lang/Object"), (0, .class_ 63), (0, u "java/lang/Iterable"), (2, u "isEmpty"), (3, u "()[Ljava/lang/Object;")] 44

def k12m0 : Method := { name := "isEmpty", desc := "()Z", sig := { parameters := [], returnType := some .boolean }, accessFlags := 1025, code := none }
def k12m1 : Method := { name := "toArray", desc := "()[Ljava/lang/Object;", sig := { parameters := [], returnType := some (.array (.object "java/lang/Object")) }, accessFlags := 1025, code := none }
/-- java/util/Collection -/
def k12 : Class := { plain "java/util/Collection" (some 0) with
  accessFlags := 1537
  interfaces := #[11]
  cf := some (fileOf pool12 10 #[] #[{ accessFlags := 1025, nameIndex := 66, descriptorIndex := 30, attributes := #[] }, { accessFlags := 1025, nameIndex := 13, descriptorIndex := 70, attributes := #[] }] 1537 60 #[62] #[])
  fields := #[]
  methods := #[k12m0, k12m1]
  instanceTypes := #[]
  staticTypes := #[]
  resolved := Array.replicate 115 none
  statics := none }

def pool13 : Array CpInfo := pool [(1, .methodref 2 3), (0, .class_ 4), (0, .nameAndType 5 6), (0, u "java/lang/Object"), (0, u "<init>"), (0, u "()V"), (1, .class_ 10), (1, u "java/util/AbstractCollection"), (66, .class_ 78), (0, u "java/util/Collection")] 81

def k13c0 : Code := { maxStack := 1, maxLocals := 1, code := jdk_22_method_1_code, exceptionTable := #[], attributes := #[] }
def k13m0 : Method := { name := "<init>", desc := "()V", sig := { parameters := [], returnType := none }, accessFlags := 4, code := some k13c0 }
/-- java/util/AbstractCollection -/
def k13 : Class := { plain "java/util/AbstractCollection" (some 0) with
  accessFlags := 1057
  interfaces := #[12]
  cf := some (fileOf pool13 8 #[] #[{ accessFlags := 4, nameIndex := 5, descriptorIndex := 6, attributes := #[] }] 1057 2 #[77] #[])
  fields := #[]
  methods := #[k13m0]
  instanceTypes := #[]
  staticTypes := #[]
  resolved := Array.replicate 160 none
  statics := none }

def pool14 : Array CpInfo := pool [(8, .class_ 10), (1, u "java/util/SequencedCollection"), (15, .class_ 27), (0, u "java/lang/Object"), (0, .class_ 29), (0, u "java/util/Collection")] 27

/-- java/util/SequencedCollection -/
def k14 : Class := { plain "java/util/SequencedCollection" (some 0) with
  accessFlags := 1537
  interfaces := #[12]
  cf := some (fileOf pool14 8 #[] #[] 1537 26 #[28] #[])
  fields := #[]
  methods := #[]
  instanceTypes := #[]
  staticTypes := #[]
  resolved := Array.replicate 57 none
  statics := none }

def pool15 : Array CpInfo := pool [(8, .class_ 10), (1, u "java/util/List"), (7, u "()Z"), (12, u "(Ljava/lang/Object;)V"), (16, u "<init>"), (18, u "isEmpty"), (20, u "of"), (1, .fieldref 91 92), (0, .class_ 93), (0, .nameAndType 94 95), (0, u "java/util/ImmutableCollections"), (0, u "EMPTY_LIST"), (0, u "Ljava/util/ImmutableCollections$ListN;"), (0, .class_ 97), (0, u "java/util/ImmutableCollections$List12"), (0, .methodref 96 99), (0, .nameAndType 48 31), (3, .class_ 104), (0, u "java/lang/Object"), (3, u "([Ljava/lang/Object;)Ljava/util/List;"), (3, .methodref 91 113), (0, .nameAndType 114 115), (0, u "listCopy"), (0, u "(Ljava/util/Collection;)Ljava/util/List;"), (3, u "()Ljava/util/List;"), (0, .class_ 121), (0, u "java/util/SequencedCollection"), (112, u "copyOf")] 16

def k15m0 : Method := { name := "isEmpty", desc := "()Z", sig := { parameters := [], returnType := some .boolean }, accessFlags := 1025, code := none }
def k15c1 : Code := { maxStack := 1, maxLocals := 0, code := jdk_40_method_36_code, exceptionTable := #[], attributes := #[] }
def k15m1 : Method := { name := "of", desc := "()Ljava/util/List;", sig := { parameters := [], returnType := some (.object "java/util/List") }, accessFlags := 9, code := some k15c1 }
def k15c2 : Code := { maxStack := 5, maxLocals := 2, code := jdk_40_method_47_code, exceptionTable := #[], attributes := #[] }
def k15m2 : Method := { name := "of", desc := "([Ljava/lang/Object;)Ljava/util/List;", sig := { parameters := [(.array (.object "java/lang/Object"))], returnType := some (.object "java/util/List") }, accessFlags := 137, code := some k15c2 }
def k15c3 : Code := { maxStack := 1, maxLocals := 1, code := jdk_40_method_48_code, exceptionTable := #[], attributes := #[] }
def k15m3 : Method := { name := "copyOf", desc := "(Ljava/util/Collection;)Ljava/util/List;", sig := { parameters := [(.object "java/util/Collection")], returnType := some (.object "java/util/List") }, accessFlags := 9, code := some k15c3 }
/-- java/util/List -/
def k15 : Class := { plain "java/util/List" (some 0) with
  accessFlags := 1537
  interfaces := #[14]
  cf := some (fileOf pool15 8 #[] #[{ accessFlags := 1025, nameIndex := 67, descriptorIndex := 18, attributes := #[] }, { accessFlags := 9, nameIndex := 88, descriptorIndex := 119, attributes := #[] }, { accessFlags := 137, nameIndex := 88, descriptorIndex := 108, attributes := #[] }, { accessFlags := 9, nameIndex := 234, descriptorIndex := 115, attributes := #[] }] 1537 103 #[120] #[])
  fields := #[]
  methods := #[k15m0, k15m1, k15m2, k15m3]
  instanceTypes := #[]
  staticTypes := #[]
  resolved := Array.replicate 251 none
  statics := none }

def pool16 : Array CpInfo := pool [(1, .methodref 2 3), (0, .class_ 4), (0, .nameAndType 5 6), (0, u "java/util/AbstractCollection"), (0, u "<init>"), (0, u "()V"), (0, .fieldref 8 9), (0, .class_ 10), (0, .nameAndType 11 12), (0, u "java/util/AbstractList"), (0, u "modCount"), (0, u "I"), (64, .class_ 78), (0, u "java/util/AbstractList$Itr"), (3, .class_ 83), (0, u "java/util/AbstractList$ListItr"), (9, .class_ 94), (0, u "java/util/AbstractList$RandomAccessSubList"), (3, .class_ 99), (0, u "java/util/AbstractList$SubList"), (33, .class_ 134), (0, u "java/util/List"), (73, .class_ 209), (0, u "java/util/AbstractList$SubList$1"), (0, .class_ 211), (0, u "java/util/AbstractList$RandomAccessSpliterator")] 6

def k16c0 : Code := { maxStack := 2, maxLocals := 1, code := jdk_39_method_1_code, exceptionTable := #[], attributes := #[] }
def k16m0 : Method := { name := "<init>", desc := "()V", sig := { parameters := [], returnType := none }, accessFlags := 4, code := some k16c0 }
/-- java/util/AbstractList -/
def k16 : Class := { plain "java/util/AbstractList" (some 13) with
  accessFlags := 1057
  interfaces := #[15]
  cf := some (fileOf pool16 8 #[.nestMembers #[93, 98, 208, 210, 82, 77]] #[{ accessFlags := 4, nameIndex := 5, descriptorIndex := 6, attributes := #[] }] 1057 2 #[133] #[{ accessFlags := 132, nameIndex := 11, descriptorIndex := 12, attributes := #[] }])
  fields := #[{ name := "modCount", type := .int, accessFlags := 132, slot := 0, constantValue := 0 }]
  methods := #[k16m0]
  instanceTypes := #[.int]
  staticTypes := #[]
  resolved := Array.replicate 218 none
  statics := none }

def pool17 : Array CpInfo := pool [(1, .class_ 2), (0, u "java/util/RandomAccess"), (0, .class_ 4), (0, u "java/lang/Object")] 2

/-- java/util/RandomAccess -/
def k17 : Class := { plain "java/util/RandomAccess" (some 0) with
  accessFlags := 1537
  interfaces := #[]
  cf := some (fileOf pool17 1 #[] #[] 1537 3 #[] #[])
  fields := #[]
  methods := #[]
  instanceTypes := #[]
  staticTypes := #[]
  resolved := Array.replicate 7 none
  statics := none }

def pool18 : Array CpInfo := pool [(1, .class_ 2), (0, u "java/lang/Cloneable"), (0, .class_ 4), (0, u "java/lang/Object")] 2

/-- java/lang/Cloneable -/
def k18 : Class := { plain "java/lang/Cloneable" (some 0) with
  accessFlags := 1537
  interfaces := #[]
  cf := some (fileOf pool18 1 #[] #[] 1537 3 #[] #[])
  fields := #[]
  methods := #[]
  instanceTypes := #[]
  staticTypes := #[]
  resolved := Array.replicate 7 none
  statics := none }

def pool19 : Array CpInfo := pool [(1, .methodref 2 3), (0, .class_ 4), (0, .nameAndType 5 6), (0, u "java/util/AbstractList"), (0, u "<init>"), (0, u "()V"), (0, .class_ 8), (0, u "java/lang/Object"), (0, .fieldref 10 11), (0, .class_ 12), (0, .nameAndType 13 14), (0, u "java/util/ArrayList"), (0, u "elementData"), (0, u "[Ljava/lang/Object;"), (2, u "EMPTY_ELEMENTDATA"), (21, .fieldref 10 40), (0, .nameAndType 41 14), (0, u "DEFAULTCAPACITY_EMPTY_ELEMENTDATA"), (4, u "toArray"), (0, u "()[Ljava/lang/Object;"), (0, .fieldref 10 49), (0, .nameAndType 50 51), (0, u "size"), (0, u "I"), (6, .class_ 60), (1, u "java/util/Arrays"), (0, u "copyOf"), (1, .fieldref 10 64), (0, .nameAndType 65 51), (0, u "modCount"), (0, .methodref 58 67), (0, .nameAndType 61 68), (0, u "([Ljava/lang/Object;I)[Ljava/lang/Object;"), (0, .methodref 10 70), (0, .nameAndType 71 72), (0, u "grow"), (0, u "(I)[Ljava/lang/Object;"), (6, .methodref 80 81), (0, .class_ 82), (0, .nameAndType 83 84), (0, u "java/lang/Math"), (0, u "max"), (0, u "(II)I"), (11, u "(Ljava/lang/Object;)Z"), (32, .methodref 10 130), (0, .nameAndType 71 47), (0, .methodref 10 132), (0, .nameAndType 133 134), (0, u "add"), (0, u "(Ljava/lang/Object;[Ljava/lang/Object;I)V"), (13, .class_ 149), (0, u "java/util/List"), (23, u "()Z"), (88, .class_ 263), (0, u "java/util/ArrayList$ListItr"), (3, .class_ 268), (0, u "java/util/ArrayList$Itr"), (7, .class_ 277), (0, u "java/util/ArrayList$SubList"), (12, .class_ 291), (0, u "java/util/ArrayList$ArrayListSpliterator"), (37, .class_ 330), (0, u "java/util/RandomAccess"), (0, .class_ 332), (0, u "java/lang/Cloneable"), (0, .class_ 334), (0, u "java/io/Serializable"), (0, u "serialVersionUID"), (0, u "J"), (3, u "DEFAULT_CAPACITY"), (22, u "isEmpty"), (136, .class_ 501), (0, u "java/util/ArrayList$SubList$2"), (0, .class_ 503), (0, u "java/util/ArrayList$SubList$1")] 5

def k19c0 : Code := { maxStack := 2, maxLocals := 1, code := jdk_38_method_2_code, exceptionTable := #[], attributes := #[] }
def k19m0 : Method := { name := "<init>", desc := "()V", sig := { parameters := [], returnType := none }, accessFlags := 1, code := some k19c0 }
def k19c1 : Code := { maxStack := 4, maxLocals := 4, code := jdk_38_method_6_code, exceptionTable := #[], attributes := #[] }
def k19m1 : Method := { name := "grow", desc := "(I)[Ljava/lang/Object;", sig := { parameters := [.int], returnType := some (.array (.object "java/lang/Object")) }, accessFlags := 2, code := some k19c1 }
def k19c2 : Code := { maxStack := 3, maxLocals := 1, code := jdk_38_method_7_code, exceptionTable := #[], attributes := #[] }
def k19m2 : Method := { name := "grow", desc := "()[Ljava/lang/Object;", sig := { parameters := [], returnType := some (.array (.object "java/lang/Object")) }, accessFlags := 2, code := some k19c2 }
def k19c3 : Code := { maxStack := 1, maxLocals := 1, code := jdk_38_method_9_code, exceptionTable := #[], attributes := #[] }
def k19m3 : Method := { name := "isEmpty", desc := "()Z", sig := { parameters := [], returnType := some .boolean }, accessFlags := 1, code := some k19c3 }
def k19c4 : Code := { maxStack := 2, maxLocals := 1, code := jdk_38_method_16_code, exceptionTable := #[], attributes := #[] }
def k19m4 : Method := { name := "toArray", desc := "()[Ljava/lang/Object;", sig := { parameters := [], returnType := some (.array (.object "java/lang/Object")) }, accessFlags := 1, code := some k19c4 }
def k19c5 : Code := { maxStack := 3, maxLocals := 4, code := jdk_38_method_24_code, exceptionTable := #[], attributes := #[] }
def k19m5 : Method := { name := "add", desc := "(Ljava/lang/Object;[Ljava/lang/Object;I)V", sig := { parameters := [(.object "java/lang/Object"), (.array (.object "java/lang/Object")), .int], returnType := none }, accessFlags := 2, code := some k19c5 }
def k19c6 : Code := { maxStack := 4, maxLocals := 2, code := jdk_38_method_25_code, exceptionTable := #[], attributes := #[] }
def k19m6 : Method := { name := "add", desc := "(Ljava/lang/Object;)Z", sig := { parameters := [(.object "java/lang/Object")], returnType := some .boolean }, accessFlags := 1, code := some k19c6 }
/-- java/util/ArrayList -/
def k19 : Class := { plain "java/util/ArrayList" (some 16) with
  accessFlags := 33
  interfaces := #[15, 17, 18, 2]
  cf := some (fileOf pool19 10 #[.nestMembers #[290, 276, 500, 502, 262, 267]] #[{ accessFlags := 1, nameIndex := 5, descriptorIndex := 6, attributes := #[] }, { accessFlags := 2, nameIndex := 71, descriptorIndex := 72, attributes := #[] }, { accessFlags := 2, nameIndex := 71, descriptorIndex := 47, attributes := #[] }, { accessFlags := 1, nameIndex := 363, descriptorIndex := 173, attributes := #[] }, { accessFlags := 1, nameIndex := 46, descriptorIndex := 47, attributes := #[] }, { accessFlags := 2, nameIndex := 133, descriptorIndex := 134, attributes := #[] }, { accessFlags := 1, nameIndex := 133, descriptorIndex := 96, attributes := #[] }] 33 2 #[148, 329, 331, 333] #[{ accessFlags := 26, nameIndex := 335, descriptorIndex := 336, attributes := #[] }, { accessFlags := 26, nameIndex := 340, descriptorIndex := 51, attributes := #[] }, { accessFlags := 26, nameIndex := 17, descriptorIndex := 14, attributes := #[] }, { accessFlags := 26, nameIndex := 41, descriptorIndex := 14, attributes := #[] }, { accessFlags := 128, nameIndex := 13, descriptorIndex := 14, attributes := #[] }, { accessFlags := 2, nameIndex := 50, descriptorIndex := 51, attributes := #[] }])
  fields := #[{ name := "serialVersionUID", type := .long, accessFlags := 26, slot := 0, constantValue := 0 }, { name := "DEFAULT_CAPACITY", type := .int, accessFlags := 26, slot := 1, constantValue := 0 }, { name := "EMPTY_ELEMENTDATA", type := (.array (.object "java/lang/Object")), accessFlags := 26, slot := 2, constantValue := 0 }, { name := "DEFAULTCAPACITY_EMPTY_ELEMENTDATA", type := (.array (.object "java/lang/Object")), accessFlags := 26, slot := 3, constantValue := 0 }, { name := "elementData", type := (.array (.object "java/lang/Object")), accessFlags := 128, slot := 1, constantValue := 0 }, { name := "size", type := .int, accessFlags := 2, slot := 2, constantValue := 0 }]
  methods := #[k19m0, k19m1, k19m2, k19m3, k19m4, k19m5, k19m6]
  instanceTypes := #[.int, (.array (.object "java/lang/Object")), .int]
  staticTypes := #[.long, .int, (.array (.object "java/lang/Object")), (.array (.object "java/lang/Object"))]
  resolved := Array.replicate 509 none
  statics := some 1 }

def pool20 : Array CpInfo := pool [(2, .class_ 4), (1, u "java/lang/Object"), (0, u "<init>"), (0, u "()V"), (3, .class_ 11), (0, u "java/util/ImmutableCollections$List12"), (0, .class_ 13), (0, u "java/util/ImmutableCollections$ListN"), (3, u "Z"), (0, .class_ 19), (0, u "java/util/List"), (0, .interfaceMethodref 21 22), (0, .class_ 23), (0, .nameAndType 24 25), (0, u "java/util/Collection"), (0, u "isEmpty"), (0, u "()Z"), (0, .interfaceMethodref 18 27), (0, .nameAndType 28 29), (0, u "of"), (0, u "()Ljava/util/List;"), (0, .interfaceMethodref 21 31), (0, .nameAndType 32 33), (0, u "toArray"), (0, u "()[Ljava/lang/Object;"), (0, .interfaceMethodref 18 35), (0, .nameAndType 28 36), (0, u "([Ljava/lang/Object;)Ljava/util/List;"), (10, .class_ 49), (1, u "java/util/ImmutableCollections"), (0, u "$assertionsDisabled"), (5, u "[Ljava/lang/Object;"), (5, u "EMPTY_LIST"), (0, u "Ljava/util/ImmutableCollections$ListN;"), (8, u "EMPTY_LIST_NULLS"), (22, u "SALT32L"), (0, u "J"), (2, u "REVERSE"), (6, u "archivedObjects"), (2, u "EMPTY"), (0, u "Ljava/lang/Object;"), (0, .class_ 112), (0, u "java/util/ImmutableCollections$SetN"), (5, u "EMPTY_SET"), (0, u "Ljava/util/ImmutableCollections$SetN;"), (0, .class_ 121), (0, u "java/util/ImmutableCollections$MapN"), (3, u "EMPTY_MAP"), (0, u "Ljava/util/ImmutableCollections$MapN;"), (4, u "EXPAND_FACTOR"), (0, u "I"), (9, u "listCopy"), (0, u "(Ljava/util/Collection;)Ljava/util/List;"), (25, .class_ 170), (0, u "java/util/ImmutableCollections$MapN$MapNIterator"), (0, .class_ 172), (0, u "java/util/ImmutableCollections$MapN$1"), (0, .class_ 174), (0, u "java/util/ImmutableCollections$Map1"), (0, .class_ 176), (0, u "java/util/ImmutableCollections$AbstractImmutableMap"), (0, .class_ 178), (0, u "java/util/ImmutableCollections$SetN$SetNIterator"), (0, .class_ 180), (0, u "java/util/ImmutableCollections$Set12"), (0, .class_ 182), (0, u "java/util/ImmutableCollections$Set12$1"), (0, .class_ 184), (0, u "java/util/ImmutableCollections$AbstractImmutableSet"), (0, .class_ 186), (0, u "java/util/ImmutableCollections$SubList"), (0, .class_ 188), (0, u "java/util/ImmutableCollections$ListItr"), (0, .class_ 190), (0, u "java/util/ImmutableCollections$AbstractImmutableList"), (0, .class_ 192), (0, u "java/util/ImmutableCollections$AbstractImmutableCollection"), (0, .class_ 194), (0, u "java/util/ImmutableCollections$Access"), (0, .class_ 196), (0, u "java/util/ImmutableCollections$Access$1")] 16

def k20m0 : Method := { name := "<init>", desc := "()V", sig := { parameters := [], returnType := none }, accessFlags := 2, code := none }
def k20c1 : Code := { maxStack := 1, maxLocals := 2, code := jdk_56_method_3_code, exceptionTable := #[], attributes := #[] }
def k20m1 : Method := { name := "listCopy", desc := "(Ljava/util/Collection;)Ljava/util/List;", sig := { parameters := [(.object "java/util/Collection")], returnType := some (.object "java/util/List") }, accessFlags := 8, code := some k20c1 }
/-- java/util/ImmutableCollections -/
def k20 : Class := { plain "java/util/ImmutableCollections" (some 0) with
  accessFlags := 32
  interfaces := #[]
  cf := some (fileOf pool20 47 #[.nestMembers #[120, 169, 171, 173, 175, 111, 177, 179, 181, 183, 12, 10, 185, 187, 189, 191, 193, 195]] #[{ accessFlags := 2, nameIndex := 5, descriptorIndex := 6, attributes := #[] }, { accessFlags := 8, nameIndex := 142, descriptorIndex := 143, attributes := #[] }] 32 2 #[] #[{ accessFlags := 26, nameIndex := 95, descriptorIndex := 96, attributes := #[] }, { accessFlags := 26, nameIndex := 99, descriptorIndex := 17, attributes := #[] }, { accessFlags := 10, nameIndex := 106, descriptorIndex := 56, attributes := #[] }, { accessFlags := 26, nameIndex := 109, descriptorIndex := 110, attributes := #[] }, { accessFlags := 24, nameIndex := 62, descriptorIndex := 63, attributes := #[] }, { accessFlags := 24, nameIndex := 72, descriptorIndex := 63, attributes := #[] }, { accessFlags := 24, nameIndex := 118, descriptorIndex := 119, attributes := #[] }, { accessFlags := 24, nameIndex := 125, descriptorIndex := 126, attributes := #[] }, { accessFlags := 24, nameIndex := 131, descriptorIndex := 132, attributes := #[] }, { accessFlags := 4120, nameIndex := 50, descriptorIndex := 17, attributes := #[] }])
  fields := #[{ name := "SALT32L", type := .long, accessFlags := 26, slot := 0, constantValue := 0 }, { name := "REVERSE", type := .boolean, accessFlags := 26, slot := 1, constantValue := 0 }, { name := "archivedObjects", type := (.array (.object "java/lang/Object")), accessFlags := 10, slot := 2, constantValue := 0 }, { name := "EMPTY", type := (.object "java/lang/Object"), accessFlags := 26, slot := 3, constantValue := 0 }, { name := "EMPTY_LIST", type := (.object "java/util/ImmutableCollections$ListN"), accessFlags := 24, slot := 4, constantValue := 0 }, { name := "EMPTY_LIST_NULLS", type := (.object "java/util/ImmutableCollections$ListN"), accessFlags := 24, slot := 5, constantValue := 0 }, { name := "EMPTY_SET", type := (.object "java/util/ImmutableCollections$SetN"), accessFlags := 24, slot := 6, constantValue := 0 }, { name := "EMPTY_MAP", type := (.object "java/util/ImmutableCollections$MapN"), accessFlags := 24, slot := 7, constantValue := 0 }, { name := "EXPAND_FACTOR", type := .int, accessFlags := 24, slot := 8, constantValue := 0 }, { name := "$assertionsDisabled", type := .boolean, accessFlags := 4120, slot := 9, constantValue := 0 }]
  methods := #[k20m0, k20m1]
  instanceTypes := #[]
  staticTypes := #[.long, .boolean, (.array (.object "java/lang/Object")), (.object "java/lang/Object"), (.object "java/util/ImmutableCollections$ListN"), (.object "java/util/ImmutableCollections$ListN"), (.object "java/util/ImmutableCollections$SetN"), (.object "java/util/ImmutableCollections$MapN"), .int, .boolean]
  resolved := Array.replicate 213 none
  statics := some 2 }

def pool21 : Array CpInfo := pool [(1, .methodref 2 3), (0, .class_ 4), (0, .nameAndType 5 6), (0, u "java/util/AbstractCollection"), (0, u "<init>"), (0, u "()V"), (1, .class_ 10), (1, u "java/util/ImmutableCollections"), (2, .class_ 14), (0, u "java/util/ImmutableCollections$AbstractImmutableCollection")] 41

def k21c0 : Code := { maxStack := 1, maxLocals := 1, code := jdk_47_method_1_code, exceptionTable := #[], attributes := #[] }
def k21m0 : Method := { name := "<init>", desc := "()V", sig := { parameters := [], returnType := none }, accessFlags := 0, code := some k21c0 }
/-- java/util/ImmutableCollections$AbstractImmutableCollection -/
def k21 : Class := { plain "java/util/ImmutableCollections$AbstractImmutableCollection" (some 13) with
  accessFlags := 1056
  interfaces := #[]
  cf := some (fileOf pool21 13 #[.nestHost 8] #[{ accessFlags := 0, nameIndex := 5, descriptorIndex := 6, attributes := #[] }] 1056 2 #[] #[])
  fields := #[]
  methods := #[k21m0]
  instanceTypes := #[]
  staticTypes := #[]
  resolved := Array.replicate 56 none
  statics := none }

def pool22 : Array CpInfo := pool [(1, .methodref 2 3), (0, .class_ 4), (0, .nameAndType 5 6), (0, u "java/util/ImmutableCollections$AbstractImmutableCollection"), (0, u "<init>"), (0, u "()V"), (1, .class_ 10), (1, u "java/util/ImmutableCollections"), (3, .class_ 16), (1, u "java/util/ImmutableCollections$AbstractImmutableList"), (60, .class_ 78), (0, u "java/util/List"), (45, .class_ 125), (0, u "java/util/RandomAccess")] 70

def k22c0 : Code := { maxStack := 1, maxLocals := 1, code := jdk_46_method_1_code, exceptionTable := #[], attributes := #[] }
def k22m0 : Method := { name := "<init>", desc := "()V", sig := { parameters := [], returnType := none }, accessFlags := 0, code := some k22c0 }
/-- java/util/ImmutableCollections$AbstractImmutableList -/
def k22 : Class := { plain "java/util/ImmutableCollections$AbstractImmutableList" (some 21) with
  accessFlags := 1056
  interfaces := #[15, 17]
  cf := some (fileOf pool22 14 #[.nestHost 8] #[{ accessFlags := 0, nameIndex := 5, descriptorIndex := 6, attributes := #[] }] 1056 2 #[77, 124] #[])
  fields := #[]
  methods := #[k22m0]
  instanceTypes := #[]
  staticTypes := #[]
  resolved := Array.replicate 196 none
  statics := none }

def pool23 : Array CpInfo := pool [(1, .methodref 2 3), (0, .class_ 4), (0, .nameAndType 5 6), (0, u "java/util/ImmutableCollections$AbstractImmutableList"), (0, u "<init>"), (0, u "()V"), (0, .methodref 8 9), (0, .class_ 10), (0, .nameAndType 11 12), (0, u "java/util/Objects"), (0, u "requireNonNull"), (0, u "(Ljava/lang/Object;)Ljava/lang/Object;"), (0, .fieldref 14 15), (0, .class_ 16), (0, .nameAndType 17 18), (0, u "java/util/ImmutableCollections$List12"), (0, u "e0"), (0, u "Ljava/lang/Object;"), (0, .fieldref 20 21), (0, .class_ 22), (0, .nameAndType 23 18), (0, u "java/util/ImmutableCollections"), (0, u "EMPTY"), (0, .fieldref 14 25), (0, .nameAndType 26 18), (0, u "e1"), (43, .class_ 71), (0, u "java/io/Serializable"), (4, u "(Ljava/lang/Object;)V")] 48

def k23c0 : Code := { maxStack := 2, maxLocals := 2, code := jdk_44_method_1_code, exceptionTable := #[], attributes := #[] }
def k23m0 : Method := { name := "<init>", desc := "(Ljava/lang/Object;)V", sig := { parameters := [(.object "java/lang/Object")], returnType := none }, accessFlags := 0, code := some k23c0 }
/-- java/util/ImmutableCollections$List12 -/
def k23 : Class := { plain "java/util/ImmutableCollections$List12" (some 22) with
  accessFlags := 48
  interfaces := #[2]
  cf := some (fileOf pool23 14 #[.nestHost 20] #[{ accessFlags := 0, nameIndex := 5, descriptorIndex := 76, attributes := #[] }] 48 2 #[70] #[{ accessFlags := 18, nameIndex := 17, descriptorIndex := 18, attributes := #[] }, { accessFlags := 18, nameIndex := 26, descriptorIndex := 18, attributes := #[] }])
  fields := #[{ name := "e0", type := (.object "java/lang/Object"), accessFlags := 18, slot := 0, constantValue := 0 }, { name := "e1", type := (.object "java/lang/Object"), accessFlags := 18, slot := 1, constantValue := 0 }]
  methods := #[k23m0]
  instanceTypes := #[(.object "java/lang/Object"), (.object "java/lang/Object")]
  staticTypes := #[]
  resolved := Array.replicate 125 none
  statics := none }

def pool24 : Array CpInfo := pool [(2, .class_ 4), (1, u "java/util/ImmutableCollections$AbstractImmutableList"), (2, .fieldref 8 9), (0, .class_ 10), (0, .nameAndType 11 12), (0, u "java/util/ImmutableCollections$ListN"), (0, u "elements"), (0, u "[Ljava/lang/Object;"), (2, u "allowNulls"), (0, u "Z"), (42, .class_ 60), (0, u "java/io/Serializable"), (13, u "isEmpty"), (0, u "()Z"), (38, .class_ 115), (0, u "java/util/ImmutableCollections")] 3

def k24c0 : Code := { maxStack := 1, maxLocals := 1, code := jdk_45_method_2_code, exceptionTable := #[], attributes := #[] }
def k24m0 : Method := { name := "isEmpty", desc := "()Z", sig := { parameters := [], returnType := some .boolean }, accessFlags := 1, code := some k24c0 }
/-- java/util/ImmutableCollections$ListN -/
def k24 : Class := { plain "java/util/ImmutableCollections$ListN" (some 22) with
  accessFlags := 48
  interfaces := #[2]
  cf := some (fileOf pool24 8 #[.nestHost 114] #[{ accessFlags := 1, nameIndex := 74, descriptorIndex := 75, attributes := #[] }] 48 2 #[59] #[{ accessFlags := 18, nameIndex := 11, descriptorIndex := 12, attributes := #[] }, { accessFlags := 18, nameIndex := 15, descriptorIndex := 16, attributes := #[] }])
  fields := #[{ name := "elements", type := (.array (.object "java/lang/Object")), accessFlags := 18, slot := 0, constantValue := 0 }, { name := "allowNulls", type := .boolean, accessFlags := 18, slot := 1, constantValue := 0 }]
  methods := #[k24m0]
  instanceTypes := #[(.array (.object "java/lang/Object")), .boolean]
  staticTypes := #[]
  resolved := Array.replicate 119 none
  statics := none }

def pool25 : Array CpInfo := pool [(1, .methodref 2 3), (0, .class_ 4), (0, .nameAndType 5 6), (0, u "java/lang/Record"), (0, u "<init>"), (0, u "()V"), (0, .interfaceMethodref 8 9), (0, .class_ 10), (0, .nameAndType 11 12), (0, u "java/util/List"), (0, u "copyOf"), (0, u "(Ljava/util/Collection;)Ljava/util/List;"), (0, .fieldref 14 15), (0, .class_ 16), (0, .nameAndType 17 18), (0, u "com/example/sumgen/sumgen/sql/Changes$TypeChange"), (0, u "before"), (0, u "Lcom/example/sumgen/sumgen/model/SumType;"), (0, .fieldref 14 20), (0, .nameAndType 21 18), (0, u "after"), (0, .fieldref 14 23), (0, .nameAndType 24 25), (0, u "addedFields"), (0, u "Ljava/util/List;"), (0, .fieldref 14 27), (0, .nameAndType 28 25), (0, u "removedFields"), (0, .fieldref 14 30), (0, .nameAndType 31 25), (0, u "variants"), (0, .fieldref 14 33), (0, .nameAndType 34 25), (0, u "removedVariants"), (2, u "addsType"), (0, u "()Z"), (89, u "(Lcom/example/sumgen/sumgen/model/SumType;Lcom/example/sumgen/sumgen/model/SumType;Ljava/util/List;Ljava/util/List;Ljava/util/List;Ljava/util/List;)V"), (15, .class_ 145), (0, u "com/example/sumgen/sumgen/sql/Changes")] 33

def k25c0 : Code := { maxStack := 2, maxLocals := 7, code := prog_30_method_1_code, exceptionTable := #[], attributes := #[] }
def k25m0 : Method := { name := "<init>", desc := "(Lcom/example/sumgen/sumgen/model/SumType;Lcom/example/sumgen/sumgen/model/SumType;Ljava/util/List;Ljava/util/List;Ljava/util/List;Ljava/util/List;)V", sig := { parameters := [(.object "com/example/sumgen/sumgen/model/SumType"), (.object "com/example/sumgen/sumgen/model/SumType"), (.object "java/util/List"), (.object "java/util/List"), (.object "java/util/List"), (.object "java/util/List")], returnType := none }, accessFlags := 0, code := some k25c0 }
def k25c1 : Code := { maxStack := 1, maxLocals := 1, code := prog_30_method_2_code, exceptionTable := #[], attributes := #[] }
def k25m1 : Method := { name := "addsType", desc := "()Z", sig := { parameters := [], returnType := some .boolean }, accessFlags := 0, code := some k25c1 }
/-- com/example/sumgen/sumgen/sql/Changes$TypeChange -/
def k25 : Class := { plain "com/example/sumgen/sumgen/sql/Changes$TypeChange" (some 9) with
  accessFlags := 48
  interfaces := #[]
  cf := some (fileOf pool25 14 #[.nestHost 144] #[{ accessFlags := 0, nameIndex := 5, descriptorIndex := 128, attributes := #[] }, { accessFlags := 0, nameIndex := 37, descriptorIndex := 38, attributes := #[] }] 48 2 #[] #[{ accessFlags := 18, nameIndex := 17, descriptorIndex := 18, attributes := #[] }, { accessFlags := 18, nameIndex := 21, descriptorIndex := 18, attributes := #[] }, { accessFlags := 18, nameIndex := 24, descriptorIndex := 25, attributes := #[] }, { accessFlags := 18, nameIndex := 28, descriptorIndex := 25, attributes := #[] }, { accessFlags := 18, nameIndex := 31, descriptorIndex := 25, attributes := #[] }, { accessFlags := 18, nameIndex := 34, descriptorIndex := 25, attributes := #[] }])
  fields := #[{ name := "before", type := (.object "com/example/sumgen/sumgen/model/SumType"), accessFlags := 18, slot := 0, constantValue := 0 }, { name := "after", type := (.object "com/example/sumgen/sumgen/model/SumType"), accessFlags := 18, slot := 1, constantValue := 0 }, { name := "addedFields", type := (.object "java/util/List"), accessFlags := 18, slot := 2, constantValue := 0 }, { name := "removedFields", type := (.object "java/util/List"), accessFlags := 18, slot := 3, constantValue := 0 }, { name := "variants", type := (.object "java/util/List"), accessFlags := 18, slot := 4, constantValue := 0 }, { name := "removedVariants", type := (.object "java/util/List"), accessFlags := 18, slot := 5, constantValue := 0 }]
  methods := #[k25m0, k25m1]
  instanceTypes := #[(.object "com/example/sumgen/sumgen/model/SumType"), (.object "com/example/sumgen/sumgen/model/SumType"), (.object "java/util/List"), (.object "java/util/List"), (.object "java/util/List"), (.object "java/util/List")]
  staticTypes := #[]
  resolved := Array.replicate 179 none
  statics := none }

def pool26 : Array CpInfo := pool [(1, .methodref 2 3), (0, .class_ 4), (0, .nameAndType 5 6), (0, u "java/lang/Record"), (0, u "<init>"), (0, u "()V"), (0, .fieldref 8 9), (0, .class_ 10), (0, .nameAndType 11 12), (0, u "com/example/sumgen/sumgen/model/Field"), (0, u "name"), (0, u "Ljava/lang/String;"), (0, .fieldref 8 14), (0, .nameAndType 15 16), (0, u "type"), (0, u "Lcom/example/sumgen/sumgen/model/FieldType;"), (0, .fieldref 8 18), (0, .nameAndType 19 20), (0, u "multiplicity"), (0, u "Lcom/example/sumgen/sumgen/model/Field$Multiplicity;"), (0, .fieldref 8 22), (0, .nameAndType 23 24), (0, u "place"), (0, u "Lcom/example/sumgen/sumgen/model/Place;"), (1, .class_ 28), (1, u "com/example/sumgen/sumgen/model/Field$Multiplicity"), (16, u "(Ljava/lang/String;Lcom/example/sumgen/sumgen/model/FieldType;Lcom/example/sumgen/sumgen/model/Field$Multiplicity;Lcom/example/sumgen/sumgen/model/Place;)V")] 38

def k26c0 : Code := { maxStack := 2, maxLocals := 5, code := prog_14_method_1_code, exceptionTable := #[], attributes := #[] }
def k26m0 : Method := { name := "<init>", desc := "(Ljava/lang/String;Lcom/example/sumgen/sumgen/model/FieldType;Lcom/example/sumgen/sumgen/model/Field$Multiplicity;Lcom/example/sumgen/sumgen/model/Place;)V", sig := { parameters := [(.object "java/lang/String"), (.object "com/example/sumgen/sumgen/model/FieldType"), (.object "com/example/sumgen/sumgen/model/Field$Multiplicity"), (.object "com/example/sumgen/sumgen/model/Place")], returnType := none }, accessFlags := 1, code := some k26c0 }
/-- com/example/sumgen/sumgen/model/Field -/
def k26 : Class := { plain "com/example/sumgen/sumgen/model/Field" (some 9) with
  accessFlags := 49
  interfaces := #[]
  cf := some (fileOf pool26 8 #[.nestMembers #[26]] #[{ accessFlags := 1, nameIndex := 5, descriptorIndex := 45, attributes := #[] }] 49 2 #[] #[{ accessFlags := 18, nameIndex := 11, descriptorIndex := 12, attributes := #[] }, { accessFlags := 18, nameIndex := 15, descriptorIndex := 16, attributes := #[] }, { accessFlags := 18, nameIndex := 19, descriptorIndex := 20, attributes := #[] }, { accessFlags := 18, nameIndex := 23, descriptorIndex := 24, attributes := #[] }])
  fields := #[{ name := "name", type := (.object "java/lang/String"), accessFlags := 18, slot := 0, constantValue := 0 }, { name := "type", type := (.object "com/example/sumgen/sumgen/model/FieldType"), accessFlags := 18, slot := 1, constantValue := 0 }, { name := "multiplicity", type := (.object "com/example/sumgen/sumgen/model/Field$Multiplicity"), accessFlags := 18, slot := 2, constantValue := 0 }, { name := "place", type := (.object "com/example/sumgen/sumgen/model/Place"), accessFlags := 18, slot := 3, constantValue := 0 }]
  methods := #[k26m0]
  instanceTypes := #[(.object "java/lang/String"), (.object "com/example/sumgen/sumgen/model/FieldType"), (.object "com/example/sumgen/sumgen/model/Field$Multiplicity"), (.object "com/example/sumgen/sumgen/model/Place")]
  staticTypes := #[]
  resolved := Array.replicate 84 none
  statics := none }

def pool27 : Array CpInfo := pool [(1, .class_ 2), (0, u "java/lang/Math"), (1, .class_ 6), (1, u "java/lang/Object"), (0, u "<init>"), (0, u "()V"), (89, .class_ 100), (1, u "java/lang/Math$RandomNumberGeneratorHolder"), (71, u "negativeZeroFloatBits"), (0, u "J"), (2, u "negativeZeroDoubleBits"), (21, u "max"), (2, u "min"), (43, u "$assertionsDisabled"), (0, u "Z"), (88, u "(II)I"), (2, u "twoToTheDoubleScaleDown"), (0, u "D"), (4, u "twoToTheDoubleScaleUp"), (9, u "E"), (3, u "PI"), (2, u "TAU"), (2, u "DEGREES_TO_RADIANS"), (0, u "RADIANS_TO_DEGREES")] 94

def k27m0 : Method := { name := "<init>", desc := "()V", sig := { parameters := [], returnType := none }, accessFlags := 2, code := none }
def k27c1 : Code := { maxStack := 2, maxLocals := 2, code := jdk_29_method_65_code, exceptionTable := #[], attributes := #[] }
def k27m1 : Method := { name := "max", desc := "(II)I", sig := { parameters := [.int, .int], returnType := some .int }, accessFlags := 9, code := some k27c1 }
def k27c2 : Code := { maxStack := 2, maxLocals := 2, code := jdk_29_method_69_code, exceptionTable := #[], attributes := #[] }
def k27m2 : Method := { name := "min", desc := "(II)I", sig := { parameters := [.int, .int], returnType := some .int }, accessFlags := 9, code := some k27c2 }
/-- java/lang/Math -/
def k27 : Class := { plain "java/lang/Math" (some 0) with
  accessFlags := 49
  interfaces := #[]
  cf := some (fileOf pool27 1 #[.nestMembers #[98]] #[{ accessFlags := 2, nameIndex := 7, descriptorIndex := 8, attributes := #[] }, { accessFlags := 9, nameIndex := 198, descriptorIndex := 335, attributes := #[] }, { accessFlags := 9, nameIndex := 201, descriptorIndex := 335, attributes := #[] }] 49 4 #[] #[{ accessFlags := 25, nameIndex := 354, descriptorIndex := 339, attributes := #[] }, { accessFlags := 25, nameIndex := 358, descriptorIndex := 339, attributes := #[] }, { accessFlags := 25, nameIndex := 361, descriptorIndex := 339, attributes := #[] }, { accessFlags := 26, nameIndex := 364, descriptorIndex := 339, attributes := #[] }, { accessFlags := 26, nameIndex := 365, descriptorIndex := 339, attributes := #[] }, { accessFlags := 26, nameIndex := 172, descriptorIndex := 173, attributes := #[] }, { accessFlags := 26, nameIndex := 176, descriptorIndex := 173, attributes := #[] }, { accessFlags := 8, nameIndex := 344, descriptorIndex := 339, attributes := #[] }, { accessFlags := 8, nameIndex := 338, descriptorIndex := 339, attributes := #[] }, { accessFlags := 4120, nameIndex := 245, descriptorIndex := 246, attributes := #[] }])
  fields := #[{ name := "E", type := .double, accessFlags := 25, slot := 0, constantValue := 0 }, { name := "PI", type := .double, accessFlags := 25, slot := 1, constantValue := 0 }, { name := "TAU", type := .double, accessFlags := 25, slot := 2, constantValue := 0 }, { name := "DEGREES_TO_RADIANS", type := .double, accessFlags := 26, slot := 3, constantValue := 0 }, { name := "RADIANS_TO_DEGREES", type := .double, accessFlags := 26, slot := 4, constantValue := 0 }, { name := "negativeZeroFloatBits", type := .long, accessFlags := 26, slot := 5, constantValue := 0 }, { name := "negativeZeroDoubleBits", type := .long, accessFlags := 26, slot := 6, constantValue := 0 }, { name := "twoToTheDoubleScaleUp", type := .double, accessFlags := 8, slot := 7, constantValue := 0 }, { name := "twoToTheDoubleScaleDown", type := .double, accessFlags := 8, slot := 8, constantValue := 0 }, { name := "$assertionsDisabled", type := .boolean, accessFlags := 4120, slot := 9, constantValue := 0 }]
  methods := #[k27m0, k27m1, k27m2]
  instanceTypes := #[]
  staticTypes := #[.double, .double, .double, .double, .double, .long, .long, .double, .double, .boolean]
  resolved := Array.replicate 460 none
  statics := none }

def pool28 : Array CpInfo := pool [(2, .class_ 4), (1, u "java/lang/Object"), (0, u "<init>"), (0, u "()V"), (7, .class_ 16), (1, u "java/util/Arrays"), (57, .class_ 76), (1, u "java/util/Arrays$NaturalOrder"), (9, .methodref 2 87), (0, .nameAndType 88 89), (0, u "getClass"), (0, u "()Ljava/lang/Class;"), (20, .class_ 111), (0, u "[Ljava/lang/Object;"), (1, .class_ 115), (1, u "java/util/Arrays$LegacyMergeSort"), (1, u "Z"), (32, .methodref 151 152), (0, .class_ 153), (0, .nameAndType 154 155), (0, u "java/lang/System"), (0, u "arraycopy"), (0, u "(Ljava/lang/Object;ILjava/lang/Object;II)V"), (144, .methodref 14 301), (0, .nameAndType 302 303), (0, u "copyOf"), (0, u "([Ljava/lang/Object;ILjava/lang/Class;)[Ljava/lang/Object;"), (0, .methodref 305 306), (0, .class_ 307), (0, .nameAndType 308 309), (0, u "java/lang/Math"), (0, u "min"), (0, u "(II)I"), (65, .class_ 376), (0, u "java/util/Arrays$ArrayList"), (68, u "$assertionsDisabled"), (269, u "MIN_ARRAY_SORT_GRAN"), (0, u "I"), (2, u "INSERTIONSORT_THRESHOLD"), (140, u "([Ljava/lang/Object;I)[Ljava/lang/Object;"), (114, .class_ 976), (0, u "java/util/Arrays$ArrayItr")] 52

def k28m0 : Method := { name := "<init>", desc := "()V", sig := { parameters := [], returnType := none }, accessFlags := 2, code := none }
def k28c1 : Code := { maxStack := 3, maxLocals := 2, code := jdk_65_method_119_code, exceptionTable := #[], attributes := #[] }
def k28m1 : Method := { name := "copyOf", desc := "([Ljava/lang/Object;I)[Ljava/lang/Object;", sig := { parameters := [(.array (.object "java/lang/Object")), .int], returnType := some (.array (.object "java/lang/Object")) }, accessFlags := 9, code := some k28c1 }
def k28c2 : Code := { maxStack := 6, maxLocals := 4, code := jdk_65_method_120_code, exceptionTable := #[], attributes := #[] }
def k28m2 : Method := { name := "copyOf", desc := "([Ljava/lang/Object;ILjava/lang/Class;)[Ljava/lang/Object;", sig := { parameters := [(.array (.object "java/lang/Object")), .int, (.object "java/lang/Class")], returnType := some (.array (.object "java/lang/Object")) }, accessFlags := 9, code := some k28c2 }
/-- java/util/Arrays -/
def k28 : Class := { plain "java/util/Arrays" (some 0) with
  accessFlags := 49
  interfaces := #[]
  cf := some (fileOf pool28 14 #[.nestMembers #[975, 375, 113, 74]] #[{ accessFlags := 2, nameIndex := 5, descriptorIndex := 6, attributes := #[] }, { accessFlags := 9, nameIndex := 302, descriptorIndex := 860, attributes := #[] }, { accessFlags := 9, nameIndex := 302, descriptorIndex := 303, attributes := #[] }] 49 2 #[] #[{ accessFlags := 26, nameIndex := 715, descriptorIndex := 716, attributes := #[] }, { accessFlags := 26, nameIndex := 719, descriptorIndex := 716, attributes := #[] }, { accessFlags := 4120, nameIndex := 445, descriptorIndex := 117, attributes := #[] }])
  fields := #[{ name := "MIN_ARRAY_SORT_GRAN", type := .int, accessFlags := 26, slot := 0, constantValue := 0 }, { name := "INSERTIONSORT_THRESHOLD", type := .int, accessFlags := 26, slot := 1, constantValue := 0 }, { name := "$assertionsDisabled", type := .boolean, accessFlags := 4120, slot := 2, constantValue := 0 }]
  methods := #[k28m0, k28m1, k28m2]
  instanceTypes := #[]
  staticTypes := #[.int, .int, .boolean]
  resolved := Array.replicate 1029 none
  statics := none }

def pool29 : Array CpInfo := pool [(2, .class_ 4), (1, u "java/lang/Object"), (0, u "<init>"), (0, u "()V"), (1, .class_ 10), (1, u "java/lang/System"), (0, u "allowSecurityManager"), (0, u "I"), (16, u "cons"), (0, u "Ljava/io/Console;"), (77, .class_ 110), (1, u "java/lang/System$CallersHolder"), (43, u "initialErrStream"), (0, u "Ljava/io/PrintStream;"), (19, u "security"), (0, u "Ljava/lang/SecurityManager;"), (31, .class_ 209), (0, u "java/lang/System$1"), (7, u "props"), (0, u "Ljava/util/Properties;"), (2, u "lineSeparator"), (0, u "Ljava/lang/String;"), (96, .class_ 321), (1, u "java/lang/System$LoggerFinder"), (5, .class_ 328), (0, u "java/lang/System$Logger"), (67, u "err"), (2, u "out"), (91, u "notSupportedJnuEncoding"), (15, u "in"), (17, u "initialIn"), (0, u "Ljava/io/InputStream;"), (35, u "bootLayer"), (0, u "Ljava/lang/ModuleLayer;"), (99, .class_ 664), (0, u "java/lang/System$2"), (9, u "NEVER"), (2, u "MAYBE"), (49, u "arraycopy"), (0, u "(Ljava/lang/Object;ILjava/lang/Object;II)V"), (72, .class_ 802), (0, u "java/lang/System$Logger$Level")] 31

def k29m0 : Method := { name := "<init>", desc := "()V", sig := { parameters := [], returnType := none }, accessFlags := 2, code := none }
def k29m1 : Method := { name := "arraycopy", desc := "(Ljava/lang/Object;ILjava/lang/Object;II)V", sig := { parameters := [(.object "java/lang/Object"), .int, (.object "java/lang/Object"), .int, .int], returnType := none }, accessFlags := 265, code := none }
/-- java/lang/System -/
def k29 : Class := { plain "java/lang/System" (some 0) with
  accessFlags := 49
  interfaces := #[]
  cf := some (fileOf pool29 8 #[.nestMembers #[319, 327, 801, 108, 663, 208]] #[{ accessFlags := 2, nameIndex := 5, descriptorIndex := 6, attributes := #[] }, { accessFlags := 265, nameIndex := 727, descriptorIndex := 728, attributes := #[] }] 49 2 #[] #[{ accessFlags := 25, nameIndex := 507, descriptorIndex := 526, attributes := #[] }, { accessFlags := 25, nameIndex := 399, descriptorIndex := 155, attributes := #[] }, { accessFlags := 25, nameIndex := 396, descriptorIndex := 155, attributes := #[] }, { accessFlags := 10, nameIndex := 525, descriptorIndex := 526, attributes := #[] }, { accessFlags := 26, nameIndex := 674, descriptorIndex := 12, attributes := #[] }, { accessFlags := 26, nameIndex := 677, descriptorIndex := 12, attributes := #[] }, { accessFlags := 10, nameIndex := 11, descriptorIndex := 12, attributes := #[] }, { accessFlags := 74, nameIndex := 175, descriptorIndex := 176, attributes := #[] }, { accessFlags := 10, nameIndex := 491, descriptorIndex := 222, attributes := #[] }, { accessFlags := 74, nameIndex := 29, descriptorIndex := 30, attributes := #[] }, { accessFlags := 74, nameIndex := 154, descriptorIndex := 155, attributes := #[] }, { accessFlags := 10, nameIndex := 217, descriptorIndex := 218, attributes := #[] }, { accessFlags := 10, nameIndex := 221, descriptorIndex := 222, attributes := #[] }, { accessFlags := 8, nameIndex := 562, descriptorIndex := 563, attributes := #[] }])
  fields := #[{ name := "in", type := (.object "java/io/InputStream"), accessFlags := 25, slot := 0, constantValue := 0 }, { name := "out", type := (.object "java/io/PrintStream"), accessFlags := 25, slot := 1, constantValue := 0 }, { name := "err", type := (.object "java/io/PrintStream"), accessFlags := 25, slot := 2, constantValue := 0 }, { name := "initialIn", type := (.object "java/io/InputStream"), accessFlags := 10, slot := 3, constantValue := 0 }, { name := "NEVER", type := .int, accessFlags := 26, slot := 4, constantValue := 0 }, { name := "MAYBE", type := .int, accessFlags := 26, slot := 5, constantValue := 0 }, { name := "allowSecurityManager", type := .int, accessFlags := 10, slot := 6, constantValue := 0 }, { name := "security", type := (.object "java/lang/SecurityManager"), accessFlags := 74, slot := 7, constantValue := 0 }, { name := "notSupportedJnuEncoding", type := (.object "java/lang/String"), accessFlags := 10, slot := 8, constantValue := 0 }, { name := "cons", type := (.object "java/io/Console"), accessFlags := 74, slot := 9, constantValue := 0 }, { name := "initialErrStream", type := (.object "java/io/PrintStream"), accessFlags := 74, slot := 10, constantValue := 0 }, { name := "props", type := (.object "java/util/Properties"), accessFlags := 10, slot := 11, constantValue := 0 }, { name := "lineSeparator", type := (.object "java/lang/String"), accessFlags := 10, slot := 12, constantValue := 0 }, { name := "bootLayer", type := (.object "java/lang/ModuleLayer"), accessFlags := 8, slot := 13, constantValue := 0 }]
  methods := #[k29m0, k29m1]
  instanceTypes := #[]
  staticTypes := #[(.object "java/io/InputStream"), (.object "java/io/PrintStream"), (.object "java/io/PrintStream"), (.object "java/io/InputStream"), .int, .int, .int, (.object "java/lang/SecurityManager"), (.object "java/lang/String"), (.object "java/io/Console"), (.object "java/io/PrintStream"), (.object "java/util/Properties"), (.object "java/lang/String"), (.object "java/lang/ModuleLayer")]
  resolved := Array.replicate 834 none
  statics := none }

def pool30 : Array CpInfo := pool [(2, .class_ 4), (1, u "java/lang/Object"), (0, u "<init>"), (0, u "()V"), (35, .class_ 44), (1, u "java/util/Objects"), (0, u "requireNonNull"), (0, u "(Ljava/lang/Object;)Ljava/lang/Object;")] 137

def k30m0 : Method := { name := "<init>", desc := "()V", sig := { parameters := [], returnType := none }, accessFlags := 2, code := none }
def k30c1 : Code := { maxStack := 2, maxLocals := 1, code := jdk_31_method_10_code, exceptionTable := #[], attributes := #[] }
def k30m1 : Method := { name := "requireNonNull", desc := "(Ljava/lang/Object;)Ljava/lang/Object;", sig := { parameters := [(.object "java/lang/Object")], returnType := some (.object "java/lang/Object") }, accessFlags := 9, code := some k30c1 }
/-- java/util/Objects -/
def k30 : Class := { plain "java/util/Objects" (some 0) with
  accessFlags := 49
  interfaces := #[]
  cf := some (fileOf pool30 42 #[] #[{ accessFlags := 2, nameIndex := 5, descriptorIndex := 6, attributes := #[] }, { accessFlags := 9, nameIndex := 45, descriptorIndex := 46, attributes := #[] }] 49 2 #[] #[])
  fields := #[]
  methods := #[k30m0, k30m1]
  instanceTypes := #[]
  staticTypes := #[]
  resolved := Array.replicate 184 none
  statics := none }

def pool31 : Array CpInfo := pool [(4, .class_ 6), (1, u "java/lang/Object"), (0, u "<init>"), (0, u "()V"), (5, .class_ 16), (1, u "java/lang/StringLatin1"), (104, u "$assertionsDisabled"), (0, u "Z"), (98, .class_ 223), (1, u "java/lang/StringLatin1$LinesSpliterator"), (166, .class_ 391), (0, u "java/lang/StringLatin1$CharsSpliterator")] 3

def k31m0 : Method := { name := "<init>", desc := "()V", sig := { parameters := [], returnType := none }, accessFlags := 0, code := none }
/-- java/lang/StringLatin1 -/
def k31 : Class := { plain "java/lang/StringLatin1" (some 0) with
  accessFlags := 48
  interfaces := #[]
  cf := some (fileOf pool31 14 #[.nestMembers #[390, 221]] #[{ accessFlags := 0, nameIndex := 7, descriptorIndex := 8, attributes := #[] }] 48 4 #[] #[{ accessFlags := 4120, nameIndex := 121, descriptorIndex := 122, attributes := #[] }])
  fields := #[{ name := "$assertionsDisabled", type := .boolean, accessFlags := 4120, slot := 0, constantValue := 0 }]
  methods := #[k31m0]
  instanceTypes := #[]
  staticTypes := #[.boolean]
  resolved := Array.replicate 395 none
  statics := none }

def pool32 : Array CpInfo := pool [(2, .class_ 4), (1, u "java/lang/Object"), (0, u "<init>"), (0, u "()V"), (17, .class_ 26), (1, u "jdk/internal/util/Preconditions"), (28, .class_ 56), (0, u "jdk/internal/util/Preconditions$4"), (57, .class_ 115), (0, u "jdk/internal/util/Preconditions$1"), (7, u "SIOOBE_FORMATTER"), (0, u "Ljava/util/function/BiFunction;"), (0, .class_ 126), (0, u "jdk/internal/util/Preconditions$2"), (3, u "AIOOBE_FORMATTER"), (0, .class_ 132), (0, u "jdk/internal/util/Preconditions$3"), (3, u "IOOBE_FORMATTER")] 57

def k32m0 : Method := { name := "<init>", desc := "()V", sig := { parameters := [], returnType := none }, accessFlags := 1, code := none }
/-- jdk/internal/util/Preconditions -/
def k32 : Class := { plain "jdk/internal/util/Preconditions" (some 0) with
  accessFlags := 33
  interfaces := #[]
  cf := some (fileOf pool32 24 #[.nestMembers #[55, 131, 125, 114]] #[{ accessFlags := 1, nameIndex := 5, descriptorIndex := 6, attributes := #[] }] 33 2 #[] #[{ accessFlags := 25, nameIndex := 123, descriptorIndex := 124, attributes := #[] }, { accessFlags := 25, nameIndex := 130, descriptorIndex := 124, attributes := #[] }, { accessFlags := 25, nameIndex := 136, descriptorIndex := 124, attributes := #[] }])
  fields := #[{ name := "SIOOBE_FORMATTER", type := (.object "java/util/function/BiFunction"), accessFlags := 25, slot := 0, constantValue := 0 }, { name := "AIOOBE_FORMATTER", type := (.object "java/util/function/BiFunction"), accessFlags := 25, slot := 1, constantValue := 0 }, { name := "IOOBE_FORMATTER", type := (.object "java/util/function/BiFunction"), accessFlags := 25, slot := 2, constantValue := 0 }]
  methods := #[k32m0]
  instanceTypes := #[]
  staticTypes := #[(.object "java/util/function/BiFunction"), (.object "java/util/function/BiFunction"), (.object "java/util/function/BiFunction")]
  resolved := Array.replicate 194 none
  statics := some 3 }

def pool33 : Array CpInfo := pool [(9, u "<init>"), (6, .class_ 18), (1, u "java/lang/Object"), (0, u "()V"), (1, .class_ 23), (1, u "jdk/internal/util/ArraysSupport"), (0, u "LOG2_ARRAY_LONG_INDEX_SCALE"), (0, u "I"), (2, u "U"), (0, u "Ljdk/internal/misc/Unsafe;"), (8, u "BIG_ENDIAN"), (0, u "Z"), (8, u "LOG2_BYTE_BIT_SIZE"), (4, u "LOG2_ARRAY_INT_INDEX_SCALE"), (54, u "JLA"), (0, u "Ljdk/internal/access/JavaLangAccess;"), (11, u "LOG2_ARRAY_BOOLEAN_INDEX_SCALE"), (9, u "LOG2_ARRAY_BYTE_INDEX_SCALE"), (5, u "LOG2_ARRAY_CHAR_INDEX_SCALE"), (5, u "LOG2_ARRAY_SHORT_INDEX_SCALE"), (18, u "LOG2_ARRAY_FLOAT_INDEX_SCALE"), (24, u "LOG2_ARRAY_DOUBLE_INDEX_SCALE"), (89, u "T_BOOLEAN"), (2, u "T_CHAR"), (1, u "T_FLOAT"), (1, u "T_DOUBLE"), (1, u "T_BYTE"), (1, u "T_SHORT"), (1, u "T_INT"), (1, u "T_LONG"), (1, u "SOFT_MAX_ARRAY_LENGTH")] 83

def k33m0 : Method := { name := "<init>", desc := "()V", sig := { parameters := [], returnType := none }, accessFlags := 2, code := none }
/-- jdk/internal/util/ArraysSupport -/
def k33 : Class := { plain "jdk/internal/util/ArraysSupport" (some 0) with
  accessFlags := 33
  interfaces := #[]
  cf := some (fileOf pool33 21 #[] #[{ accessFlags := 2, nameIndex := 9, descriptorIndex := 19, attributes := #[] }] 33 16 #[] #[{ accessFlags := 24, nameIndex := 28, descriptorIndex := 29, attributes := #[] }, { accessFlags := 26, nameIndex := 38, descriptorIndex := 39, attributes := #[] }, { accessFlags := 25, nameIndex := 121, descriptorIndex := 25, attributes := #[] }, { accessFlags := 25, nameIndex := 131, descriptorIndex := 25, attributes := #[] }, { accessFlags := 25, nameIndex := 137, descriptorIndex := 25, attributes := #[] }, { accessFlags := 25, nameIndex := 143, descriptorIndex := 25, attributes := #[] }, { accessFlags := 25, nameIndex := 53, descriptorIndex := 25, attributes := #[] }, { accessFlags := 25, nameIndex := 24, descriptorIndex := 25, attributes := #[] }, { accessFlags := 25, nameIndex := 162, descriptorIndex := 25, attributes := #[] }, { accessFlags := 25, nameIndex := 187, descriptorIndex := 25, attributes := #[] }, { accessFlags := 26, nameIndex := 48, descriptorIndex := 25, attributes := #[] }, { accessFlags := 25, nameIndex := 277, descriptorIndex := 25, attributes := #[] }, { accessFlags := 25, nameIndex := 280, descriptorIndex := 25, attributes := #[] }, { accessFlags := 25, nameIndex := 282, descriptorIndex := 25, attributes := #[] }, { accessFlags := 25, nameIndex := 284, descriptorIndex := 25, attributes := #[] }, { accessFlags := 25, nameIndex := 286, descriptorIndex := 25, attributes := #[] }, { accessFlags := 25, nameIndex := 288, descriptorIndex := 25, attributes := #[] }, { accessFlags := 25, nameIndex := 290, descriptorIndex := 25, attributes := #[] }, { accessFlags := 25, nameIndex := 292, descriptorIndex := 25, attributes := #[] }, { accessFlags := 26, nameIndex := 108, descriptorIndex := 109, attributes := #[] }, { accessFlags := 25, nameIndex := 294, descriptorIndex := 25, attributes := #[] }])
  fields := #[{ name := "U", type := (.object "jdk/internal/misc/Unsafe"), accessFlags := 24, slot := 0, constantValue := 0 }, { name := "BIG_ENDIAN", type := .boolean, accessFlags := 26, slot := 1, constantValue := 0 }, { name := "LOG2_ARRAY_BOOLEAN_INDEX_SCALE", type := .int, accessFlags := 25, slot := 2, constantValue := 0 }, { name := "LOG2_ARRAY_BYTE_INDEX_SCALE", type := .int, accessFlags := 25, slot := 3, constantValue := 0 }, { name := "LOG2_ARRAY_CHAR_INDEX_SCALE", type := .int, accessFlags := 25, slot := 4, constantValue := 0 }, { name := "LOG2_ARRAY_SHORT_INDEX_SCALE", type := .int, accessFlags := 25, slot := 5, constantValue := 0 }, { name := "LOG2_ARRAY_INT_INDEX_SCALE", type := .int, accessFlags := 25, slot := 6, constantValue := 0 }, { name := "LOG2_ARRAY_LONG_INDEX_SCALE", type := .int, accessFlags := 25, slot := 7, constantValue := 0 }, { name := "LOG2_ARRAY_FLOAT_INDEX_SCALE", type := .int, accessFlags := 25, slot := 8, constantValue := 0 }, { name := "LOG2_ARRAY_DOUBLE_INDEX_SCALE", type := .int, accessFlags := 25, slot := 9, constantValue := 0 }, { name := "LOG2_BYTE_BIT_SIZE", type := .int, accessFlags := 26, slot := 10, constantValue := 0 }, { name := "T_BOOLEAN", type := .int, accessFlags := 25, slot := 11, constantValue := 0 }, { name := "T_CHAR", type := .int, accessFlags := 25, slot := 12, constantValue := 0 }, { name := "T_FLOAT", type := .int, accessFlags := 25, slot := 13, constantValue := 0 }, { name := "T_DOUBLE", type := .int, accessFlags := 25, slot := 14, constantValue := 0 }, { name := "T_BYTE", type := .int, accessFlags := 25, slot := 15, constantValue := 0 }, { name := "T_SHORT", type := .int, accessFlags := 25, slot := 16, constantValue := 0 }, { name := "T_INT", type := .int, accessFlags := 25, slot := 17, constantValue := 0 }, { name := "T_LONG", type := .int, accessFlags := 25, slot := 18, constantValue := 0 }, { name := "JLA", type := (.object "jdk/internal/access/JavaLangAccess"), accessFlags := 26, slot := 19, constantValue := 0 }, { name := "SOFT_MAX_ARRAY_LENGTH", type := .int, accessFlags := 25, slot := 20, constantValue := 0 }]
  methods := #[k33m0]
  instanceTypes := #[]
  staticTypes := #[(.object "jdk/internal/misc/Unsafe"), .boolean, .int, .int, .int, .int, .int, .int, .int, .int, .int, .int, .int, .int, .int, .int, .int, .int, .int, (.object "jdk/internal/access/JavaLangAccess"), .int]
  resolved := Array.replicate 378 none
  statics := none }

def pool34 : Array CpInfo := pool [(1, u "java/lang/Class"), (0, .class_ 1), (0, u "java/lang/Object"), (0, .class_ 3)] 0

/-- java/lang/Class -/
def k34 : Class := { plain "java/lang/Class" (some 0) with
  accessFlags := 49
  interfaces := #[]
  cf := some (fileOf pool34 2 #[] #[] 49 4 #[] #[])
  fields := #[]
  methods := #[]
  instanceTypes := #[]
  staticTypes := #[]
  resolved := Array.replicate 5 none
  statics := none }

/-- the primitive byte -/
def k35 : Class := { plain "byte" none with kind := .primitive 'B', accessFlags := 0x411 }
/-- [B -/
def k36 : Class := { plain "[B" (some 0) with kind := .array 35 .byte, interfaces := #[18, 2], accessFlags := 1041 }

/-- the primitive char -/
def k37 : Class := { plain "char" none with kind := .primitive 'C', accessFlags := 0x411 }
/-- [C -/
def k38 : Class := { plain "[C" (some 0) with kind := .array 37 .char, interfaces := #[18, 2], accessFlags := 1041 }

/-- the primitive int -/
def k39 : Class := { plain "int" none with kind := .primitive 'I', accessFlags := 0x411 }
/-- [I -/
def k40 : Class := { plain "[I" (some 0) with kind := .array 39 .int, interfaces := #[18, 2], accessFlags := 1041 }

/-- [Ljava/lang/Object; -/
def k41 : Class := { plain "[Ljava/lang/Object;" (some 0) with kind := .array 0 (.object "java/lang/Object"), interfaces := #[18, 2], accessFlags := 1041, mirror := some 4 }

def heap : Heap := #[{ cls := 7, slots := #[.long 0, .int 1, .null, .int 0, .null, .int 0, .int 0], vm := .statics 7 },
  { cls := 19, slots := #[.long 0, .int 0, .ref 7, .ref 8], vm := .statics 19 },
  { cls := 20, slots := #[.long 0, .int 0, .null, .ref 9, .ref 6, .null, .null, .null, .int 0, .int 1], vm := .statics 20 },
  { cls := 32, slots := #[.null, .null, .null], vm := .statics 32 },
  { cls := 34, slots := #[], vm := .mirror 41 },
  { cls := 41, slots := #[], vm := .none },
  { cls := 24, slots := #[.ref 5, .int 0], vm := .none },
  { cls := 41, slots := #[], vm := .none },
  { cls := 41, slots := #[], vm := .none },
  { cls := 0, slots := #[], vm := .none }]
def classes : Array Class := #[k0, k1, k2, k3, k4, k5, k6, k7, k8, k9, k10, k11, k12, k13, k14, k15, k16, k17, k18, k19, k20, k21, k22, k23, k24, k25, k26, k27, k28, k29, k30, k31, k32, k33, k34, k35, k36, k37, k38, k39, k40, k41]
def interned : List (Array UInt16 × Addr) := []
def slotsUsed : Nat := 26
def theMethod : MethodId := ⟨1, 1⟩
def args0 : Array Value := #[.int 10, .int 65, .int 66]
def aboutOver (below : List Frame) : State where
  vm := { classes := classes, interned := interned.toArray }
  heap := heap
  slotsUsed := slotsUsed
  threads := #[{ frames := .invoking theMethod args0 :: below }]
def below0 : List Frame := [.native { method := ⟨0, 0⟩, args := #[] }]
def about1 : State := aboutOver below0
def p0 : Program := .bare "" "" ""
def e0 : Env := launch0.env 0 0 0
theorem w_frames : about1.frames = Frame.invoking theMethod args0 :: below0 := rfl
set_option maxRecDepth 65536 in
theorem w_args : argsFit about1.vm theMethod args0 = true := by decide +kernel
set_option maxRecDepth 65536 in
theorem w_heap : heapFits about1 = true := by decide +kernel
set_option maxRecDepth 65536 in
theorem w_runnable : about1.curStatus? = some .runnable := by decide +kernel
set_option maxRecDepth 65536 in
theorem w_alone : about1.alone = true := by decide +kernel
set_option maxRecDepth 65536 in
theorem w_named : about1.methodNamed? x = some theMethod := by decide +kernel
set_option maxRecDepth 65536 in
theorem w_hears : about1.hears theMethod below0 = true := by decide +kernel
set_option maxRecDepth 65536 in
theorem w_ripe : about1.ripe theMethod args0 below0 = true := by decide +kernel
theorem w_running : about1.status = .running := rfl
set_option maxRecDepth 65536 in
theorem w_room : about1.hasRoom e0.platform room_1 = true :=
  launch0.hasRoom_least _ room_1 (by decide +kernel) (by decide +kernel) (by decide +kernel) (by decide +kernel) (by decide +kernel) (by decide +kernel)
theorem allAtoms_all (ts : List Jvm.Cond) (a : Array Jvm.Value) (st : Jvm.State) : (allAtoms ts).before a st = ts.all (fun c => c.before a st) := by
  induction ts with
  | nil => rfl
  | cons c t ih =>
    show (Jvm.Cond.and c (allAtoms t)).before a st = _
    rw [Jvm.Cond.before_and, ih, List.all_cons]
def words1 : List Jvm.Cond := Jvm.Cond.code x code maxLocals ret :: tables_1
/-- a 'code' word, met by the world's own term for the bytes: nothing is compared byte by byte -/
theorem code_word {y : MethodName} {bytes : ByteArray} {mx : Nat} {rt : Option FieldType} {a : Array Value} {s : State} {m : MethodId} {meth : Method} {c : Code} (h1 : s.methodNamed? y = some m) (h2 : s.vm.method? m = some meth) (h3 : meth.code = some c) (h4 : c.code = bytes)
    (h5 : (c.maxLocals == mx && c.exceptionTable.isEmpty && decide (c.maxStack ≤ mostOperands) && decide (meth.sig.returnType = rt) && !meth.locks && decide (parseMethodDescriptor y.desc = some meth.sig)) = true) : (Jvm.Cond.code y bytes mx rt).before a s = true := by
  simp only [Bool.and_eq_true, beq_iff_eq, Bool.not_eq_true', decide_eq_true_eq] at h5
  obtain ⟨⟨⟨⟨⟨g1, g2⟩, g3⟩, g4⟩, g5⟩, g6⟩ := h5
  simp [Cond.before, Cond.holds, Cond.value, h1, h2, h3, h4, g1, g2, g3, g4, g5, g6]
def isCode : Jvm.Cond → Bool
  | .code _ _ _ _ => true
  | _ => false
theorem all_split {L : List Jvm.Cond} {P : Jvm.Cond → Bool} (h1 : L.all (fun c => isCode c || P c) = true) (h2 : ∀ c ∈ L.filter isCode, P c = true) : L.all P = true := by
  refine List.all_eq_true.mpr fun c hc => ?_
  have h := List.all_eq_true.mp h1 c hc
  rcases Bool.eq_false_or_eq_true (isCode c) with hi | hi
  · exact h2 c (List.mem_filter.mpr ⟨hc, hi⟩)
  · simpa [hi] using h
set_option maxRecDepth 65536 in
theorem w_c0 : (Jvm.Cond.code x code maxLocals ret).before args0 about1 = true := code_word (m := ⟨1, 1⟩) (meth := k1m1) (c := k1c1) (by decide +kernel) rfl rfl rfl (by decide +kernel)
set_option maxRecDepth 65536 in
theorem w_c1 : (Jvm.Cond.code ({ cls := "java/lang/String", name := "<init>", desc := "([C)V" } : Jvm.MethodName) jdk_42_method_3_code (2 : Nat) (Option.none : Option Jvm.ClassFile.FieldType)).before args0 about1 = true := code_word (m := ⟨7, 1⟩) (meth := k7m1) (c := k7c1) (by decide +kernel) rfl rfl rfl (by decide +kernel)
set_option maxRecDepth 65536 in
theorem w_c2 : (Jvm.Cond.code ({ cls := "java/lang/String", name := "<init>", desc := "([CIILjava/lang/Void;)V" } : Jvm.MethodName) jdk_42_method_149_code (6 : Nat) (Option.none : Option Jvm.ClassFile.FieldType)).before args0 about1 = true := code_word (m := ⟨7, 2⟩) (meth := k7m2) (c := k7c2) (by decide +kernel) rfl rfl rfl (by decide +kernel)
set_option maxRecDepth 65536 in
theorem w_c3 : (Jvm.Cond.code ({ cls := "java/lang/Object", name := "<init>", desc := "()V" } : Jvm.MethodName) object_method_1_code (1 : Nat) (Option.none : Option Jvm.ClassFile.FieldType)).before args0 about1 = true := code_word (m := ⟨0, 0⟩) (meth := k0m0) (c := k0c0) (by decide +kernel) rfl rfl rfl (by decide +kernel)
set_option maxRecDepth 65536 in
theorem w_c4 : (Jvm.Cond.code ({ cls := "java/lang/StringUTF16", name := "compress", desc := "([CII)[B" } : Jvm.MethodName) jdk_52_method_16_code (6 : Nat) (Option.some (Jvm.ClassFile.FieldType.array Jvm.ClassFile.FieldType.byte))).before args0 about1 = true := code_word (m := ⟨8, 2⟩) (meth := k8m2) (c := k8c2) (by decide +kernel) rfl rfl rfl (by decide +kernel)
set_option maxRecDepth 65536 in
theorem w_c5 : (Jvm.Cond.code ({ cls := "java/lang/StringUTF16", name := "compress", desc := "([CI[BII)I" } : Jvm.MethodName) jdk_52_method_21_code (7 : Nat) (Option.some Jvm.ClassFile.FieldType.int)).before args0 about1 = true := code_word (m := ⟨8, 3⟩) (meth := k8m3) (c := k8c3) (by decide +kernel) rfl rfl rfl (by decide +kernel)
set_option maxRecDepth 65536 in
theorem w_c6 : (Jvm.Cond.code ({ cls := "java/lang/StringUTF16", name := "coderFromArrayLen", desc := "([BI)B" } : Jvm.MethodName) jdk_52_method_15_code (2 : Nat) (Option.some Jvm.ClassFile.FieldType.byte)).before args0 about1 = true := code_word (m := ⟨8, 1⟩) (meth := k8m1) (c := k8c1) (by decide +kernel) rfl rfl rfl (by decide +kernel)
set_option maxRecDepth 65536 in
theorem w_c7 : (Jvm.Cond.code ({ cls := "java/util/ArrayList", name := "<init>", desc := "()V" } : Jvm.MethodName) jdk_38_method_2_code (1 : Nat) (Option.none : Option Jvm.ClassFile.FieldType)).before args0 about1 = true := code_word (m := ⟨19, 0⟩) (meth := k19m0) (c := k19c0) (by decide +kernel) rfl rfl rfl (by decide +kernel)
set_option maxRecDepth 65536 in
theorem w_c8 : (Jvm.Cond.code ({ cls := "java/util/AbstractList", name := "<init>", desc := "()V" } : Jvm.MethodName) jdk_39_method_1_code (1 : Nat) (Option.none : Option Jvm.ClassFile.FieldType)).before args0 about1 = true := code_word (m := ⟨16, 0⟩) (meth := k16m0) (c := k16c0) (by decide +kernel) rfl rfl rfl (by decide +kernel)
set_option maxRecDepth 65536 in
theorem w_c9 : (Jvm.Cond.code ({ cls := "java/util/AbstractCollection", name := "<init>", desc := "()V" } : Jvm.MethodName) jdk_22_method_1_code (1 : Nat) (Option.none : Option Jvm.ClassFile.FieldType)).before args0 about1 = true := code_word (m := ⟨13, 0⟩) (meth := k13m0) (c := k13c0) (by decide +kernel) rfl rfl rfl (by decide +kernel)
set_option maxRecDepth 65536 in
theorem w_c10 : (Jvm.Cond.code ({ cls := "com/example/sumgen/sumgen/model/SumType", name := "<init>", desc := "(Ljava/lang/String;Ljava/lang/String;Ljava/util/List;Ljava/util/List;Lcom/example/sumgen/sumgen/model/Place;Lcom/example/sumgen/sumgen/model/Place;)V" } : Jvm.MethodName) prog_25_method_1_code (7 : Nat) (Option.none : Option Jvm.ClassFile.FieldType)).before args0 about1 = true := code_word (m := ⟨10, 0⟩) (meth := k10m0) (c := k10c0) (by decide +kernel) rfl rfl rfl (by decide +kernel)
set_option maxRecDepth 65536 in
theorem w_c11 : (Jvm.Cond.code ({ cls := "java/lang/Record", name := "<init>", desc := "()V" } : Jvm.MethodName) jdk_30_method_1_code (1 : Nat) (Option.none : Option Jvm.ClassFile.FieldType)).before args0 about1 = true := code_word (m := ⟨9, 0⟩) (meth := k9m0) (c := k9c0) (by decide +kernel) rfl rfl rfl (by decide +kernel)
set_option maxRecDepth 65536 in
theorem w_c12 : (Jvm.Cond.code ({ cls := "java/util/List", name := "copyOf", desc := "(Ljava/util/Collection;)Ljava/util/List;" } : Jvm.MethodName) jdk_40_method_48_code (1 : Nat) (Option.some (Jvm.ClassFile.FieldType.object "java/util/List"))).before args0 about1 = true := code_word (m := ⟨15, 3⟩) (meth := k15m3) (c := k15c3) (by decide +kernel) rfl rfl rfl (by decide +kernel)
set_option maxRecDepth 65536 in
theorem w_c13 : (Jvm.Cond.code ({ cls := "java/util/ImmutableCollections", name := "listCopy", desc := "(Ljava/util/Collection;)Ljava/util/List;" } : Jvm.MethodName) jdk_56_method_3_code (2 : Nat) (Option.some (Jvm.ClassFile.FieldType.object "java/util/List"))).before args0 about1 = true := code_word (m := ⟨20, 1⟩) (meth := k20m1) (c := k20c1) (by decide +kernel) rfl rfl rfl (by decide +kernel)
set_option maxRecDepth 65536 in
theorem w_c14 : (Jvm.Cond.code ({ cls := "java/util/ArrayList", name := "isEmpty", desc := "()Z" } : Jvm.MethodName) jdk_38_method_9_code (1 : Nat) (Option.some Jvm.ClassFile.FieldType.boolean)).before args0 about1 = true := code_word (m := ⟨19, 3⟩) (meth := k19m3) (c := k19c3) (by decide +kernel) rfl rfl rfl (by decide +kernel)
set_option maxRecDepth 65536 in
theorem w_c15 : (Jvm.Cond.code ({ cls := "java/util/List", name := "of", desc := "()Ljava/util/List;" } : Jvm.MethodName) jdk_40_method_36_code (0 : Nat) (Option.some (Jvm.ClassFile.FieldType.object "java/util/List"))).before args0 about1 = true := code_word (m := ⟨15, 1⟩) (meth := k15m1) (c := k15c1) (by decide +kernel) rfl rfl rfl (by decide +kernel)
set_option maxRecDepth 65536 in
theorem w_c16 : (Jvm.Cond.code ({ cls := "java/util/ImmutableCollections$ListN", name := "isEmpty", desc := "()Z" } : Jvm.MethodName) jdk_45_method_2_code (1 : Nat) (Option.some Jvm.ClassFile.FieldType.boolean)).before args0 about1 = true := code_word (m := ⟨24, 0⟩) (meth := k24m0) (c := k24c0) (by decide +kernel) rfl rfl rfl (by decide +kernel)
set_option maxRecDepth 65536 in
theorem w_c17 : (Jvm.Cond.code ({ cls := "com/example/sumgen/sumgen/sql/Changes$TypeChange", name := "<init>", desc := "(Lcom/example/sumgen/sumgen/model/SumType;Lcom/example/sumgen/sumgen/model/SumType;Ljava/util/List;Ljava/util/List;Ljava/util/List;Ljava/util/List;)V" } : Jvm.MethodName) prog_30_method_1_code (7 : Nat) (Option.none : Option Jvm.ClassFile.FieldType)).before args0 about1 = true := code_word (m := ⟨25, 0⟩) (meth := k25m0) (c := k25c0) (by decide +kernel) rfl rfl rfl (by decide +kernel)
set_option maxRecDepth 65536 in
theorem w_c18 : (Jvm.Cond.code ({ cls := "com/example/sumgen/sumgen/sql/Changes$TypeChange", name := "addsType", desc := "()Z" } : Jvm.MethodName) prog_30_method_2_code (1 : Nat) (Option.some Jvm.ClassFile.FieldType.boolean)).before args0 about1 = true := code_word (m := ⟨25, 1⟩) (meth := k25m1) (c := k25c1) (by decide +kernel) rfl rfl rfl (by decide +kernel)
set_option maxRecDepth 65536 in
theorem w_c19 : (Jvm.Cond.code ({ cls := "com/example/sumgen/sumgen/model/Field", name := "<init>", desc := "(Ljava/lang/String;Lcom/example/sumgen/sumgen/model/FieldType;Lcom/example/sumgen/sumgen/model/Field$Multiplicity;Lcom/example/sumgen/sumgen/model/Place;)V" } : Jvm.MethodName) prog_14_method_1_code (5 : Nat) (Option.none : Option Jvm.ClassFile.FieldType)).before args0 about1 = true := code_word (m := ⟨26, 0⟩) (meth := k26m0) (c := k26c0) (by decide +kernel) rfl rfl rfl (by decide +kernel)
set_option maxRecDepth 65536 in
theorem w_c20 : (Jvm.Cond.code ({ cls := "java/util/ArrayList", name := "add", desc := "(Ljava/lang/Object;)Z" } : Jvm.MethodName) jdk_38_method_25_code (2 : Nat) (Option.some Jvm.ClassFile.FieldType.boolean)).before args0 about1 = true := code_word (m := ⟨19, 6⟩) (meth := k19m6) (c := k19c6) (by decide +kernel) rfl rfl rfl (by decide +kernel)
set_option maxRecDepth 65536 in
theorem w_c21 : (Jvm.Cond.code ({ cls := "java/util/ArrayList", name := "add", desc := "(Ljava/lang/Object;[Ljava/lang/Object;I)V" } : Jvm.MethodName) jdk_38_method_24_code (4 : Nat) (Option.none : Option Jvm.ClassFile.FieldType)).before args0 about1 = true := code_word (m := ⟨19, 5⟩) (meth := k19m5) (c := k19c5) (by decide +kernel) rfl rfl rfl (by decide +kernel)
set_option maxRecDepth 65536 in
theorem w_c22 : (Jvm.Cond.code ({ cls := "java/util/ArrayList", name := "grow", desc := "()[Ljava/lang/Object;" } : Jvm.MethodName) jdk_38_method_7_code (1 : Nat) (Option.some (Jvm.ClassFile.FieldType.array (Jvm.ClassFile.FieldType.object "java/lang/Object")))).before args0 about1 = true := code_word (m := ⟨19, 2⟩) (meth := k19m2) (c := k19c2) (by decide +kernel) rfl rfl rfl (by decide +kernel)
set_option maxRecDepth 65536 in
theorem w_c23 : (Jvm.Cond.code ({ cls := "java/util/ArrayList", name := "grow", desc := "(I)[Ljava/lang/Object;" } : Jvm.MethodName) jdk_38_method_6_code (4 : Nat) (Option.some (Jvm.ClassFile.FieldType.array (Jvm.ClassFile.FieldType.object "java/lang/Object")))).before args0 about1 = true := code_word (m := ⟨19, 1⟩) (meth := k19m1) (c := k19c1) (by decide +kernel) rfl rfl rfl (by decide +kernel)
set_option maxRecDepth 65536 in
theorem w_c24 : (Jvm.Cond.code ({ cls := "java/lang/Math", name := "max", desc := "(II)I" } : Jvm.MethodName) jdk_29_method_65_code (2 : Nat) (Option.some Jvm.ClassFile.FieldType.int)).before args0 about1 = true := code_word (m := ⟨27, 1⟩) (meth := k27m1) (c := k27c1) (by decide +kernel) rfl rfl rfl (by decide +kernel)
set_option maxRecDepth 65536 in
theorem w_c25 : (Jvm.Cond.code ({ cls := "java/util/ArrayList", name := "toArray", desc := "()[Ljava/lang/Object;" } : Jvm.MethodName) jdk_38_method_16_code (1 : Nat) (Option.some (Jvm.ClassFile.FieldType.array (Jvm.ClassFile.FieldType.object "java/lang/Object")))).before args0 about1 = true := code_word (m := ⟨19, 4⟩) (meth := k19m4) (c := k19c4) (by decide +kernel) rfl rfl rfl (by decide +kernel)
set_option maxRecDepth 65536 in
theorem w_c26 : (Jvm.Cond.code ({ cls := "java/util/Arrays", name := "copyOf", desc := "([Ljava/lang/Object;I)[Ljava/lang/Object;" } : Jvm.MethodName) jdk_65_method_119_code (2 : Nat) (Option.some (Jvm.ClassFile.FieldType.array (Jvm.ClassFile.FieldType.object "java/lang/Object")))).before args0 about1 = true := code_word (m := ⟨28, 1⟩) (meth := k28m1) (c := k28c1) (by decide +kernel) rfl rfl rfl (by decide +kernel)
set_option maxRecDepth 65536 in
theorem w_c27 : (Jvm.Cond.code ({ cls := "java/util/Arrays", name := "copyOf", desc := "([Ljava/lang/Object;ILjava/lang/Class;)[Ljava/lang/Object;" } : Jvm.MethodName) jdk_65_method_120_code (4 : Nat) (Option.some (Jvm.ClassFile.FieldType.array (Jvm.ClassFile.FieldType.object "java/lang/Object")))).before args0 about1 = true := code_word (m := ⟨28, 2⟩) (meth := k28m2) (c := k28c2) (by decide +kernel) rfl rfl rfl (by decide +kernel)
set_option maxRecDepth 65536 in
theorem w_c28 : (Jvm.Cond.code ({ cls := "java/lang/Math", name := "min", desc := "(II)I" } : Jvm.MethodName) jdk_29_method_69_code (2 : Nat) (Option.some Jvm.ClassFile.FieldType.int)).before args0 about1 = true := code_word (m := ⟨27, 2⟩) (meth := k27m2) (c := k27c2) (by decide +kernel) rfl rfl rfl (by decide +kernel)
set_option maxRecDepth 65536 in
theorem w_c29 : (Jvm.Cond.code ({ cls := "java/util/List", name := "of", desc := "([Ljava/lang/Object;)Ljava/util/List;" } : Jvm.MethodName) jdk_40_method_47_code (2 : Nat) (Option.some (Jvm.ClassFile.FieldType.object "java/util/List"))).before args0 about1 = true := code_word (m := ⟨15, 2⟩) (meth := k15m2) (c := k15c2) (by decide +kernel) rfl rfl rfl (by decide +kernel)
set_option maxRecDepth 65536 in
theorem w_c30 : (Jvm.Cond.code ({ cls := "java/util/ImmutableCollections$List12", name := "<init>", desc := "(Ljava/lang/Object;)V" } : Jvm.MethodName) jdk_44_method_1_code (2 : Nat) (Option.none : Option Jvm.ClassFile.FieldType)).before args0 about1 = true := code_word (m := ⟨23, 0⟩) (meth := k23m0) (c := k23c0) (by decide +kernel) rfl rfl rfl (by decide +kernel)
set_option maxRecDepth 65536 in
theorem w_c31 : (Jvm.Cond.code ({ cls := "java/util/ImmutableCollections$AbstractImmutableList", name := "<init>", desc := "()V" } : Jvm.MethodName) jdk_46_method_1_code (1 : Nat) (Option.none : Option Jvm.ClassFile.FieldType)).before args0 about1 = true := code_word (m := ⟨22, 0⟩) (meth := k22m0) (c := k22c0) (by decide +kernel) rfl rfl rfl (by decide +kernel)
set_option maxRecDepth 65536 in
theorem w_c32 : (Jvm.Cond.code ({ cls := "java/util/ImmutableCollections$AbstractImmutableCollection", name := "<init>", desc := "()V" } : Jvm.MethodName) jdk_47_method_1_code (1 : Nat) (Option.none : Option Jvm.ClassFile.FieldType)).before args0 about1 = true := code_word (m := ⟨21, 0⟩) (meth := k21m0) (c := k21c0) (by decide +kernel) rfl rfl rfl (by decide +kernel)
set_option maxRecDepth 65536 in
theorem w_c33 : (Jvm.Cond.code ({ cls := "java/util/Objects", name := "requireNonNull", desc := "(Ljava/lang/Object;)Ljava/lang/Object;" } : Jvm.MethodName) jdk_31_method_10_code (1 : Nat) (Option.some (Jvm.ClassFile.FieldType.object "java/lang/Object"))).before args0 about1 = true := code_word (m := ⟨30, 1⟩) (meth := k30m1) (c := k30c1) (by decide +kernel) rfl rfl rfl (by decide +kernel)
def codes1 : List Jvm.Cond := [Jvm.Cond.code x code maxLocals ret, Jvm.Cond.code ({ cls := "java/lang/String", name := "<init>", desc := "([C)V" } : Jvm.MethodName) jdk_42_method_3_code (2 : Nat) (Option.none : Option Jvm.ClassFile.FieldType), Jvm.Cond.code ({ cls := "java/lang/String", name := "<init>", desc := "([CIILjava/lang/Void;)V" } : Jvm.MethodName) jdk_42_method_149_code (6 : Nat) (Option.none : Option Jvm.ClassFile.FieldType), Jvm.Cond.code ({ cls := "java/lang/Object", name := "<init>", desc := "()V" } : Jvm.MethodName) object_method_1_code (1 : Nat) (Option.none : Option Jvm.ClassFile.FieldType), Jvm.Cond.code ({ cls := "java/lang/StringUTF16", name := "compress", desc := "([CII)[B" } : Jvm.MethodName) jdk_52_method_16_code (6 : Nat) (Option.some (Jvm.ClassFile.FieldType.array Jvm.ClassFile.FieldType.byte)), Jvm.Cond.code ({ cls := "java/lang/StringUTF16", name := "compress", desc := "([CI[BII)I" } : Jvm.MethodName) jdk_52_method_21_code (7 : Nat) (Option.some Jvm.ClassFile.FieldType.int), Jvm.Cond.code ({ cls := "java/lang/StringUTF16", name := "coderFromArrayLen", desc := "([BI)B" } : Jvm.MethodName) jdk_52_method_15_code (2 : Nat) (Option.some Jvm.ClassFile.FieldType.byte), Jvm.Cond.code ({ cls := "java/util/ArrayList", name := "<init>", desc := "()V" } : Jvm.MethodName) jdk_38_method_2_code (1 : Nat) (Option.none : Option Jvm.ClassFile.FieldType), Jvm.Cond.code ({ cls := "java/util/AbstractList", name := "<init>", desc := "()V" } : Jvm.MethodName) jdk_39_method_1_code (1 : Nat) (Option.none : Option Jvm.ClassFile.FieldType), Jvm.Cond.code ({ cls := "java/util/AbstractCollection", name := "<init>", desc := "()V" } : Jvm.MethodName) jdk_22_method_1_code (1 : Nat) (Option.none : Option Jvm.ClassFile.FieldType), Jvm.Cond.code ({ cls := "com/example/sumgen/sumgen/model/SumType", name := "<init>", desc := "(Ljava/lang/String;Ljava/lang/String;Ljava/util/List;Ljava/util/List;Lcom/example/sumgen/sumgen/model/Place;Lcom/example/sumgen/sumgen/model/Place;)V" } : Jvm.MethodName) prog_25_method_1_code (7 : Nat) (Option.none : Option Jvm.ClassFile.FieldType), Jvm.Cond.code ({ cls := "java/lang/Record", name := "<init>", desc := "()V" } : Jvm.MethodName) jdk_30_method_1_code (1 : Nat) (Option.none : Option Jvm.ClassFile.FieldType), Jvm.Cond.code ({ cls := "java/util/List", name := "copyOf", desc := "(Ljava/util/Collection;)Ljava/util/List;" } : Jvm.MethodName) jdk_40_method_48_code (1 : Nat) (Option.some (Jvm.ClassFile.FieldType.object "java/util/List")), Jvm.Cond.code ({ cls := "java/util/ImmutableCollections", name := "listCopy", desc := "(Ljava/util/Collection;)Ljava/util/List;" } : Jvm.MethodName) jdk_56_method_3_code (2 : Nat) (Option.some (Jvm.ClassFile.FieldType.object "java/util/List")), Jvm.Cond.code ({ cls := "java/util/ArrayList", name := "isEmpty", desc := "()Z" } : Jvm.MethodName) jdk_38_method_9_code (1 : Nat) (Option.some Jvm.ClassFile.FieldType.boolean), Jvm.Cond.code ({ cls := "java/util/List", name := "of", desc := "()Ljava/util/List;" } : Jvm.MethodName) jdk_40_method_36_code (0 : Nat) (Option.some (Jvm.ClassFile.FieldType.object "java/util/List")), Jvm.Cond.code ({ cls := "java/util/ImmutableCollections$ListN", name := "isEmpty", desc := "()Z" } : Jvm.MethodName) jdk_45_method_2_code (1 : Nat) (Option.some Jvm.ClassFile.FieldType.boolean), Jvm.Cond.code ({ cls := "com/example/sumgen/sumgen/sql/Changes$TypeChange", name := "<init>", desc := "(Lcom/example/sumgen/sumgen/model/SumType;Lcom/example/sumgen/sumgen/model/SumType;Ljava/util/List;Ljava/util/List;Ljava/util/List;Ljava/util/List;)V" } : Jvm.MethodName) prog_30_method_1_code (7 : Nat) (Option.none : Option Jvm.ClassFile.FieldType), Jvm.Cond.code ({ cls := "com/example/sumgen/sumgen/sql/Changes$TypeChange", name := "addsType", desc := "()Z" } : Jvm.MethodName) prog_30_method_2_code (1 : Nat) (Option.some Jvm.ClassFile.FieldType.boolean), Jvm.Cond.code ({ cls := "com/example/sumgen/sumgen/model/Field", name := "<init>", desc := "(Ljava/lang/String;Lcom/example/sumgen/sumgen/model/FieldType;Lcom/example/sumgen/sumgen/model/Field$Multiplicity;Lcom/example/sumgen/sumgen/model/Place;)V" } : Jvm.MethodName) prog_14_method_1_code (5 : Nat) (Option.none : Option Jvm.ClassFile.FieldType), Jvm.Cond.code ({ cls := "java/util/ArrayList", name := "add", desc := "(Ljava/lang/Object;)Z" } : Jvm.MethodName) jdk_38_method_25_code (2 : Nat) (Option.some Jvm.ClassFile.FieldType.boolean), Jvm.Cond.code ({ cls := "java/util/ArrayList", name := "add", desc := "(Ljava/lang/Object;[Ljava/lang/Object;I)V" } : Jvm.MethodName) jdk_38_method_24_code (4 : Nat) (Option.none : Option Jvm.ClassFile.FieldType), Jvm.Cond.code ({ cls := "java/util/ArrayList", name := "grow", desc := "()[Ljava/lang/Object;" } : Jvm.MethodName) jdk_38_method_7_code (1 : Nat) (Option.some (Jvm.ClassFile.FieldType.array (Jvm.ClassFile.FieldType.object "java/lang/Object"))), Jvm.Cond.code ({ cls := "java/util/ArrayList", name := "grow", desc := "(I)[Ljava/lang/Object;" } : Jvm.MethodName) jdk_38_method_6_code (4 : Nat) (Option.some (Jvm.ClassFile.FieldType.array (Jvm.ClassFile.FieldType.object "java/lang/Object"))), Jvm.Cond.code ({ cls := "java/lang/Math", name := "max", desc := "(II)I" } : Jvm.MethodName) jdk_29_method_65_code (2 : Nat) (Option.some Jvm.ClassFile.FieldType.int), Jvm.Cond.code ({ cls := "java/util/ArrayList", name := "toArray", desc := "()[Ljava/lang/Object;" } : Jvm.MethodName) jdk_38_method_16_code (1 : Nat) (Option.some (Jvm.ClassFile.FieldType.array (Jvm.ClassFile.FieldType.object "java/lang/Object"))), Jvm.Cond.code ({ cls := "java/util/Arrays", name := "copyOf", desc := "([Ljava/lang/Object;I)[Ljava/lang/Object;" } : Jvm.MethodName) jdk_65_method_119_code (2 : Nat) (Option.some (Jvm.ClassFile.FieldType.array (Jvm.ClassFile.FieldType.object "java/lang/Object"))), Jvm.Cond.code ({ cls := "java/util/Arrays", name := "copyOf", desc := "([Ljava/lang/Object;ILjava/lang/Class;)[Ljava/lang/Object;" } : Jvm.MethodName) jdk_65_method_120_code (4 : Nat) (Option.some (Jvm.ClassFile.FieldType.array (Jvm.ClassFile.FieldType.object "java/lang/Object"))), Jvm.Cond.code ({ cls := "java/lang/Math", name := "min", desc := "(II)I" } : Jvm.MethodName) jdk_29_method_69_code (2 : Nat) (Option.some Jvm.ClassFile.FieldType.int), Jvm.Cond.code ({ cls := "java/util/List", name := "of", desc := "([Ljava/lang/Object;)Ljava/util/List;" } : Jvm.MethodName) jdk_40_method_47_code (2 : Nat) (Option.some (Jvm.ClassFile.FieldType.object "java/util/List")), Jvm.Cond.code ({ cls := "java/util/ImmutableCollections$List12", name := "<init>", desc := "(Ljava/lang/Object;)V" } : Jvm.MethodName) jdk_44_method_1_code (2 : Nat) (Option.none : Option Jvm.ClassFile.FieldType), Jvm.Cond.code ({ cls := "java/util/ImmutableCollections$AbstractImmutableList", name := "<init>", desc := "()V" } : Jvm.MethodName) jdk_46_method_1_code (1 : Nat) (Option.none : Option Jvm.ClassFile.FieldType), Jvm.Cond.code ({ cls := "java/util/ImmutableCollections$AbstractImmutableCollection", name := "<init>", desc := "()V" } : Jvm.MethodName) jdk_47_method_1_code (1 : Nat) (Option.none : Option Jvm.ClassFile.FieldType), Jvm.Cond.code ({ cls := "java/util/Objects", name := "requireNonNull", desc := "(Ljava/lang/Object;)Ljava/lang/Object;" } : Jvm.MethodName) jdk_31_method_10_code (1 : Nat) (Option.some (Jvm.ClassFile.FieldType.object "java/lang/Object"))]
set_option maxRecDepth 65536 in
theorem codes_eq : words1.filter isCode = codes1 := rfl
theorem w_codes : ∀ c ∈ words1.filter isCode, c.before args0 about1 = true := by
  rw [codes_eq]
  intro c hc
  simp only [codes1, List.mem_cons, List.not_mem_nil, or_false] at hc
  rcases hc with rfl | rfl | rfl | rfl | rfl | rfl | rfl | rfl | rfl | rfl | rfl | rfl | rfl | rfl | rfl | rfl | rfl | rfl | rfl | rfl | rfl | rfl | rfl | rfl | rfl | rfl | rfl | rfl | rfl | rfl | rfl | rfl | rfl | rfl
  · exact w_c0
  · exact w_c1
  · exact w_c2
  · exact w_c3
  · exact w_c4
  · exact w_c5
  · exact w_c6
  · exact w_c7
  · exact w_c8
  · exact w_c9
  · exact w_c10
  · exact w_c11
  · exact w_c12
  · exact w_c13
  · exact w_c14
  · exact w_c15
  · exact w_c16
  · exact w_c17
  · exact w_c18
  · exact w_c19
  · exact w_c20
  · exact w_c21
  · exact w_c22
  · exact w_c23
  · exact w_c24
  · exact w_c25
  · exact w_c26
  · exact w_c27
  · exact w_c28
  · exact w_c29
  · exact w_c30
  · exact w_c31
  · exact w_c32
  · exact w_c33
set_option maxRecDepth 65536 in
theorem w_t1 : (words1.take 24).all (fun c => isCode c || c.before args0 about1) = true := by decide +kernel
set_option maxRecDepth 65536 in
theorem w_t2 : ((words1.drop 24).take 24).all (fun c => isCode c || c.before args0 about1) = true := by decide +kernel
set_option maxRecDepth 65536 in
theorem w_t3 : (((words1.drop 24).drop 24).take 24).all (fun c => isCode c || c.before args0 about1) = true := by decide +kernel
set_option maxRecDepth 65536 in
theorem w_t4 : ((((words1.drop 24).drop 24).drop 24).take 24).all (fun c => isCode c || c.before args0 about1) = true := by decide +kernel
set_option maxRecDepth 65536 in
theorem w_t5 : (((((words1.drop 24).drop 24).drop 24).drop 24).take 24).all (fun c => isCode c || c.before args0 about1) = true := by decide +kernel
set_option maxRecDepth 65536 in
theorem w_t6 : ((((((words1.drop 24).drop 24).drop 24).drop 24).drop 24).take 24).all (fun c => isCode c || c.before args0 about1) = true := by decide +kernel
set_option maxRecDepth 65536 in
theorem w_t7 : (((((((words1.drop 24).drop 24).drop 24).drop 24).drop 24).drop 24).take 24).all (fun c => isCode c || c.before args0 about1) = true := by decide +kernel
set_option maxRecDepth 65536 in
theorem w_t8 : ((((((((words1.drop 24).drop 24).drop 24).drop 24).drop 24).drop 24).drop 24).take 24).all (fun c => isCode c || c.before args0 about1) = true := by decide +kernel
set_option maxRecDepth 65536 in
theorem w_t9 : (((((((((words1.drop 24).drop 24).drop 24).drop 24).drop 24).drop 24).drop 24).drop 24).take 24).all (fun c => isCode c || c.before args0 about1) = true := by decide +kernel
set_option maxRecDepth 65536 in
theorem w_t10 : ((((((((((words1.drop 24).drop 24).drop 24).drop 24).drop 24).drop 24).drop 24).drop 24).drop 24).take 24).all (fun c => isCode c || c.before args0 about1) = true := by decide +kernel
set_option maxRecDepth 65536 in
theorem w_t11 : ((((((((((words1.drop 24).drop 24).drop 24).drop 24).drop 24).drop 24).drop 24).drop 24).drop 24).drop 24).all (fun c => isCode c || c.before args0 about1) = true := by decide +kernel
theorem w_tables : (allAtoms (Jvm.Cond.code x code maxLocals ret :: tables_1)).before args0 about1 = true := by
  rw [allAtoms_all]
  show words1.all (fun c => c.before args0 about1) = true
  refine all_split ?_ w_codes
  rw [← List.take_append_drop 24 words1, List.all_append, w_t1, ← List.take_append_drop 24 (words1.drop 24), List.all_append, w_t2, ← List.take_append_drop 24 ((words1.drop 24).drop 24), List.all_append, w_t3, ← List.take_append_drop 24 (((words1.drop 24).drop 24).drop 24), List.all_append, w_t4, ← List.take_append_drop 24 ((((words1.drop 24).drop 24).drop 24).drop 24), List.all_append, w_t5, ← List.take_append_drop 24 (((((words1.drop 24).drop 24).drop 24).drop 24).drop 24), List.all_append, w_t6, ← List.take_append_drop 24 ((((((words1.drop 24).drop 24).drop 24).drop 24).drop 24).drop 24), List.all_append, w_t7, ← List.take_append_drop 24 (((((((words1.drop 24).drop 24).drop 24).drop 24).drop 24).drop 24).drop 24), List.all_append, w_t8, ← List.take_append_drop 24 ((((((((words1.drop 24).drop 24).drop 24).drop 24).drop 24).drop 24).drop 24).drop 24), List.all_append, w_t9, ← List.take_append_drop 24 (((((((((words1.drop 24).drop 24).drop 24).drop 24).drop 24).drop 24).drop 24).drop 24).drop 24), List.all_append, w_t10, w_t11]
  rfl
set_option maxRecDepth 65536 in
theorem w_rest : rest_1_c.before args0 about1 = true := by decide +kernel
set_option maxRecDepth 65536 in
theorem w_case : (Jvm.Cond.and given_1 narrow_1).before args0 about1 = true := by decide +kernel
theorem w_applies : (headSpec (Jvm.Cond.code x code maxLocals ret :: tables_1) room_1).applies x e0.platform about1 = true :=
  (Spec.applies_iff w_frames).mpr ⟨w_running, w_runnable, w_alone, w_named, w_hears, w_ripe, w_room, w_tables⟩
theorem atStart : AtStart classFile x code maxLocals ret World_1 tables_1 room_1 Calls_1 rest_1 Pre_1 launch0 p0 e0 about1 theMethod args0 below0 :=
  ⟨lists_1, trivial, launch0.admits_env _ _ _, launch0.least_env, fairChoices_fair.cas, fairChoices_fair.clock, w_frames, w_args, w_heap, w_applies, ⟨⟨41, k41, 4, by decide +kernel, rfl, rfl, _, rfl, rfl⟩, trivial⟩, w_rest, w_case⟩
end start1
theorem witness_1 : WitnessClaimed_1 := ⟨start1.p0, start1.e0, start1.about1, start1.theMethod, start1.args0, start1.below0, start1.atStart⟩
end Jvm.Pilot.@@N@@
